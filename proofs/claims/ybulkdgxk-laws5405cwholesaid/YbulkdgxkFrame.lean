/-
  LawS5405CWhole (function 4) STATEMENT BY STATEMENT: the body's k-th statement; the frame of 537 slots as an array of which some slots are known; rows of cells as functions.
-/
import Derived.Test.YbulkdgxkProg
import Derived.Test.YbulkdgxkHeap
namespace Go.Proofs.Ybulkdgxk
open Go.RowKit

/-- The k-th statement of a body. -/
def stm : Nat → Code → Code
  | 0, .seq a _ => a
  | k + 1, .seq _ b => stm k b
  | _, c => c
/-- The body from its k-th statement on. -/
def from_ : Nat → Code → Code
  | 0, c => c
  | k + 1, .seq _ b => from_ k b
  | _, c => c
/-- The inner code of a block or loop. -/
def inner : Code → Code
  | .block _ c => c
  | .loop c => c
  | c => c

/-- Of a frame: how many slots it has, and what some of them hold. -/
def Sl (n : Nat) (arr : Array Value) : List (Nat × Value) → Prop
  | [] => arr.size = n
  | (k, v) :: l => arr.getD k undef = v ∧ Sl n arr l

theorem Sl.size {n : Nat} {arr : Array Value} : ∀ {l : List (Nat × Value)}, Sl n arr l → arr.size = n
  | [], h => h
  | _ :: _, h => Sl.size h.2

theorem range_map (arr : Array Value) : arr = ((List.range arr.size).map (fun k => arr.getD k undef)).toArray := by
  apply Array.ext
  · simp
  · intro i h1 h2; simp [h1]
set_option maxRecDepth 100000 in
theorem range537 (t : Nat → Value) : ((List.range 537).map t).toArray = #[t 0, t 1, t 2, t 3, t 4, t 5, t 6, t 7, t 8, t 9, t 10, t 11, t 12, t 13, t 14, t 15, t 16, t 17, t 18, t 19, t 20, t 21, t 22, t 23, t 24, t 25, t 26, t 27, t 28, t 29, t 30, t 31, t 32, t 33, t 34, t 35, t 36, t 37, t 38, t 39, t 40, t 41, t 42, t 43, t 44, t 45, t 46, t 47, t 48, t 49, t 50, t 51, t 52, t 53, t 54, t 55, t 56, t 57, t 58, t 59, t 60, t 61, t 62, t 63, t 64, t 65, t 66, t 67, t 68, t 69, t 70, t 71, t 72, t 73, t 74, t 75, t 76, t 77, t 78, t 79, t 80, t 81, t 82, t 83, t 84, t 85, t 86, t 87, t 88, t 89, t 90, t 91, t 92, t 93, t 94, t 95, t 96, t 97, t 98, t 99, t 100, t 101, t 102, t 103, t 104, t 105, t 106, t 107, t 108, t 109, t 110, t 111, t 112, t 113, t 114, t 115, t 116, t 117, t 118, t 119, t 120, t 121, t 122, t 123, t 124, t 125, t 126, t 127, t 128, t 129, t 130, t 131, t 132, t 133, t 134, t 135, t 136, t 137, t 138, t 139, t 140, t 141, t 142, t 143, t 144, t 145, t 146, t 147, t 148, t 149, t 150, t 151, t 152, t 153, t 154, t 155, t 156, t 157, t 158, t 159, t 160, t 161, t 162, t 163, t 164, t 165, t 166, t 167, t 168, t 169, t 170, t 171, t 172, t 173, t 174, t 175, t 176, t 177, t 178, t 179, t 180, t 181, t 182, t 183, t 184, t 185, t 186, t 187, t 188, t 189, t 190, t 191, t 192, t 193, t 194, t 195, t 196, t 197, t 198, t 199, t 200, t 201, t 202, t 203, t 204, t 205, t 206, t 207, t 208, t 209, t 210, t 211, t 212, t 213, t 214, t 215, t 216, t 217, t 218, t 219, t 220, t 221, t 222, t 223, t 224, t 225, t 226, t 227, t 228, t 229, t 230, t 231, t 232, t 233, t 234, t 235, t 236, t 237, t 238, t 239, t 240, t 241, t 242, t 243, t 244, t 245, t 246, t 247, t 248, t 249, t 250, t 251, t 252, t 253, t 254, t 255, t 256, t 257, t 258, t 259, t 260, t 261, t 262, t 263, t 264, t 265, t 266, t 267, t 268, t 269, t 270, t 271, t 272, t 273, t 274, t 275, t 276, t 277, t 278, t 279, t 280, t 281, t 282, t 283, t 284, t 285, t 286, t 287, t 288, t 289, t 290, t 291, t 292, t 293, t 294, t 295, t 296, t 297, t 298, t 299, t 300, t 301, t 302, t 303, t 304, t 305, t 306, t 307, t 308, t 309, t 310, t 311, t 312, t 313, t 314, t 315, t 316, t 317, t 318, t 319, t 320, t 321, t 322, t 323, t 324, t 325, t 326, t 327, t 328, t 329, t 330, t 331, t 332, t 333, t 334, t 335, t 336, t 337, t 338, t 339, t 340, t 341, t 342, t 343, t 344, t 345, t 346, t 347, t 348, t 349, t 350, t 351, t 352, t 353, t 354, t 355, t 356, t 357, t 358, t 359, t 360, t 361, t 362, t 363, t 364, t 365, t 366, t 367, t 368, t 369, t 370, t 371, t 372, t 373, t 374, t 375, t 376, t 377, t 378, t 379, t 380, t 381, t 382, t 383, t 384, t 385, t 386, t 387, t 388, t 389, t 390, t 391, t 392, t 393, t 394, t 395, t 396, t 397, t 398, t 399, t 400, t 401, t 402, t 403, t 404, t 405, t 406, t 407, t 408, t 409, t 410, t 411, t 412, t 413, t 414, t 415, t 416, t 417, t 418, t 419, t 420, t 421, t 422, t 423, t 424, t 425, t 426, t 427, t 428, t 429, t 430, t 431, t 432, t 433, t 434, t 435, t 436, t 437, t 438, t 439, t 440, t 441, t 442, t 443, t 444, t 445, t 446, t 447, t 448, t 449, t 450, t 451, t 452, t 453, t 454, t 455, t 456, t 457, t 458, t 459, t 460, t 461, t 462, t 463, t 464, t 465, t 466, t 467, t 468, t 469, t 470, t 471, t 472, t 473, t 474, t 475, t 476, t 477, t 478, t 479, t 480, t 481, t 482, t 483, t 484, t 485, t 486, t 487, t 488, t 489, t 490, t 491, t 492, t 493, t 494, t 495, t 496, t 497, t 498, t 499, t 500, t 501, t 502, t 503, t 504, t 505, t 506, t 507, t 508, t 509, t 510, t 511, t 512, t 513, t 514, t 515, t 516, t 517, t 518, t 519, t 520, t 521, t 522, t 523, t 524, t 525, t 526, t 527, t 528, t 529, t 530, t 531, t 532, t 533, t 534, t 535, t 536] := by kernel_rfl
/-- A frame of 537 slots, written out. -/
theorem lit537 {arr : Array Value} (h : arr.size = 537) : ∃ t : Nat → Value, (∀ k, arr.getD k undef = t k) ∧ arr = ((List.range 537).map t).toArray :=
  ⟨fun k => arr.getD k undef, fun _ => rfl, by rw [← h]; exact range_map arr⟩

/-! ### Rows of cells, as functions -/
/-- Block g is an unmarked row of cells of type E whose first cells are f 0, f 1, .. f (len - 1). -/
def RowF (w : World) (g : Nat) (E : TypeId) (len : Nat) (f : Nat → Value) : Prop := ∃ c : Array Value, w.heap[g]? = some (.cells c E (0, 0)) ∧ len ≤ c.size ∧ ∀ i, i < len → c[i]? = some (f i)
/-- f with another value at i. -/
def upd (f : Nat → Value) (i : Nat) (v : Value) : Nat → Value := fun j => if j = i then v else f j

section
variable {w w' : World} {g g' : Nat} {E : TypeId} {len : Nat} {f : Nat → Value}
theorem RowF.lt (h : RowF w g E len f) : g < w.heap.size := by
  obtain ⟨c, h, _⟩ := h
  exact (Array.getElem?_eq_some_iff.1 h).1
theorem RowF.cell (h : RowF w g E len f) {i : Nat} (hi : i < len) : w.cell? ⟨g, i, none⟩ = some (f i) := by
  obtain ⟨c, h1, h2, h3⟩ := h
  unfold World.cell?; rw [show w.heap[(⟨g, i, none⟩ : Addr).block]? = _ from h1]; simpa using h3 i hi
theorem RowF.free (h : RowF w g E len f) (i : Nat) : w.frozen? ⟨g, i, none⟩ = false := by
  obtain ⟨c, h1, h2, h3⟩ := h
  unfold World.frozen?; rw [show w.heap[(⟨g, i, none⟩ : Addr).block]? = _ from h1]; simp
theorem RowF.set (h : RowF w g E len f) (i : Nat) (v : Value) : RowF (w.setCell ⟨g, i, none⟩ v) g E len (upd f i v) := by
  obtain ⟨c, h1, h2, h3⟩ := h
  refine ⟨c.setIfInBounds i v, ?_, by simpa using h2, fun j hj => ?_⟩
  · simp only [World.setCell, Array.getElem?_modify, if_true, h1, Option.map_some]; simp
  · rw [Array.getElem?_setIfInBounds]
    unfold upd
    by_cases e : i = j
    · subst e; simp; omega
    · rw [if_neg e, if_neg (fun x => e x.symm)]; exact h3 j hj
theorem RowF.other (h : RowF w g E len f) {a : Addr} (ha : a.block ≠ g) (v : Value) : RowF (w.setCell a v) g E len f := by
  obtain ⟨c, h1, h2, h3⟩ := h
  exact ⟨c, by rw [Below.heap_setCell _ _ _ _ (fun e => ha e.symm)]; exact h1, h2, h3⟩
theorem RowF.alloc (h : RowF w g E len f) (o : Obj) : RowF (w.alloc o) g E len f := by
  have hl := h.lt
  obtain ⟨c, h1, h2, h3⟩ := h
  exact ⟨c, by rw [Below.heap_alloc _ _ _ hl]; exact h1, h2, h3⟩
theorem RowF.drew (h : RowF w g E len f) : RowF w.drew g E len f := h
theorem RowF.drewN (h : RowF w g E len f) (n : Nat) : RowF (w.drewN n) g E len f := h
theorem RowF.below {B : Nat} (h : RowF w g E len f) (hb : Below B w w') (hg : g < B) : RowF w' g E len f := by
  obtain ⟨c, h1, h2, h3⟩ := h
  exact ⟨c, (hb.block g hg).trans h1, h2, h3⟩
theorem RowF.grown {r : Option Nat} (h : RowF w g E len f) (hg : w.grownBy w' r) (hr : r ≠ some g) : RowF w' g E len f := by
  have hl := h.lt
  obtain ⟨c, h1, h2, h3⟩ := h
  exact ⟨c, (hg.block g hl (fun e => hr e.symm)).trans h1, h2, h3⟩
theorem RowF.congr (h : RowF w g E len f) {f' : Nat → Value} (hf : ∀ i, i < len → f i = f' i) : RowF w g E len f' := by
  obtain ⟨c, h1, h2, h3⟩ := h
  exact ⟨c, h1, h2, fun i hi => by rw [h3 i hi, hf i hi]⟩
theorem RowF.new (w : World) (E : TypeId) (n : Nat) (v : Value) : RowF (w.alloc (.cells (Array.replicate n v) E)) w.heap.size E n (fun _ => v) :=
  ⟨Array.replicate n v, by show (w.heap.push _)[w.heap.size]? = _; simp, by simp, fun i hi => by simp [hi]⟩
end

/-- From w to w' only blocks of S have turned; new ones may have come; the streams are as they were. -/
structure Chg (w w' : World) (S : Nat → Prop) : Prop where
  os : w'.os = w.os
  tape : w'.tape = w.tape
  output : w'.output = w.output
  size : w.heap.size ≤ w'.heap.size
  block : ∀ k, k < w.heap.size → ¬ S k → w'.heap[k]? = w.heap[k]?

section
variable {w w1 w' : World} {S : Nat → Prop}
theorem Chg.refl (w : World) (S : Nat → Prop) : Chg w w S := ⟨rfl, rfl, rfl, Nat.le_refl _, fun _ _ _ => rfl⟩
theorem Chg.trans (h : Chg w w1 S) (k : Chg w1 w' S) : Chg w w' S :=
  ⟨k.os.trans h.os, k.tape.trans h.tape, k.output.trans h.output, Nat.le_trans h.size k.size, fun i hi hs => (k.block i (Nat.lt_of_lt_of_le hi h.size) hs).trans (h.block i hi hs)⟩
theorem Chg.mono (h : Chg w w' S) {T : Nat → Prop} (hs : ∀ k, k < w.heap.size → S k → T k) : Chg w w' T := ⟨h.os, h.tape, h.output, h.size, fun k hk hn => h.block k hk (fun x => hn (hs k hk x))⟩
theorem Chg.setCell (h : Chg w w1 S) {a : Addr} (ha : S a.block ∨ w.heap.size ≤ a.block) (v : Value) : Chg w (w1.setCell a v) S :=
  ⟨h.os, h.tape, h.output, by simpa [World.setCell] using h.size, fun k hk hn => by
    rw [Below.heap_setCell _ _ _ _ (fun e => by subst e; rcases ha with x | x; exact hn x; omega)]; exact h.block k hk hn⟩
theorem Chg.alloc (h : Chg w w1 S) (o : Obj) : Chg w (w1.alloc o) S :=
  ⟨h.os, h.tape, h.output, by have := h.size; simp; omega, fun k hk hn => by rw [Below.heap_alloc _ _ _ (Nat.lt_of_lt_of_le hk h.size)]; exact h.block k hk hn⟩
theorem Chg.drew (h : Chg w w1 S) : Chg w w1.drew S := ⟨h.os, h.tape, h.output, h.size, h.block⟩
theorem Chg.drewN (h : Chg w w1 S) (n : Nat) : Chg w (w1.drewN n) S := ⟨h.os, h.tape, h.output, h.size, h.block⟩
theorem Chg.grown (h : Chg w w1 S) {r : Option Nat} (hg : w1.grownBy w' r) (hr : ∀ k, r = some k → S k ∨ w.heap.size ≤ k) : Chg w w' S :=
  ⟨hg.os.trans h.os, hg.tape.trans h.tape, hg.output.trans h.output, Nat.le_trans h.size hg.size, fun k hk hn => (hg.block k (Nat.lt_of_lt_of_le hk h.size) (fun e => by
    rcases hr k e.symm with x | x
    · exact hn x
    · omega)).trans (h.block k hk hn)⟩
theorem Chg.below (h : Chg w w' S) {B : Nat} (hB : B ≤ w.heap.size) (hs : ∀ k, k < B → ¬ S k) : Below B w w' := ⟨h.os, h.tape, h.output, h.size, fun k hk => h.block k (by omega) (hs k hk)⟩
theorem RowF.chg {g : Nat} {E : TypeId} {len : Nat} {f : Nat → Value} (h : RowF w g E len f) (hc : Chg w w' S) (hs : ¬ S g) : RowF w' g E len f := by
  have hl := h.lt
  obtain ⟨c, h1, h2, h3⟩ := h
  exact ⟨c, (hc.block g hl hs).trans h1, h2, h3⟩
end

/-- THE FRAME OF LawS5405CWhole between two statements: the slots that are read later. -/
def Fr (arr : Array Value) (v0 v1 v2 v3 v4 v11 v12 v13 v14 v16 v17 v19 v21 v23 v24 v25 v26 v30 v31 v32 v39 : Value) : Prop :=
  arr.size = 537 ∧ arr.getD 0 undef = v0 ∧ arr.getD 1 undef = v1 ∧ arr.getD 2 undef = v2 ∧ arr.getD 3 undef = v3 ∧ arr.getD 4 undef = v4 ∧ arr.getD 11 undef = v11 ∧ arr.getD 12 undef = v12 ∧ arr.getD 13 undef = v13 ∧ arr.getD 14 undef = v14 ∧ arr.getD 16 undef = v16 ∧ arr.getD 17 undef = v17 ∧ arr.getD 19 undef = v19 ∧ arr.getD 21 undef = v21 ∧ arr.getD 23 undef = v23 ∧ arr.getD 24 undef = v24 ∧ arr.getD 25 undef = v25 ∧ arr.getD 26 undef = v26 ∧ arr.getD 30 undef = v30 ∧ arr.getD 31 undef = v31 ∧ arr.getD 32 undef = v32 ∧ arr.getD 39 undef = v39

theorem Fr.mk {arr : Array Value} {v0 v1 v2 v3 v4 v11 v12 v13 v14 v16 v17 v19 v21 v23 v24 v25 v26 v30 v31 v32 v39 : Value} (h : arr.size = 537) (h0 : arr.getD 0 undef = v0) (h1 : arr.getD 1 undef = v1) (h2 : arr.getD 2 undef = v2) (h3 : arr.getD 3 undef = v3) (h4 : arr.getD 4 undef = v4) (h11 : arr.getD 11 undef = v11) (h12 : arr.getD 12 undef = v12) (h13 : arr.getD 13 undef = v13) (h14 : arr.getD 14 undef = v14) (h16 : arr.getD 16 undef = v16) (h17 : arr.getD 17 undef = v17) (h19 : arr.getD 19 undef = v19) (h21 : arr.getD 21 undef = v21) (h23 : arr.getD 23 undef = v23) (h24 : arr.getD 24 undef = v24) (h25 : arr.getD 25 undef = v25) (h26 : arr.getD 26 undef = v26) (h30 : arr.getD 30 undef = v30) (h31 : arr.getD 31 undef = v31) (h32 : arr.getD 32 undef = v32) (h39 : arr.getD 39 undef = v39) : Fr arr v0 v1 v2 v3 v4 v11 v12 v13 v14 v16 v17 v19 v21 v23 v24 v25 v26 v30 v31 v32 v39 :=
  ⟨h, h0, h1, h2, h3, h4, h11, h12, h13, h14, h16, h17, h19, h21, h23, h24, h25, h26, h30, h31, h32, h39⟩

set_option maxRecDepth 100000 in
theorem Fr.open {arr : Array Value} {v0 v1 v2 v3 v4 v11 v12 v13 v14 v16 v17 v19 v21 v23 v24 v25 v26 v30 v31 v32 v39 : Value} (h : Fr arr v0 v1 v2 v3 v4 v11 v12 v13 v14 v16 v17 v19 v21 v23 v24 v25 v26 v30 v31 v32 v39) {P : Program} {c : Code} {Q : Exit → Act → World → Prop} {w : World}
    (hw : ∀ t : Nat → Value, c.wp P Q ⟨#[v0, v1, v2, v3, v4, t 5, t 6, t 7, t 8, t 9, t 10, v11, v12, v13, v14, t 15, v16, v17, t 18, v19, t 20, v21, t 22, v23, v24, v25, v26, t 27, t 28, t 29, v30, v31, v32, t 33, t 34, t 35, t 36, t 37, t 38, v39, t 40, t 41, t 42, t 43, t 44, t 45, t 46, t 47, t 48, t 49, t 50, t 51, t 52, t 53, t 54, t 55, t 56, t 57, t 58, t 59, t 60, t 61, t 62, t 63, t 64, t 65, t 66, t 67, t 68, t 69, t 70, t 71, t 72, t 73, t 74, t 75, t 76, t 77, t 78, t 79, t 80, t 81, t 82, t 83, t 84, t 85, t 86, t 87, t 88, t 89, t 90, t 91, t 92, t 93, t 94, t 95, t 96, t 97, t 98, t 99, t 100, t 101, t 102, t 103, t 104, t 105, t 106, t 107, t 108, t 109, t 110, t 111, t 112, t 113, t 114, t 115, t 116, t 117, t 118, t 119, t 120, t 121, t 122, t 123, t 124, t 125, t 126, t 127, t 128, t 129, t 130, t 131, t 132, t 133, t 134, t 135, t 136, t 137, t 138, t 139, t 140, t 141, t 142, t 143, t 144, t 145, t 146, t 147, t 148, t 149, t 150, t 151, t 152, t 153, t 154, t 155, t 156, t 157, t 158, t 159, t 160, t 161, t 162, t 163, t 164, t 165, t 166, t 167, t 168, t 169, t 170, t 171, t 172, t 173, t 174, t 175, t 176, t 177, t 178, t 179, t 180, t 181, t 182, t 183, t 184, t 185, t 186, t 187, t 188, t 189, t 190, t 191, t 192, t 193, t 194, t 195, t 196, t 197, t 198, t 199, t 200, t 201, t 202, t 203, t 204, t 205, t 206, t 207, t 208, t 209, t 210, t 211, t 212, t 213, t 214, t 215, t 216, t 217, t 218, t 219, t 220, t 221, t 222, t 223, t 224, t 225, t 226, t 227, t 228, t 229, t 230, t 231, t 232, t 233, t 234, t 235, t 236, t 237, t 238, t 239, t 240, t 241, t 242, t 243, t 244, t 245, t 246, t 247, t 248, t 249, t 250, t 251, t 252, t 253, t 254, t 255, t 256, t 257, t 258, t 259, t 260, t 261, t 262, t 263, t 264, t 265, t 266, t 267, t 268, t 269, t 270, t 271, t 272, t 273, t 274, t 275, t 276, t 277, t 278, t 279, t 280, t 281, t 282, t 283, t 284, t 285, t 286, t 287, t 288, t 289, t 290, t 291, t 292, t 293, t 294, t 295, t 296, t 297, t 298, t 299, t 300, t 301, t 302, t 303, t 304, t 305, t 306, t 307, t 308, t 309, t 310, t 311, t 312, t 313, t 314, t 315, t 316, t 317, t 318, t 319, t 320, t 321, t 322, t 323, t 324, t 325, t 326, t 327, t 328, t 329, t 330, t 331, t 332, t 333, t 334, t 335, t 336, t 337, t 338, t 339, t 340, t 341, t 342, t 343, t 344, t 345, t 346, t 347, t 348, t 349, t 350, t 351, t 352, t 353, t 354, t 355, t 356, t 357, t 358, t 359, t 360, t 361, t 362, t 363, t 364, t 365, t 366, t 367, t 368, t 369, t 370, t 371, t 372, t 373, t 374, t 375, t 376, t 377, t 378, t 379, t 380, t 381, t 382, t 383, t 384, t 385, t 386, t 387, t 388, t 389, t 390, t 391, t 392, t 393, t 394, t 395, t 396, t 397, t 398, t 399, t 400, t 401, t 402, t 403, t 404, t 405, t 406, t 407, t 408, t 409, t 410, t 411, t 412, t 413, t 414, t 415, t 416, t 417, t 418, t 419, t 420, t 421, t 422, t 423, t 424, t 425, t 426, t 427, t 428, t 429, t 430, t 431, t 432, t 433, t 434, t 435, t 436, t 437, t 438, t 439, t 440, t 441, t 442, t 443, t 444, t 445, t 446, t 447, t 448, t 449, t 450, t 451, t 452, t 453, t 454, t 455, t 456, t 457, t 458, t 459, t 460, t 461, t 462, t 463, t 464, t 465, t 466, t 467, t 468, t 469, t 470, t 471, t 472, t 473, t 474, t 475, t 476, t 477, t 478, t 479, t 480, t 481, t 482, t 483, t 484, t 485, t 486, t 487, t 488, t 489, t 490, t 491, t 492, t 493, t 494, t 495, t 496, t 497, t 498, t 499, t 500, t 501, t 502, t 503, t 504, t 505, t 506, t 507, t 508, t 509, t 510, t 511, t 512, t 513, t 514, t 515, t 516, t 517, t 518, t 519, t 520, t 521, t 522, t 523, t 524, t 525, t 526, t 527, t 528, t 529, t 530, t 531, t 532, t 533, t 534, t 535, t 536], []⟩ w) : c.wp P Q ⟨arr, []⟩ w := by
  obtain ⟨hs, h0, h1, h2, h3, h4, h11, h12, h13, h14, h16, h17, h19, h21, h23, h24, h25, h26, h30, h31, h32, h39⟩ := h
  obtain ⟨t, ht, rfl⟩ := lit537 hs
  rw [ht] at h0 h1 h2 h3 h4 h11 h12 h13 h14 h16 h17 h19 h21 h23 h24 h25 h26 h30 h31 h32 h39
  subst h0 h1 h2 h3 h4 h11 h12 h13 h14 h16 h17 h19 h21 h23 h24 h25 h26 h30 h31 h32 h39
  rw [range537]
  exact hw t
end Go.Proofs.Ybulkdgxk
