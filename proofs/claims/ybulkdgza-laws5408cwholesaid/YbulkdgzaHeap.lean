/-
  Rows of cells as functions; what a step of the world may turn. No program in sight.
-/
import Derived.WalkKit
import Derived.WalkSpells
import Derived.WalkLawsBesides
namespace Go.Proofs.Ybulkdgza
open Go.RowKit

/-! ### Rows of cells, as functions -/
/-- Block g is an unmarked row of cells of type E whose first cells are f 0, f 1, .. f (len - 1). -/
def RowF (w : World) (g : Nat) (E : TypeId) (len : Nat) (f : Nat → Value) : Prop := ∃ c : Array Value, w.heap[g]? = some (.cells c E (0, 0)) ∧ len ≤ c.size ∧ ∀ i, i < len → c[i]? = some (f i)
/-- f with another value at i. -/
def upd (f : Nat → Value) (i : Nat) (v : Value) : Nat → Value := fun j => if j = i then v else f j

section
variable {w w' : World} {g g' : Nat} {E : TypeId} {len : Nat} {f : Nat → Value}
theorem RowF.lt (h : RowF w g E len f) : g < w.heap.size := by
  obtain ⟨c, h, _⟩ := h
  exact (Array.getElem?_eq_some_iff.1 h).1
theorem RowF.cell (h : RowF w g E len f) {i : Nat} (hi : i < len) : w.cell? ⟨g, i, none⟩ = some (f i) := by
  obtain ⟨c, h1, h2, h3⟩ := h
  unfold World.cell?; rw [show w.heap[(⟨g, i, none⟩ : Addr).block]? = _ from h1]; simpa using h3 i hi
theorem RowF.free (h : RowF w g E len f) (i : Nat) : w.frozen? ⟨g, i, none⟩ = false := by
  obtain ⟨c, h1, h2, h3⟩ := h
  unfold World.frozen?; rw [show w.heap[(⟨g, i, none⟩ : Addr).block]? = _ from h1]; simp
theorem RowF.set (h : RowF w g E len f) (i : Nat) (v : Value) : RowF (w.setCell ⟨g, i, none⟩ v) g E len (upd f i v) := by
  obtain ⟨c, h1, h2, h3⟩ := h
  refine ⟨c.setIfInBounds i v, ?_, by simpa using h2, fun j hj => ?_⟩
  · simp only [World.setCell, Array.getElem?_modify, if_true, h1, Option.map_some]; simp
  · rw [Array.getElem?_setIfInBounds]
    unfold upd
    by_cases e : i = j
    · subst e; simp; omega
    · rw [if_neg e, if_neg (fun x => e x.symm)]; exact h3 j hj
theorem RowF.other (h : RowF w g E len f) {a : Addr} (ha : a.block ≠ g) (v : Value) : RowF (w.setCell a v) g E len f := by
  obtain ⟨c, h1, h2, h3⟩ := h
  exact ⟨c, by rw [Below.heap_setCell _ _ _ _ (fun e => ha e.symm)]; exact h1, h2, h3⟩
theorem RowF.alloc (h : RowF w g E len f) (o : Obj) : RowF (w.alloc o) g E len f := by
  have hl := h.lt
  obtain ⟨c, h1, h2, h3⟩ := h
  exact ⟨c, by rw [Below.heap_alloc _ _ _ hl]; exact h1, h2, h3⟩
theorem RowF.drew (h : RowF w g E len f) : RowF w.drew g E len f := h
theorem RowF.drewN (h : RowF w g E len f) (n : Nat) : RowF (w.drewN n) g E len f := h
theorem RowF.below {B : Nat} (h : RowF w g E len f) (hb : Below B w w') (hg : g < B) : RowF w' g E len f := by
  obtain ⟨c, h1, h2, h3⟩ := h
  exact ⟨c, (hb.block g hg).trans h1, h2, h3⟩
theorem RowF.grown {r : Option Nat} (h : RowF w g E len f) (hg : w.grownBy w' r) (hr : r ≠ some g) : RowF w' g E len f := by
  have hl := h.lt
  obtain ⟨c, h1, h2, h3⟩ := h
  exact ⟨c, (hg.block g hl (fun e => hr e.symm)).trans h1, h2, h3⟩
theorem RowF.congr (h : RowF w g E len f) {f' : Nat → Value} (hf : ∀ i, i < len → f i = f' i) : RowF w g E len f' := by
  obtain ⟨c, h1, h2, h3⟩ := h
  exact ⟨c, h1, h2, fun i hi => by rw [h3 i hi, hf i hi]⟩
theorem RowF.new (w : World) (E : TypeId) (n : Nat) (v : Value) : RowF (w.alloc (.cells (Array.replicate n v) E)) w.heap.size E n (fun _ => v) :=
  ⟨Array.replicate n v, by show (w.heap.push _)[w.heap.size]? = _; simp, by simp, fun i hi => by simp [hi]⟩
end

/-- From w to w' only blocks of S have turned; new ones may have come; the streams are as they were. -/
structure Chg (w w' : World) (S : Nat → Prop) : Prop where
  os : w'.os = w.os
  tape : w'.tape = w.tape
  output : w'.output = w.output
  size : w.heap.size ≤ w'.heap.size
  block : ∀ k, k < w.heap.size → ¬ S k → w'.heap[k]? = w.heap[k]?

section
variable {w w1 w' : World} {S : Nat → Prop}
theorem Chg.refl (w : World) (S : Nat → Prop) : Chg w w S := ⟨rfl, rfl, rfl, Nat.le_refl _, fun _ _ _ => rfl⟩
theorem Chg.trans (h : Chg w w1 S) (k : Chg w1 w' S) : Chg w w' S :=
  ⟨k.os.trans h.os, k.tape.trans h.tape, k.output.trans h.output, Nat.le_trans h.size k.size, fun i hi hs => (k.block i (Nat.lt_of_lt_of_le hi h.size) hs).trans (h.block i hi hs)⟩
theorem Chg.mono (h : Chg w w' S) {T : Nat → Prop} (hs : ∀ k, k < w.heap.size → S k → T k) : Chg w w' T := ⟨h.os, h.tape, h.output, h.size, fun k hk hn => h.block k hk (fun x => hn (hs k hk x))⟩
theorem Chg.setCell (h : Chg w w1 S) {a : Addr} (ha : S a.block ∨ w.heap.size ≤ a.block) (v : Value) : Chg w (w1.setCell a v) S :=
  ⟨h.os, h.tape, h.output, by simpa [World.setCell] using h.size, fun k hk hn => by
    rw [Below.heap_setCell _ _ _ _ (fun e => by subst e; rcases ha with x | x; exact hn x; omega)]; exact h.block k hk hn⟩
theorem Chg.alloc (h : Chg w w1 S) (o : Obj) : Chg w (w1.alloc o) S :=
  ⟨h.os, h.tape, h.output, by have := h.size; simp; omega, fun k hk hn => by rw [Below.heap_alloc _ _ _ (Nat.lt_of_lt_of_le hk h.size)]; exact h.block k hk hn⟩
theorem Chg.drew (h : Chg w w1 S) : Chg w w1.drew S := ⟨h.os, h.tape, h.output, h.size, h.block⟩
theorem Chg.drewN (h : Chg w w1 S) (n : Nat) : Chg w (w1.drewN n) S := ⟨h.os, h.tape, h.output, h.size, h.block⟩
theorem Chg.grown (h : Chg w w1 S) {r : Option Nat} (hg : w1.grownBy w' r) (hr : ∀ k, r = some k → S k ∨ w.heap.size ≤ k) : Chg w w' S :=
  ⟨hg.os.trans h.os, hg.tape.trans h.tape, hg.output.trans h.output, Nat.le_trans h.size hg.size, fun k hk hn => (hg.block k (Nat.lt_of_lt_of_le hk h.size) (fun e => by
    rcases hr k e.symm with x | x
    · exact hn x
    · omega)).trans (h.block k hk hn)⟩
theorem Chg.below (h : Chg w w' S) {B : Nat} (hB : B ≤ w.heap.size) (hs : ∀ k, k < B → ¬ S k) : Below B w w' := ⟨h.os, h.tape, h.output, h.size, fun k hk => h.block k (by omega) (hs k hk)⟩
theorem RowF.chg {g : Nat} {E : TypeId} {len : Nat} {f : Nat → Value} (h : RowF w g E len f) (hc : Chg w w' S) (hs : ¬ S g) : RowF w' g E len f := by
  have hl := h.lt
  obtain ⟨c, h1, h2, h3⟩ := h
  exact ⟨c, (hc.block g hl hs).trans h1, h2, h3⟩
end


theorem Chg.cell {w w' : World} {S : Nat → Prop} (h : Chg w w' S) {b o : Nat} (hb : b < w.heap.size) (hs : ¬ S b) : w'.cell? ⟨b, o, none⟩ = w.cell? ⟨b, o, none⟩ :=
  World.cell?_of_block (h.block b hb hs)
theorem Chg.fresh {w w1 w2 : World} {S : Nat → Prop} (h : Chg w w1 (fun _ => False)) (k : Chg w1 w2 S) (hs : ∀ j, j < w.heap.size → ¬ S j) : Chg w w2 (fun _ => False) :=
  ⟨k.os.trans h.os, k.tape.trans h.tape, k.output.trans h.output, Nat.le_trans h.size k.size, fun j hj _ => (k.block j (Nat.lt_of_lt_of_le hj h.size) (hs j hj)).trans (h.block j hj id)⟩
end Go.Proofs.Ybulkdgza
