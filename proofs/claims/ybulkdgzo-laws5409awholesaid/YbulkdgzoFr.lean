/-
  The frame of LawS5409AWhole (function 3) with its named slots (0 to 11); the ways into its body; a loop that counts up.
-/
import Derived.Test.YbulkdgzoDeq
import Derived.Deep.RegionHeld3
namespace Go.Proofs.Ybulkdgzo
open Go.RowKit
set_option linter.unusedVariables false
set_option linter.unusedSimpArgs false

/-- A way into a code: 0 left, 1 right, 2 inside, 3 then, 4 else. -/
def nav : List Nat → Code → Code
  | 0 :: l, .seq a _ => nav l a
  | 1 :: l, .seq _ b => nav l b
  | 2 :: l, .block _ c => nav l c
  | 2 :: l, .loop c => nav l c
  | 3 :: l, .cond _ a _ => nav l a
  | 4 :: l, .cond _ _ b => nav l b
  | _, c => c
theorem range_map (arr : Array Value) : arr = ((List.range arr.size).map (fun k => arr.getD k undef)).toArray := by
  apply Array.ext
  · simp
  · intro i h1 h2; simp [h1]

set_option maxRecDepth 100000 in
theorem range137 (t : Nat → Value) : ((List.range 137).map t).toArray = #[t 0, t 1, t 2, t 3, t 4, t 5, t 6, t 7, t 8, t 9, t 10, t 11, t 12, t 13, t 14, t 15, t 16, t 17, t 18, t 19, t 20, t 21, t 22, t 23, t 24, t 25, t 26, t 27, t 28, t 29, t 30, t 31, t 32, t 33, t 34, t 35, t 36, t 37, t 38, t 39, t 40, t 41, t 42, t 43, t 44, t 45, t 46, t 47, t 48, t 49, t 50, t 51, t 52, t 53, t 54, t 55, t 56, t 57, t 58, t 59, t 60, t 61, t 62, t 63, t 64, t 65, t 66, t 67, t 68, t 69, t 70, t 71, t 72, t 73, t 74, t 75, t 76, t 77, t 78, t 79, t 80, t 81, t 82, t 83, t 84, t 85, t 86, t 87, t 88, t 89, t 90, t 91, t 92, t 93, t 94, t 95, t 96, t 97, t 98, t 99, t 100, t 101, t 102, t 103, t 104, t 105, t 106, t 107, t 108, t 109, t 110, t 111, t 112, t 113, t 114, t 115, t 116, t 117, t 118, t 119, t 120, t 121, t 122, t 123, t 124, t 125, t 126, t 127, t 128, t 129, t 130, t 131, t 132, t 133, t 134, t 135, t 136] := by kernel_rfl
/-- The frame between two statements: the named slots. -/
def Fx (arr : Array Value) (v0 v1 v2 v3 v4 v5 v6 v7 v8 v9 v10 v11 : Value) : Prop :=
  arr.size = 137 ∧ arr.getD 0 undef = v0 ∧ arr.getD 1 undef = v1 ∧ arr.getD 2 undef = v2 ∧ arr.getD 3 undef = v3 ∧ arr.getD 4 undef = v4 ∧ arr.getD 5 undef = v5 ∧ arr.getD 6 undef = v6 ∧ arr.getD 7 undef = v7 ∧ arr.getD 8 undef = v8 ∧ arr.getD 9 undef = v9 ∧ arr.getD 10 undef = v10 ∧ arr.getD 11 undef = v11
theorem Fx.mk {arr : Array Value} {v0 v1 v2 v3 v4 v5 v6 v7 v8 v9 v10 v11 : Value} (h : arr.size = 137) (h0 : arr.getD 0 undef = v0) (h1 : arr.getD 1 undef = v1) (h2 : arr.getD 2 undef = v2) (h3 : arr.getD 3 undef = v3) (h4 : arr.getD 4 undef = v4) (h5 : arr.getD 5 undef = v5) (h6 : arr.getD 6 undef = v6) (h7 : arr.getD 7 undef = v7) (h8 : arr.getD 8 undef = v8) (h9 : arr.getD 9 undef = v9) (h10 : arr.getD 10 undef = v10) (h11 : arr.getD 11 undef = v11) : Fx arr v0 v1 v2 v3 v4 v5 v6 v7 v8 v9 v10 v11 :=
  ⟨h, h0, h1, h2, h3, h4, h5, h6, h7, h8, h9, h10, h11⟩
set_option maxRecDepth 100000 in
theorem Fx.open {arr : Array Value} {v0 v1 v2 v3 v4 v5 v6 v7 v8 v9 v10 v11 : Value} (h : Fx arr v0 v1 v2 v3 v4 v5 v6 v7 v8 v9 v10 v11) {P : Program} {c : Code} {Q : Exit → Act → World → Prop} {w : World}
    (hw : ∀ t : Nat → Value, c.wp P Q ⟨#[v0, v1, v2, v3, v4, v5, v6, v7, v8, v9, v10, v11, t 12, t 13, t 14, t 15, t 16, t 17, t 18, t 19, t 20, t 21, t 22, t 23, t 24, t 25, t 26, t 27, t 28, t 29, t 30, t 31, t 32, t 33, t 34, t 35, t 36, t 37, t 38, t 39, t 40, t 41, t 42, t 43, t 44, t 45, t 46, t 47, t 48, t 49, t 50, t 51, t 52, t 53, t 54, t 55, t 56, t 57, t 58, t 59, t 60, t 61, t 62, t 63, t 64, t 65, t 66, t 67, t 68, t 69, t 70, t 71, t 72, t 73, t 74, t 75, t 76, t 77, t 78, t 79, t 80, t 81, t 82, t 83, t 84, t 85, t 86, t 87, t 88, t 89, t 90, t 91, t 92, t 93, t 94, t 95, t 96, t 97, t 98, t 99, t 100, t 101, t 102, t 103, t 104, t 105, t 106, t 107, t 108, t 109, t 110, t 111, t 112, t 113, t 114, t 115, t 116, t 117, t 118, t 119, t 120, t 121, t 122, t 123, t 124, t 125, t 126, t 127, t 128, t 129, t 130, t 131, t 132, t 133, t 134, t 135, t 136], []⟩ w) : c.wp P Q ⟨arr, []⟩ w := by
  obtain ⟨hs, h0, h1, h2, h3, h4, h5, h6, h7, h8, h9, h10, h11⟩ := h
  have e : arr = ((List.range 137).map (fun k => arr.getD k undef)).toArray := by rw [← hs]; exact range_map arr
  have hw' := hw (fun k => arr.getD k undef)
  rw [e, range137]
  rw [h0, h1, h2, h3, h4, h5, h6, h7, h8, h9, h10, h11]
  exact hw'

/-- Whatever Q says, but for a panic, which goes out of the function. -/
def Qp (Q : Exit → Act → World → Prop) (R : Ending → World → Prop) : Exit → Act → World → Prop
  | .panic ch, a, w => bodyPost Yba.prog Yba.f3 R (.panic ch) a w
  | e, a, w => Q e a w
theorem wp_last {c : Code} {Q : Exit → Act → World → Prop} {a : Act} {w : World} (h : c.wp Yba.prog (Exit.then (fun a w => Q .normal a w) Q) a w) : c.wp Yba.prog Q a w :=
  Code.wp_mono (fun e a w q => by cases e <;> exact q) h
theorem of_Qp {c : Code} {K : Act → World → Prop} {Q : Exit → Act → World → Prop} {R : Ending → World → Prop} {a : Act} {w : World} (hp : ∀ ch a w, bodyPost Yba.prog Yba.f3 R (.panic ch) a w → Q (.panic ch) a w)
    (h : c.wp Yba.prog (Exit.then K (Qp Q R)) a w) : c.wp Yba.prog (Exit.then K Q) a w :=
  Code.wp_mono (fun e a w q => by
    cases e with
    | panic ch => exact hp ch a w q
    | normal => exact q
    | exit id => exact q
    | goto l => exact q
    | ret => exact q
    | outgrown => exact q) h

/-- One statement after another. -/
theorem seq_Qp {x y : Code} {K : Act → World → Prop} {Q : Exit → Act → World → Prop} {R : Ending → World → Prop} {a : Act} {w : World}
    (h : x.wp Yba.prog (Exit.then (fun a w => y.wp Yba.prog (Exit.then K (Qp Q R)) a w) (Qp Q R)) a w) : (Code.seq x y).wp Yba.prog (Exit.then K (Qp Q R)) a w := by
  refine wp_seq (Code.wp_mono (fun e a w q => ?_) h)
  cases e <;> exact q

theorem block_Qp {b : Nat} {c : Code} {K : Act → World → Prop} {Q : Exit → Act → World → Prop} {R : Ending → World → Prop} {a : Act} {w : World} (h : ∀ Q', c.wp Yba.prog (Exit.then K (Qp Q' R)) a w) : (Code.block b c).wp Yba.prog (Exit.then K (Qp Q R)) a w := by
  refine wp_block (Code.wp_mono (fun e a w q => ?_) (h (Exit.inBlock b (Exit.then K (Qp Q R)))))
  cases e <;> exact q
theorem seq_B {x y : Code} {R : Ending → World → Prop} {a : Act} {w : World} (h : x.wp Yba.prog (Exit.then (fun a w => y.wp Yba.prog (bodyPost Yba.prog Yba.f3 R) a w) (Qp (bodyPost Yba.prog Yba.f3 R) R)) a w) :
    (Code.seq x y).wp Yba.prog (bodyPost Yba.prog Yba.f3 R) a w := wp_seq (of_Qp (fun _ _ _ h => h) h)

/-- A loop of m rounds: what holds ahead of the k-th round. -/
theorem loop_up {b : Nat} {c : Code} {K : Act → World → Prop} {Q : Exit → Act → World → Prop} {R : Ending → World → Prop} {arr : Array Value} {w : World} (m : Nat) (J : Nat → Array Value → World → Prop) (E : Array Value → World → Prop)
    (h0 : J 0 arr w)
    (step : ∀ k arr w (K : Act → World → Prop) (Q : Exit → Act → World → Prop), k < m → J k arr w → (∀ arr' w', J (k + 1) arr' w' → K ⟨arr', []⟩ w') → c.wp Yba.prog (Exit.then K (Qp Q R)) ⟨arr, []⟩ w)
    (last : ∀ arr w (K : Act → World → Prop) (Q : Exit → Act → World → Prop), J m arr w → (∀ arr' w', E arr' w' → Q (.exit b) ⟨arr', []⟩ w') → c.wp Yba.prog (Exit.then K (Qp Q R)) ⟨arr, []⟩ w)
    (HQ : ∀ arr' w', E arr' w' → K ⟨arr', []⟩ w') :
    (Code.block b (.loop c)).wp Yba.prog (Exit.then K (Qp Q R)) ⟨arr, []⟩ w := by
  refine wp_block ?_
  refine wp_loop_ghost (fun g a w => ∃ (arr' : Array Value) (k : Nat), a = ⟨arr', []⟩ ∧ k + g = m ∧ J k arr' w) m ⟨arr, 0, rfl, by omega, h0⟩ ?_
  rintro g a w' ⟨arr', k, rfl, hk, hj⟩
  by_cases hkm : k < m
  · refine of_Qp (R := R) (fun ch a w h => ?_) (step k arr' w' _ _ hkm hj (fun arr2 w2 h2 => ?_))
    · exact h
    · exact ⟨m - (k + 1), by omega, arr2, k + 1, rfl, by omega, h2⟩
  · have e : k = m := by omega
    subst e
    refine of_Qp (R := R) (fun ch a w h => ?_) (last arr' w' _ _ hj (fun arr2 w2 h2 => ?_))
    · exact h
    · show Exit.inBlock b _ (.exit b) _ _
      unfold Exit.inBlock
      simp
      exact HQ arr2 w2 h2


end Go.Proofs.Ybulkdgzo
