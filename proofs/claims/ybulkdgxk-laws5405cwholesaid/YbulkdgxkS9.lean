/-
  LawS5405CWhole: the ways out at its head.
-/
import Derived.Test.YbulkdgxkS8
namespace Go.Proofs.Ybulkdgxk
open Go.RowKit C
set_option linter.unusedVariables false
set_option linter.unusedSimpArgs false

set_option maxRecDepth 100000 in
set_option maxHeartbeats 400000 in
theorem st1e (a0 af : Option Addr) (n c0 nf cf : Nat) (arr : Array Value) (w : World) (K : Act → World → Prop) (R : Ending → World → Prop) (v1 v2 v4 v11 v12 v13 v14 v16 v17 v19 v21 v23 v24 v25 v26 v30 v31 v32 v39 : Value)
    (h : 65536 < n ∨ 1048576 < nf)
    (hs : Fr arr (.slice a0 n c0) v1 v2 (.slice af nf cf) v4 v11 v12 v13 v14 v16 v17 v19 v21 v23 v24 v25 v26 v30 v31 v32 v39)
    (HQ : Hid (R (.returned (.bool true)) w)) :
    Code.wp Yba.prog (stm 1 (Yba.f4.body.getD .skip)) (Exit.then K (bodyPost Yba.prog Yba.f4 R)) ⟨arr, []⟩ w := by
  refine hs.open (fun t => ?_)
  clear hs
  conv => arg 2; whnf
  by_cases h1 : 65536 < n
  · have h1' : (65536 : Int) < (n : Int) := by omega
    clear h
    go_wp2
    exact HQ.out
  · have h1' : ¬ (65536 : Int) < (n : Int) := by omega
    have h2 : (1048576 : Int) < (nf : Int) := by omega
    clear h
    go_wp2
    exact HQ.out

set_option maxRecDepth 100000 in
set_option maxHeartbeats 400000 in
theorem st3e  (arr : Array Value) (w : World) (K : Act → World → Prop) (R : Ending → World → Prop) (v0 v1 v2 v3 v4 v12 v13 v14 v16 v17 v19 v21 v23 v24 v25 v26 v30 v31 v32 v39 : Value)
    
    (hs : Fr arr v0 v1 v2 v3 v4 (.int .i64 ((0 : Nat) : Int)) v12 v13 v14 v16 v17 v19 v21 v23 v24 v25 v26 v30 v31 v32 v39)
    (HQ : Hid (R (.returned (.bool true)) w)) :
    Code.wp Yba.prog (stm 3 (Yba.f4.body.getD .skip)) (Exit.then K (bodyPost Yba.prog Yba.f4 R)) ⟨arr, []⟩ w := by
  refine hs.open (fun t => ?_)
  clear hs
  conv => arg 2; whnf
  go_wp2
  exact HQ.out

theorem main_long (a0 af : Option Addr) (n c0 nf cf : Nat) (b c e : Value) (w : World) (h : 65536 < n ∨ 1048576 < nf) :
    Calls Yba.prog 4 #[.slice a0 n c0, b, c, .slice af nf cf, e] w fun e w' => e = .returned (.bool true) ∧ Chg w w' (fun _ => False) := by
  refine calls_of_wp Yba.func4 f4_body ?_
  rw [f4_split]
  have f0 := f4_enter (.slice a0 n c0) b c (.slice af nf cf) e
  generalize (#[Value.slice a0 n c0, b, c, .slice af nf cf, e] ++ Array.replicate (Yba.f4.ntmps - #[Value.slice a0 n c0, b, c, .slice af nf cf, e].size) undef) = arr0 at f0 ⊢
  refine wp_seq (st0 arr0 w _ _ _ _ _ _ _ _ _ _ _ _ _ _ _ _ _ _ _ _ _ _ _ f0 (fun arr1 f1 => ?_))
  refine wp_seq (st1e a0 af n c0 nf cf arr1 w _ _ _ _ _ _ _ _ _ _ _ _ _ _ _ _ _ _ _ _ _ h f1 ?_)
  exact ⟨rfl, Chg.refl _ _⟩

theorem main_none (a0 af : Option Addr) (c0 nf cf : Nat) (b c e : Value) (w : World) (hnf : nf ≤ 1048576) :
    Calls Yba.prog 4 #[.slice a0 (0 : Nat) c0, b, c, .slice af nf cf, e] w fun e w' => e = .returned (.bool true) ∧ Chg w w' (fun _ => False) := by
  refine calls_of_wp Yba.func4 f4_body ?_
  rw [f4_split]
  have f0 := f4_enter (.slice a0 (0 : Nat) c0) b c (.slice af nf cf) e
  generalize (#[Value.slice a0 (0 : Nat) c0, b, c, .slice af nf cf, e] ++ Array.replicate (Yba.f4.ntmps - #[Value.slice a0 (0 : Nat) c0, b, c, .slice af nf cf, e].size) undef) = arr0 at f0 ⊢
  refine wp_seq (st0 arr0 w _ _ _ _ _ _ _ _ _ _ _ _ _ _ _ _ _ _ _ _ _ _ _ f0 (fun arr1 f1 => ?_))
  refine wp_seq (st1 a0 af 0 c0 nf cf arr1 w _ _ _ _ _ _ _ _ _ _ _ _ _ _ _ _ _ _ _ _ _ (by omega) hnf f1 (fun arr2 f2 => ?_))
  refine wp_seq (st2 a0 0 c0 arr2 w _ _ _ _ _ _ _ _ _ _ _ _ _ _ _ _ _ _ _ _ _ _ f2 (fun arr3 f3 => ?_))
  refine wp_seq (st3e arr3 w _ _ _ _ _ _ _ _ _ _ _ _ _ _ _ _ _ _ _ _ _ _ f3 ?_)
  exact ⟨rfl, Chg.refl _ _⟩
end Go.Proofs.Ybulkdgxk
