/-
  LawS5408CWhole: its loops; the numbers; the ways of the open wheel.
-/
import Derived.Test.YbulkdgzaS5
import Derived.Test.YbulkdgzaS6
import Derived.Test.YbulkdgzaS7
import Derived.Test.YbulkdgzaS8
namespace Go.Proofs.Ybulkdgza
open Go.RowKit B
set_option linter.unusedVariables false
set_option linter.unusedSimpArgs false

theorem c40 : nav [1, 1, 1, 1, 1, 1, 1, 1, 1, 1, 1, 1, 1, 1, 1, 1, 1, 1, 1, 1, 1, 1, 1, 1, 1, 1, 1, 1, 1, 1, 1, 1, 1, 1, 1, 1, 1, 1, 1, 1, 0] (Yba.f3.body.getD .skip) = .seq (nav [1, 1, 1, 1, 1, 1, 1, 1, 1, 1, 1, 1, 1, 1, 1, 1, 1, 1, 1, 1, 1, 1, 1, 1, 1, 1, 1, 1, 1, 1, 1, 1, 1, 1, 1, 1, 1, 1, 1, 1, 0, 0] (Yba.f3.body.getD .skip)) (.block 1 (.loop (nav [1, 1, 1, 1, 1, 1, 1, 1, 1, 1, 1, 1, 1, 1, 1, 1, 1, 1, 1, 1, 1, 1, 1, 1, 1, 1, 1, 1, 1, 1, 1, 1, 1, 1, 1, 1, 1, 1, 1, 1, 0, 1, 2, 2] (Yba.f3.body.getD .skip)))) := by kernel_rfl
theorem cB1 : nav [1, 1, 1, 1, 1, 1, 1, 1, 1, 1, 1, 1, 1, 1, 1, 1, 1, 1, 1, 1, 1, 1, 1, 1, 1, 1, 1, 1, 1, 1, 1, 1, 1, 1, 1, 1, 1, 1, 1, 1, 0, 1, 2, 2] (Yba.f3.body.getD .skip) = .seq (nav [1, 1, 1, 1, 1, 1, 1, 1, 1, 1, 1, 1, 1, 1, 1, 1, 1, 1, 1, 1, 1, 1, 1, 1, 1, 1, 1, 1, 1, 1, 1, 1, 1, 1, 1, 1, 1, 1, 1, 1, 0, 1, 2, 2, 0] (Yba.f3.body.getD .skip)) (.seq (.block 2 (.seq (nav [1, 1, 1, 1, 1, 1, 1, 1, 1, 1, 1, 1, 1, 1, 1, 1, 1, 1, 1, 1, 1, 1, 1, 1, 1, 1, 1, 1, 1, 1, 1, 1, 1, 1, 1, 1, 1, 1, 1, 1, 0, 1, 2, 2, 1, 0, 2, 0] (Yba.f3.body.getD .skip)) (.block 3 (.loop (nav [1, 1, 1, 1, 1, 1, 1, 1, 1, 1, 1, 1, 1, 1, 1, 1, 1, 1, 1, 1, 1, 1, 1, 1, 1, 1, 1, 1, 1, 1, 1, 1, 1, 1, 1, 1, 1, 1, 1, 1, 0, 1, 2, 2, 1, 0, 2, 1, 2, 2] (Yba.f3.body.getD .skip)))))) (nav [1, 1, 1, 1, 1, 1, 1, 1, 1, 1, 1, 1, 1, 1, 1, 1, 1, 1, 1, 1, 1, 1, 1, 1, 1, 1, 1, 1, 1, 1, 1, 1, 1, 1, 1, 1, 1, 1, 1, 1, 0, 1, 2, 2, 1, 1] (Yba.f3.body.getD .skip))) := by kernel_rfl

set_option maxHeartbeats 1000000 in
/-- The heads of one level. -/
theorem l2 (Wb Tb Ob l lt st lo so : Nat) (arr : Array Value) (w : World) (K : Act → World → Prop) (Q : Exit → Act → World → Prop) (R : Ending → World → Prop) (v0 v1 v2 v3 v4 v5 v6 v7 v8 v9 v10 v11 v12 v13 v14 v15 v16 v17 v18 v19 v20 v21 v22 v23 v26 v28 v29 v30 v31 v32 v33 v34 v35 v36 v37 v38 v39 v40 v41 v42 v43 v48 v51 : Value)
    (hl : l < 11) (hc : ∀ s, s < 64 → ∃ x, w.cell? ⟨Wb, 21 + l * 64 + s, none⟩ = some (.pointer x) ∧ x = if l = lt ∧ s = st then some ⟨Tb, 0, none⟩ else if l = lo ∧ s = so then some ⟨Ob, 0, none⟩ else none)
    (hs : Fx arr v0 v1 v2 v3 v4 v5 v6 v7 v8 v9 v10 v11 v12 v13 v14 v15 v16 v17 v18 v19 v20 v21 v22 v23 (.pointer (some ⟨Wb, 0, none⟩)) (.pointer (some ⟨Tb, 0, none⟩)) v26 (.pointer (some ⟨Ob, 0, none⟩)) v28 v29 v30 v31 v32 v33 v34 v35 v36 v37 v38 v39 v40 v41 v42 v43 (.int .i64 lt) (.int .i64 st) (.int .i64 lo) (.int .i64 so) v48 (.int .i64 l) (.int .i64 ((0 : Nat) : Int)) v51)
    (HQ : ∀ arr' u50 u51, Fx arr' v0 v1 v2 v3 v4 v5 v6 v7 v8 v9 v10 v11 v12 v13 v14 v15 v16 v17 v18 v19 v20 v21 v22 v23 (.pointer (some ⟨Wb, 0, none⟩)) (.pointer (some ⟨Tb, 0, none⟩)) v26 (.pointer (some ⟨Ob, 0, none⟩)) v28 v29 v30 v31 v32 v33 v34 v35 v36 v37 v38 v39 v40 v41 v42 v43 (.int .i64 lt) (.int .i64 st) (.int .i64 lo) (.int .i64 so) v48 (.int .i64 l) (u50) (u51) → K ⟨arr', []⟩ w) :
    Code.wp Yba.prog (.block 3 (.loop (nav [1, 1, 1, 1, 1, 1, 1, 1, 1, 1, 1, 1, 1, 1, 1, 1, 1, 1, 1, 1, 1, 1, 1, 1, 1, 1, 1, 1, 1, 1, 1, 1, 1, 1, 1, 1, 1, 1, 1, 1, 0, 1, 2, 2, 1, 0, 2, 1, 2, 2] (Yba.f3.body.getD .skip)))) (Exit.then K (Qp Q R)) ⟨arr, []⟩ w := by
  refine loop_up 64 (fun k arr' w' => w' = w ∧ ∃ u51, Fx arr' v0 v1 v2 v3 v4 v5 v6 v7 v8 v9 v10 v11 v12 v13 v14 v15 v16 v17 v18 v19 v20 v21 v22 v23 (.pointer (some ⟨Wb, 0, none⟩)) (.pointer (some ⟨Tb, 0, none⟩)) v26 (.pointer (some ⟨Ob, 0, none⟩)) v28 v29 v30 v31 v32 v33 v34 v35 v36 v37 v38 v39 v40 v41 v42 v43 (.int .i64 lt) (.int .i64 st) (.int .i64 lo) (.int .i64 so) v48 (.int .i64 l) (.int .i64 ((k : Nat) : Int)) (u51)) (fun arr' w' => w' = w ∧ ∃ u50 u51, Fx arr' v0 v1 v2 v3 v4 v5 v6 v7 v8 v9 v10 v11 v12 v13 v14 v15 v16 v17 v18 v19 v20 v21 v22 v23 (.pointer (some ⟨Wb, 0, none⟩)) (.pointer (some ⟨Tb, 0, none⟩)) v26 (.pointer (some ⟨Ob, 0, none⟩)) v28 v29 v30 v31 v32 v33 v34 v35 v36 v37 v38 v39 v40 v41 v42 v43 (.int .i64 lt) (.int .i64 st) (.int .i64 lo) (.int .i64 so) v48 (.int .i64 l) (u50) (u51)) ⟨rfl, _, hs⟩ ?_ ?_ ?_
  · rintro k arr1 w1 K1 Q1 hk ⟨rfl, u51, f1⟩ hK
    obtain ⟨x, c, hx⟩ := hc k hk
    exact b2s Wb Tb Ob l k lt st lo so x arr1 _ _ _ _ _ _ _ _ _ _ _ _ _ _ _ _ _ _ _ _ _ _ _ _ _ _ _ _ _ _ _ _ _ _ _ _ _ _ _ _ _ _ _ _ _ _ _ hl hk c hx f1 (fun arr2 u f2 => hK _ _ ⟨rfl, _, f2⟩)
  · rintro arr1 w1 K1 Q1 ⟨rfl, u51, f1⟩ hX
    exact b2e  arr1 _ _ _ _ _ _ _ _ _ _ _ _ _ _ _ _ _ _ _ _ _ _ _ _ _ _ _ _ _ _ _ _ _ _ _ _ _ _ _ _ _ _ _ _ _ _ _ _ _ _ _ _ _ _ _ f1 (fun arr2 f2 => hX _ _ ⟨rfl, _, _, f2⟩)
  · rintro arr1 w1 ⟨rfl, u50, u51, f1⟩
    exact HQ _ _ _ f1

set_option maxHeartbeats 1000000 in
/-- The heads of all levels. -/
theorem l1 (Wb Tb Ob lt st lo so : Nat) (arr : Array Value) (w : World) (K : Act → World → Prop) (Q : Exit → Act → World → Prop) (R : Ending → World → Prop) (v0 v1 v2 v3 v4 v5 v6 v7 v8 v9 v10 v11 v12 v13 v14 v15 v16 v17 v18 v19 v20 v21 v22 v23 v26 v28 v29 v30 v31 v32 v33 v34 v35 v36 v37 v38 v39 v40 v41 v42 v43 v48 v50 v51 : Value)
    (hc : ∀ l s, l < 11 → s < 64 → ∃ x, w.cell? ⟨Wb, 21 + l * 64 + s, none⟩ = some (.pointer x) ∧ x = if l = lt ∧ s = st then some ⟨Tb, 0, none⟩ else if l = lo ∧ s = so then some ⟨Ob, 0, none⟩ else none)
    (hs : Fx arr v0 v1 v2 v3 v4 v5 v6 v7 v8 v9 v10 v11 v12 v13 v14 v15 v16 v17 v18 v19 v20 v21 v22 v23 (.pointer (some ⟨Wb, 0, none⟩)) (.pointer (some ⟨Tb, 0, none⟩)) v26 (.pointer (some ⟨Ob, 0, none⟩)) v28 v29 v30 v31 v32 v33 v34 v35 v36 v37 v38 v39 v40 v41 v42 v43 (.int .i64 lt) (.int .i64 st) (.int .i64 lo) (.int .i64 so) v48 (.int .i64 ((0 : Nat) : Int)) v50 v51)
    (HQ : ∀ arr' u49 u50 u51, Fx arr' v0 v1 v2 v3 v4 v5 v6 v7 v8 v9 v10 v11 v12 v13 v14 v15 v16 v17 v18 v19 v20 v21 v22 v23 (.pointer (some ⟨Wb, 0, none⟩)) (.pointer (some ⟨Tb, 0, none⟩)) v26 (.pointer (some ⟨Ob, 0, none⟩)) v28 v29 v30 v31 v32 v33 v34 v35 v36 v37 v38 v39 v40 v41 v42 v43 (.int .i64 lt) (.int .i64 st) (.int .i64 lo) (.int .i64 so) v48 (u49) (u50) (u51) → K ⟨arr', []⟩ w) :
    Code.wp Yba.prog (.block 1 (.loop (nav [1, 1, 1, 1, 1, 1, 1, 1, 1, 1, 1, 1, 1, 1, 1, 1, 1, 1, 1, 1, 1, 1, 1, 1, 1, 1, 1, 1, 1, 1, 1, 1, 1, 1, 1, 1, 1, 1, 1, 1, 0, 1, 2, 2] (Yba.f3.body.getD .skip)))) (Exit.then K (Qp Q R)) ⟨arr, []⟩ w := by
  refine loop_up 11 (fun k arr' w' => w' = w ∧ ∃ u50 u51, Fx arr' v0 v1 v2 v3 v4 v5 v6 v7 v8 v9 v10 v11 v12 v13 v14 v15 v16 v17 v18 v19 v20 v21 v22 v23 (.pointer (some ⟨Wb, 0, none⟩)) (.pointer (some ⟨Tb, 0, none⟩)) v26 (.pointer (some ⟨Ob, 0, none⟩)) v28 v29 v30 v31 v32 v33 v34 v35 v36 v37 v38 v39 v40 v41 v42 v43 (.int .i64 lt) (.int .i64 st) (.int .i64 lo) (.int .i64 so) v48 (.int .i64 ((k : Nat) : Int)) (u50) (u51)) (fun arr' w' => w' = w ∧ ∃ u49 u50 u51, Fx arr' v0 v1 v2 v3 v4 v5 v6 v7 v8 v9 v10 v11 v12 v13 v14 v15 v16 v17 v18 v19 v20 v21 v22 v23 (.pointer (some ⟨Wb, 0, none⟩)) (.pointer (some ⟨Tb, 0, none⟩)) v26 (.pointer (some ⟨Ob, 0, none⟩)) v28 v29 v30 v31 v32 v33 v34 v35 v36 v37 v38 v39 v40 v41 v42 v43 (.int .i64 lt) (.int .i64 st) (.int .i64 lo) (.int .i64 so) v48 (u49) (u50) (u51)) ⟨rfl, _, _, hs⟩ ?_ ?_ ?_
  · rintro k arr1 w1 K1 Q1 hk ⟨rfl, u50, u51, f1⟩ hK
    rw [cB1]
    refine seq_Qp (b1t k arr1 _ _ _ _ _ _ _ _ _ _ _ _ _ _ _ _ _ _ _ _ _ _ _ _ _ _ _ _ _ _ _ _ _ _ _ _ _ _ _ _ _ _ _ _ _ _ _ _ _ _ _ _ _ _ _ (by omega) f1 (fun arr2 f2 => ?_))
    refine seq_Qp (block_Qp (fun Q2 => seq_Qp (r67  arr2 _ _ _ _ _ _ _ _ _ _ _ _ _ _ _ _ _ _ _ _ _ _ _ _ _ _ _ _ _ _ _ _ _ _ _ _ _ _ _ _ _ _ _ _ _ _ _ _ _ _ _ _ _ _ _ _ f2 (fun arr3 f3 => ?_))))
    refine l2 Wb Tb Ob k lt st lo so arr3 _ _ _ _ _ _ _ _ _ _ _ _ _ _ _ _ _ _ _ _ _ _ _ _ _ _ _ _ _ _ _ _ _ _ _ _ _ _ _ _ _ _ _ _ _ _ _ hk (fun s hs => hc k s hk hs) f3 (fun arr4 u50' u51' f4 => ?_)
    exact r66 k arr4 _ _ _ _ _ _ _ _ _ _ _ _ _ _ _ _ _ _ _ _ _ _ _ _ _ _ _ _ _ _ _ _ _ _ _ _ _ _ _ _ _ _ _ _ _ _ _ _ _ _ _ _ _ _ _ hk f4 (fun arr5 f5 => hK _ _ ⟨rfl, _, _, f5⟩)
  · rintro arr1 w1 K1 Q1 ⟨rfl, u50, u51, f1⟩ hX
    exact b1e  arr1 _ _ _ _ _ _ _ _ _ _ _ _ _ _ _ _ _ _ _ _ _ _ _ _ _ _ _ _ _ _ _ _ _ _ _ _ _ _ _ _ _ _ _ _ _ _ _ _ _ _ _ _ _ _ _ f1 (fun arr2 f2 => hX _ _ ⟨rfl, _, _, _, f2⟩)
  · rintro arr1 w1 ⟨rfl, u49, u50, u51, f1⟩
    exact HQ _ _ _ _ f1

set_option maxHeartbeats 1000000 in
theorem st40 (Wb Tb Ob lt st lo so : Nat) (arr : Array Value) (w : World) (K : Act → World → Prop) (Q : Exit → Act → World → Prop) (R : Ending → World → Prop) (v0 v1 v2 v3 v4 v5 v6 v7 v8 v9 v10 v11 v12 v13 v14 v15 v16 v17 v18 v19 v20 v21 v22 v23 v26 v28 v29 v30 v31 v32 v33 v34 v35 v36 v37 v38 v39 v40 v41 v42 v43 v48 v49 v50 v51 : Value)
    (hc : ∀ l s, l < 11 → s < 64 → ∃ x, w.cell? ⟨Wb, 21 + l * 64 + s, none⟩ = some (.pointer x) ∧ x = if l = lt ∧ s = st then some ⟨Tb, 0, none⟩ else if l = lo ∧ s = so then some ⟨Ob, 0, none⟩ else none)
    (hs : Fx arr v0 v1 v2 v3 v4 v5 v6 v7 v8 v9 v10 v11 v12 v13 v14 v15 v16 v17 v18 v19 v20 v21 v22 v23 (.pointer (some ⟨Wb, 0, none⟩)) (.pointer (some ⟨Tb, 0, none⟩)) v26 (.pointer (some ⟨Ob, 0, none⟩)) v28 v29 v30 v31 v32 v33 v34 v35 v36 v37 v38 v39 v40 v41 v42 v43 (.int .i64 lt) (.int .i64 st) (.int .i64 lo) (.int .i64 so) v48 v49 v50 v51)
    (HQ : ∀ arr' u49 u50 u51, Fx arr' v0 v1 v2 v3 v4 v5 v6 v7 v8 v9 v10 v11 v12 v13 v14 v15 v16 v17 v18 v19 v20 v21 v22 v23 (.pointer (some ⟨Wb, 0, none⟩)) (.pointer (some ⟨Tb, 0, none⟩)) v26 (.pointer (some ⟨Ob, 0, none⟩)) v28 v29 v30 v31 v32 v33 v34 v35 v36 v37 v38 v39 v40 v41 v42 v43 (.int .i64 lt) (.int .i64 st) (.int .i64 lo) (.int .i64 so) v48 (u49) (u50) (u51) → K ⟨arr', []⟩ w) :
    Code.wp Yba.prog (nav [1, 1, 1, 1, 1, 1, 1, 1, 1, 1, 1, 1, 1, 1, 1, 1, 1, 1, 1, 1, 1, 1, 1, 1, 1, 1, 1, 1, 1, 1, 1, 1, 1, 1, 1, 1, 1, 1, 1, 1, 0] (Yba.f3.body.getD .skip)) (Exit.then K (Qp Q R)) ⟨arr, []⟩ w := by
  rw [c40]
  refine seq_Qp (a40  arr w _ _ _ _ _ _ _ _ _ _ _ _ _ _ _ _ _ _ _ _ _ _ _ _ _ _ _ _ _ _ _ _ _ _ _ _ _ _ _ _ _ _ _ _ _ _ _ _ _ _ _ _ _ _ _ hs (fun arr2 f2 => ?_))
  exact l1 Wb Tb Ob lt st lo so arr2 w _ _ _ _ _ _ _ _ _ _ _ _ _ _ _ _ _ _ _ _ _ _ _ _ _ _ _ _ _ _ _ _ _ _ _ _ _ _ _ _ _ _ _ _ _ _ _ hc f2 HQ

theorem ret_true {arr : Array Value} {w : World} {R : Ending → World → Prop} {v0 v1 v2 v3 v4 v5 v6 v7 v8 v9 v10 v11 v12 v13 v14 v15 v16 v17 v18 v19 v21 v22 v23 v24 v25 v26 v27 v28 v29 v30 v31 v32 v33 v34 v35 v36 v37 v38 v39 v40 v41 v42 v43 v44 v45 v46 v47 v48 v49 v50 v51 : Value} (hs : Fx arr v0 v1 v2 v3 v4 v5 v6 v7 v8 v9 v10 v11 v12 v13 v14 v15 v16 v17 v18 v19 (.bool true) v21 v22 v23 v24 v25 v26 v27 v28 v29 v30 v31 v32 v33 v34 v35 v36 v37 v38 v39 v40 v41 v42 v43 v44 v45 v46 v47 v48 v49 v50 v51) (h : R (.returned (.bool true)) w) : bodyPost Yba.prog Yba.f3 R .ret ⟨arr, []⟩ w := by
  obtain ⟨hsz, h0, h1, h2, h3, h4, h5, h6, h7, h8, h9, h10, h11, h12, h13, h14, h15, h16, h17, h18, h19, h20, h21, h22, h23, h24, h25, h26, h27, h28, h29, h30, h31, h32, h33, h34, h35, h36, h37, h38, h39, h40, h41, h42, h43, h44, h45, h46, h47, h48, h49, h50, h51⟩ := hs
  refine bodyPost_ret (v := .bool true) ?_ rfl h
  have h20' : arr[20]?.getD undef = Value.bool true := by simpa using h20
  simp [results, Yba.results3, h20']
theorem suc64 (q : Nat) (h : q + 1 ≤ 9223372036854775807) : wrap64 ((q : Int) + 1) = ((q + 1 : Nat) : Int) := by unfold wrap64; omega
theorem dl_cases (s d : Int) (h1 : 0 ≤ s) (h2 : s ≤ 9223372036854775807) (h3 : -9223372036854775808 ≤ d) (h4 : d ≤ 9223372036854775807) : (0 < d ∧ wrap64 (s + d) < s ∧ dlV s d = 9223372036854775807) ∨ (dlV s d = wrap64 (s + d) ∧ (¬ 0 < d ∨ (0 < d ∧ ¬ wrap64 (s + d) < s))) := by
  unfold dlV wrap64
  split <;> omega
theorem n_facts (du tick : Nat) (ht : 0 < tick) (hd : du ≤ 9223372036854775807) : (du : Int).tdiv (tick : Int) = ((du / tick : Nat) : Int) ∧ IntKind.i64.wrap ((du / tick : Nat) : Int) = ((du / tick : Nat) : Int) ∧ wrap64 (((du / tick : Nat) : Int) * (tick : Int)) = ((du / tick * tick : Nat) : Int) := by
  have h1 : du / tick ≤ du := Nat.div_le_self _ _
  have h2 : du / tick * tick ≤ du := Nat.div_mul_le_self du tick
  refine ⟨by rw [Int.tdiv_eq_ediv_of_nonneg (by omega)]; rfl, ?_, ?_⟩
  · generalize du / tick = q at *
    rw [IntKind.wrap_i64]; omega
  · generalize du / tick = q at *
    rw [show (q : Int) * (tick : Int) = ((q * tick : Nat) : Int) by simp]
    exact wrap64_nat _ (by omega)

set_option maxHeartbeats 1000000 in
/-- dl -/
theorem t25 (off : Nat) (d : Int) (rest : Code) (arr : Array Value) (w : World) (R : Ending → World → Prop) (v0 v1 v3 v4 v5 v6 v7 v8 v9 v10 v11 v12 v13 v14 v15 v16 v17 v18 v19 v20 v21 v22 v23 v24 v25 v26 v27 v28 v29 v30 v31 v32 v33 v34 v35 v36 v37 v38 v39 v41 v42 v43 v44 v45 v46 v47 v48 v49 v50 v51 : Value)
    (ho : off < 9223372036854775808) (h3 : -9223372036854775808 ≤ d) (h4 : d ≤ 9223372036854775807)
    (hs : Fx arr v0 v1 (.int .i64 d) v3 v4 v5 v6 v7 v8 v9 v10 v11 v12 v13 v14 v15 v16 v17 v18 v19 v20 v21 v22 v23 v24 v25 v26 v27 v28 v29 v30 v31 v32 v33 v34 v35 v36 v37 v38 v39 (.int .i64 off) v41 v42 v43 v44 v45 v46 v47 v48 v49 v50 v51)
    (HQ : ∀ arr', Fx arr' v0 v1 (.int .i64 d) v3 v4 v5 v6 v7 v8 v9 v10 v11 v12 v13 v14 v15 v16 v17 v18 v19 v20 v21 v22 v23 v24 v25 v26 v27 v28 v29 v30 v31 v32 v33 v34 v35 v36 v37 v38 v39 (.int .i64 off) (.int .i64 (dlV off d)) v42 v43 v44 v45 v46 v47 v48 v49 v50 v51 → rest.wp Yba.prog (bodyPost Yba.prog Yba.f3 R) ⟨arr', []⟩ w) :
    (Code.seq (nav [1, 1, 1, 1, 1, 1, 1, 1, 1, 1, 1, 1, 1, 1, 1, 1, 1, 1, 1, 1, 1, 1, 1, 1, 1, 0] (Yba.f3.body.getD .skip)) (.seq (nav [1, 1, 1, 1, 1, 1, 1, 1, 1, 1, 1, 1, 1, 1, 1, 1, 1, 1, 1, 1, 1, 1, 1, 1, 1, 1, 0] (Yba.f3.body.getD .skip)) rest)).wp Yba.prog (bodyPost Yba.prog Yba.f3 R) ⟨arr, []⟩ w := by
  refine seq_B (st25 off d _ arr w _ _ _ _ _ _ _ _ _ _ _ _ _ _ _ _ _ _ _ _ _ _ _ _ _ _ _ _ _ _ _ _ _ _ _ _ _ _ _ _ _ _ _ _ _ _ _ _ _ _ _ _ _ rfl hs (fun arr1 f1 => ?_))
  rcases dl_cases off d (by omega) (by omega) h3 h4 with ⟨a, b, c⟩ | ⟨a, b | ⟨b, c⟩⟩
  · rw [c] at HQ
    exact seq_B (st26a off d _ arr1 w _ _ _ _ _ _ _ _ _ _ _ _ _ _ _ _ _ _ _ _ _ _ _ _ _ _ _ _ _ _ _ _ _ _ _ _ _ _ _ _ _ _ _ _ _ _ _ _ _ _ _ _ a b f1 (fun arr2 f2 => HQ _ f2))
  · rw [a] at HQ
    exact seq_B (st26b off d _ arr1 w _ _ _ _ _ _ _ _ _ _ _ _ _ _ _ _ _ _ _ _ _ _ _ _ _ _ _ _ _ _ _ _ _ _ _ _ _ _ _ _ _ _ _ _ _ _ _ _ _ _ _ _ b f1 (fun arr2 f2 => HQ _ f2))
  · rw [a] at HQ
    exact seq_B (st26c off d _ arr1 w _ _ _ _ _ _ _ _ _ _ _ _ _ _ _ _ _ _ _ _ _ _ _ _ _ _ _ _ _ _ _ _ _ _ _ _ _ _ _ _ _ _ _ _ _ _ _ _ _ _ _ _ b c f1 (fun arr2 f2 => HQ _ f2))

set_option maxHeartbeats 1000000 in
/-- due -/
theorem t27 (off du : Nat) (dl : Int) (rest : Code) (arr : Array Value) (w : World) (R : Ending → World → Prop) (v0 v1 v2 v3 v4 v5 v6 v7 v8 v9 v10 v11 v12 v13 v14 v15 v16 v17 v18 v19 v20 v21 v22 v23 v24 v25 v26 v27 v28 v29 v30 v31 v32 v33 v34 v35 v36 v37 v38 v39 v42 v43 v44 v45 v46 v47 v48 v49 v50 v51 : Value)
    (hm : max (off : Int) dl = (du : Int))
    (hs : Fx arr v0 v1 v2 v3 v4 v5 v6 v7 v8 v9 v10 v11 v12 v13 v14 v15 v16 v17 v18 v19 v20 v21 v22 v23 v24 v25 v26 v27 v28 v29 v30 v31 v32 v33 v34 v35 v36 v37 v38 v39 (.int .i64 off) (.int .i64 dl) v42 v43 v44 v45 v46 v47 v48 v49 v50 v51)
    (HQ : ∀ arr', Fx arr' v0 v1 v2 v3 v4 v5 v6 v7 v8 v9 v10 v11 v12 v13 v14 v15 v16 v17 v18 v19 v20 v21 v22 v23 v24 v25 v26 v27 v28 v29 v30 v31 v32 v33 v34 v35 v36 v37 v38 v39 (.int .i64 off) (.int .i64 dl) (.int .i64 du) v43 v44 v45 v46 v47 v48 v49 v50 v51 → rest.wp Yba.prog (bodyPost Yba.prog Yba.f3 R) ⟨arr', []⟩ w) :
    (Code.seq (nav [1, 1, 1, 1, 1, 1, 1, 1, 1, 1, 1, 1, 1, 1, 1, 1, 1, 1, 1, 1, 1, 1, 1, 1, 1, 1, 1, 0] (Yba.f3.body.getD .skip)) (.seq (nav [1, 1, 1, 1, 1, 1, 1, 1, 1, 1, 1, 1, 1, 1, 1, 1, 1, 1, 1, 1, 1, 1, 1, 1, 1, 1, 1, 1, 0] (Yba.f3.body.getD .skip)) rest)).wp Yba.prog (bodyPost Yba.prog Yba.f3 R) ⟨arr, []⟩ w := by
  refine seq_B (st27 _ arr w _ _ _ _ _ _ _ _ _ _ _ _ _ _ _ _ _ _ _ _ _ _ _ _ _ _ _ _ _ _ _ _ _ _ _ _ _ _ _ _ _ _ _ _ _ _ _ _ _ _ _ _ _ _ hs (fun arr1 f1 => ?_))
  by_cases h : dl < off
  · have e : (off : Int) = du := by omega
    rw [← e] at HQ
    exact seq_B (st28a off dl arr1 w _ _ _ _ _ _ _ _ _ _ _ _ _ _ _ _ _ _ _ _ _ _ _ _ _ _ _ _ _ _ _ _ _ _ _ _ _ _ _ _ _ _ _ _ _ _ _ _ _ _ _ _ _ h f1 (fun arr2 f2 => HQ _ f2))
  · have e : dl = du := by omega
    rw [← e] at HQ
    exact seq_B (st28b off dl arr1 w _ _ _ _ _ _ _ _ _ _ _ _ _ _ _ _ _ _ _ _ _ _ _ _ _ _ _ _ _ _ _ _ _ _ _ _ _ _ _ _ _ _ _ _ _ _ _ _ _ _ _ _ _ h f1 (fun arr2 f2 => HQ _ f2))

set_option maxHeartbeats 1000000 in
/-- n -/
theorem t29 (du tick : Nat) (rest : Code) (arr : Array Value) (w : World) (R : Ending → World → Prop) (v0 v1 v2 v3 v4 v5 v6 v7 v8 v9 v10 v11 v12 v13 v14 v15 v16 v17 v18 v19 v20 v21 v23 v24 v25 v26 v27 v28 v29 v30 v31 v32 v33 v34 v35 v36 v37 v38 v39 v40 v41 v43 v44 v45 v46 v47 v48 v49 v50 v51 : Value)
    (ht : 0 < tick) (hd : du ≤ 9223372036854775807)
    (hs : Fx arr v0 v1 v2 v3 v4 v5 v6 v7 v8 v9 v10 v11 v12 v13 v14 v15 v16 v17 v18 v19 v20 v21 (.int .i64 tick) v23 v24 v25 v26 v27 v28 v29 v30 v31 v32 v33 v34 v35 v36 v37 v38 v39 v40 v41 (.int .i64 du) v43 v44 v45 v46 v47 v48 v49 v50 v51)
    (HQ : ∀ arr', Fx arr' v0 v1 v2 v3 v4 v5 v6 v7 v8 v9 v10 v11 v12 v13 v14 v15 v16 v17 v18 v19 v20 v21 (.int .i64 tick) v23 v24 v25 v26 v27 v28 v29 v30 v31 v32 v33 v34 v35 v36 v37 v38 v39 v40 v41 (.int .i64 du) (.int .i64 (ftV tick du)) v44 v45 v46 v47 v48 v49 v50 v51 → rest.wp Yba.prog (bodyPost Yba.prog Yba.f3 R) ⟨arr', []⟩ w) :
    (Code.seq (nav [1, 1, 1, 1, 1, 1, 1, 1, 1, 1, 1, 1, 1, 1, 1, 1, 1, 1, 1, 1, 1, 1, 1, 1, 1, 1, 1, 1, 1, 0] (Yba.f3.body.getD .skip)) (.seq (nav [1, 1, 1, 1, 1, 1, 1, 1, 1, 1, 1, 1, 1, 1, 1, 1, 1, 1, 1, 1, 1, 1, 1, 1, 1, 1, 1, 1, 1, 1, 0] (Yba.f3.body.getD .skip)) rest)).wp Yba.prog (bodyPost Yba.prog Yba.f3 R) ⟨arr, []⟩ w := by
  obtain ⟨q1, q2, q3⟩ := n_facts du tick ht hd
  have hle := ft_le tick du ht
  have hdm := Nat.div_add_mod du tick
  rw [Nat.mul_comm] at hdm
  refine seq_B (st29 du tick _ arr w _ _ _ _ _ _ _ _ _ _ _ _ _ _ _ _ _ _ _ _ _ _ _ _ _ _ _ _ _ _ _ _ _ _ _ _ _ _ _ _ _ _ _ _ _ _ _ _ _ _ _ _ _ ht (by simp; omega) q1 q2 hs (fun arr1 f1 => ?_))
  by_cases h : du % tick = 0
  · have e : du / tick * tick = du := by omega
    rw [show ftV tick du = du / tick from by unfold ftV; rw [if_pos h]] at HQ
    rw [e] at q3
    exact seq_B (st30b du tick _ arr1 w _ _ _ _ _ _ _ _ _ _ _ _ _ _ _ _ _ _ _ _ _ _ _ _ _ _ _ _ _ _ _ _ _ _ _ _ _ _ _ _ _ _ _ _ _ _ _ _ _ _ _ _ q3 f1 (fun arr2 f2 => HQ _ f2))
  · have e : ftV tick du = du / tick + 1 := by unfold ftV; rw [if_neg h]
    rw [e] at HQ hle
    have hne : ¬ du / tick * tick = du := by omega
    exact seq_B (st30a du tick _ _ arr1 w _ _ _ _ _ _ _ _ _ _ _ _ _ _ _ _ _ _ _ _ _ _ _ _ _ _ _ _ _ _ _ _ _ _ _ _ _ _ _ _ _ _ _ _ _ _ _ _ _ _ _ _ q3 (by rw [beq_eq_false_iff_ne]; intro e; exact hne (Int.ofNat.inj e)) (suc64 _ (by omega)) f1 (fun arr2 f2 => HQ _ f2))

end Go.Proofs.Ybulkdgza
