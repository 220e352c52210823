/-
  LawS5408CWhole, its statements 36 to 38 and 41 to 43 (the wheel is open).
-/
import Derived.Test.YbulkdgzaS4
namespace Go.Proofs.Ybulkdgza
open Go.RowKit B
set_option linter.unusedVariables false
set_option linter.unusedSimpArgs false

set_option maxRecDepth 100000 in
set_option maxHeartbeats 400000 in
/-- occ -/
theorem st36  (arr : Array Value) (w : World) (K : Act → World → Prop) (Q : Exit → Act → World → Prop) (R : Ending → World → Prop) (v0 v1 v2 v3 v4 v5 v6 v7 v8 v9 v10 v11 v12 v13 v14 v15 v16 v17 v18 v19 v20 v21 v22 v23 v24 v25 v26 v27 v28 v29 v30 v31 v32 v33 v34 v35 v36 v37 v38 v39 v40 v41 v42 v43 v44 v45 v46 v47 v48 v49 v50 v51 : Value)
    
    (hs : Fx arr v0 v1 v2 v3 v4 v5 v6 v7 v8 v9 v10 v11 v12 v13 v14 v15 v16 v17 v18 v19 v20 v21 v22 v23 v24 v25 v26 v27 v28 v29 v30 v31 v32 v33 v34 v35 v36 v37 v38 v39 v40 v41 v42 v43 v44 v45 v46 v47 v48 v49 v50 v51)
    (HQ : Hid (∀ arr' w' Xb, Fx arr' v0 v1 v2 v3 v4 v5 v6 v7 v8 v9 v10 v11 v12 v13 v14 v15 v16 v17 v18 v19 v20 v21 v22 v23 v24 v25 v26 v27 v28 v29 v30 v31 v32 v33 v34 v35 v36 v37 v38 v39 v40 v41 v42 v43 v44 v45 v46 v47 (.pointer (some ⟨Xb, 0, none⟩)) v49 v50 v51 → RowF w' Xb 46 11 (fun _ => .int .u64 0) → w.heap.size = Xb → Chg w w' (fun _ => False) → K ⟨arr', []⟩ w')) :
    Code.wp Yba.prog (nav [1, 1, 1, 1, 1, 1, 1, 1, 1, 1, 1, 1, 1, 1, 1, 1, 1, 1, 1, 1, 1, 1, 1, 1, 1, 1, 1, 1, 1, 1, 1, 1, 1, 1, 1, 1, 0] (Yba.f3.body.getD .skip)) (Exit.then K (Qp Q R)) ⟨arr, []⟩ w := by
  refine hs.open (fun t => ?_)
  clear hs
  conv => arg 2; whnf
  go_wp2
  refine HQ.out _ _ w.heap.size ?_ ?_ rfl ((Chg.refl _ _).alloc _)
  · exact (Fx.mk rfl rfl rfl rfl rfl rfl rfl rfl rfl rfl rfl rfl rfl rfl rfl rfl rfl rfl rfl rfl rfl rfl rfl rfl rfl rfl rfl rfl rfl rfl rfl rfl rfl rfl rfl rfl rfl rfl rfl rfl rfl rfl rfl rfl rfl rfl rfl rfl rfl rfl rfl rfl rfl)
  · refine RowF.newA _ _ _ _ _ rfl ?_
    intro i hi
    match i, hi with
    | 0, _ => rfl
    | 1, _ => rfl
    | 2, _ => rfl
    | 3, _ => rfl
    | 4, _ => rfl
    | 5, _ => rfl
    | 6, _ => rfl
    | 7, _ => rfl
    | 8, _ => rfl
    | 9, _ => rfl
    | 10, _ => rfl

set_option maxRecDepth 100000 in
set_option maxHeartbeats 400000 in
/-- a bit -/
theorem st37 (Xb l s O O2 : Nat) (arr : Array Value) (w : World) (K : Act → World → Prop) (Q : Exit → Act → World → Prop) (R : Ending → World → Prop) (v0 v1 v2 v3 v4 v5 v6 v7 v8 v9 v10 v11 v12 v13 v14 v15 v16 v17 v18 v19 v20 v21 v22 v23 v24 v25 v26 v27 v28 v29 v30 v31 v32 v33 v34 v35 v36 v37 v38 v39 v40 v41 v42 v43 v46 v47 v49 v50 v51 : Value)
    (hl : l < 11) (hsl : s < 64) (hO : O < 18446744073709551616) (c : w.cell? ⟨Xb, l, none⟩ = some (.int .u64 O)) (g : w.frozen? ⟨Xb, l, none⟩ = false) (e2 : (O ||| 2 ^ s) = O2)
    (hs : Fx arr v0 v1 v2 v3 v4 v5 v6 v7 v8 v9 v10 v11 v12 v13 v14 v15 v16 v17 v18 v19 v20 v21 v22 v23 v24 v25 v26 v27 v28 v29 v30 v31 v32 v33 v34 v35 v36 v37 v38 v39 v40 v41 v42 v43 (.int .i64 l) (.int .i64 s) v46 v47 (.pointer (some ⟨Xb, 0, none⟩)) v49 v50 v51)
    (HQ : Hid (∀ arr', Fx arr' v0 v1 v2 v3 v4 v5 v6 v7 v8 v9 v10 v11 v12 v13 v14 v15 v16 v17 v18 v19 v20 v21 v22 v23 v24 v25 v26 v27 v28 v29 v30 v31 v32 v33 v34 v35 v36 v37 v38 v39 v40 v41 v42 v43 (.int .i64 l) (.int .i64 s) v46 v47 (.pointer (some ⟨Xb, 0, none⟩)) v49 v50 v51 → K ⟨arr', []⟩ (w.setCell ⟨Xb, l, none⟩ (.int .u64 O2)))) :
    Code.wp Yba.prog (nav [1, 1, 1, 1, 1, 1, 1, 1, 1, 1, 1, 1, 1, 1, 1, 1, 1, 1, 1, 1, 1, 1, 1, 1, 1, 1, 1, 1, 1, 1, 1, 1, 1, 1, 1, 1, 1, 0] (Yba.f3.body.getD .skip)) (Exit.then K (Qp Q R)) ⟨arr, []⟩ w := by
  refine hs.open (fun t => ?_)
  clear hs
  conv => arg 2; whnf
  have hb := or_bit O s hO hsl
  rw [e2] at hb
  clear e2 hO
  go_wp2
  refine HQ.out _ ?_
  exact (Fx.mk rfl rfl rfl rfl rfl rfl rfl rfl rfl rfl rfl rfl rfl rfl rfl rfl rfl rfl rfl rfl rfl rfl rfl rfl rfl rfl rfl rfl rfl rfl rfl rfl rfl rfl rfl rfl rfl rfl rfl rfl rfl rfl rfl rfl rfl rfl rfl rfl rfl rfl rfl rfl rfl)

set_option maxRecDepth 100000 in
set_option maxHeartbeats 400000 in
/-- a bit -/
theorem st38 (Xb l s O O2 : Nat) (arr : Array Value) (w : World) (K : Act → World → Prop) (Q : Exit → Act → World → Prop) (R : Ending → World → Prop) (v0 v1 v2 v3 v4 v5 v6 v7 v8 v9 v10 v11 v12 v13 v14 v15 v16 v17 v18 v19 v20 v21 v22 v23 v24 v25 v26 v27 v28 v29 v30 v31 v32 v33 v34 v35 v36 v37 v38 v39 v40 v41 v42 v43 v44 v45 v49 v50 v51 : Value)
    (hl : l < 11) (hsl : s < 64) (hO : O < 18446744073709551616) (c : w.cell? ⟨Xb, l, none⟩ = some (.int .u64 O)) (g : w.frozen? ⟨Xb, l, none⟩ = false) (e2 : (O ||| 2 ^ s) = O2)
    (hs : Fx arr v0 v1 v2 v3 v4 v5 v6 v7 v8 v9 v10 v11 v12 v13 v14 v15 v16 v17 v18 v19 v20 v21 v22 v23 v24 v25 v26 v27 v28 v29 v30 v31 v32 v33 v34 v35 v36 v37 v38 v39 v40 v41 v42 v43 v44 v45 (.int .i64 l) (.int .i64 s) (.pointer (some ⟨Xb, 0, none⟩)) v49 v50 v51)
    (HQ : Hid (∀ arr', Fx arr' v0 v1 v2 v3 v4 v5 v6 v7 v8 v9 v10 v11 v12 v13 v14 v15 v16 v17 v18 v19 v20 v21 v22 v23 v24 v25 v26 v27 v28 v29 v30 v31 v32 v33 v34 v35 v36 v37 v38 v39 v40 v41 v42 v43 v44 v45 (.int .i64 l) (.int .i64 s) (.pointer (some ⟨Xb, 0, none⟩)) v49 v50 v51 → K ⟨arr', []⟩ (w.setCell ⟨Xb, l, none⟩ (.int .u64 O2)))) :
    Code.wp Yba.prog (nav [1, 1, 1, 1, 1, 1, 1, 1, 1, 1, 1, 1, 1, 1, 1, 1, 1, 1, 1, 1, 1, 1, 1, 1, 1, 1, 1, 1, 1, 1, 1, 1, 1, 1, 1, 1, 1, 1, 0] (Yba.f3.body.getD .skip)) (Exit.then K (Qp Q R)) ⟨arr, []⟩ w := by
  refine hs.open (fun t => ?_)
  clear hs
  conv => arg 2; whnf
  have hb := or_bit O s hO hsl
  rw [e2] at hb
  clear e2 hO
  go_wp2
  refine HQ.out _ ?_
  exact (Fx.mk rfl rfl rfl rfl rfl rfl rfl rfl rfl rfl rfl rfl rfl rfl rfl rfl rfl rfl rfl rfl rfl rfl rfl rfl rfl rfl rfl rfl rfl rfl rfl rfl rfl rfl rfl rfl rfl rfl rfl rfl rfl rfl rfl rfl rfl rfl rfl rfl rfl rfl rfl rfl rfl)

set_option maxRecDepth 100000 in
set_option maxHeartbeats 400000 in
/-- t.prev, o.next -/
theorem st41 (Tb Ob : Nat) (arr : Array Value) (w : World) (K : Act → World → Prop) (Q : Exit → Act → World → Prop) (R : Ending → World → Prop) (v0 v1 v2 v3 v4 v5 v6 v7 v8 v9 v10 v11 v12 v13 v14 v15 v16 v17 v18 v19 v20 v21 v22 v23 v24 v26 v28 v29 v30 v31 v32 v33 v34 v35 v36 v37 v38 v39 v40 v41 v42 v43 v44 v45 v46 v47 v48 v49 v50 v51 : Value)
    (c8 : w.cell? ⟨Tb, 8, none⟩ = some (.pointer none)) (d7 : w.cell? ⟨Ob, 7, none⟩ = some (.pointer none))
    (hs : Fx arr v0 v1 v2 v3 v4 v5 v6 v7 v8 v9 v10 v11 v12 v13 v14 v15 v16 v17 v18 v19 v20 v21 v22 v23 v24 (.pointer (some ⟨Tb, 0, none⟩)) v26 (.pointer (some ⟨Ob, 0, none⟩)) v28 v29 v30 v31 v32 v33 v34 v35 v36 v37 v38 v39 v40 v41 v42 v43 v44 v45 v46 v47 v48 v49 v50 v51)
    (HQ : Hid (∀ arr', Fx arr' v0 v1 v2 v3 v4 v5 v6 v7 v8 v9 v10 v11 v12 v13 v14 v15 v16 v17 v18 v19 v20 v21 v22 v23 v24 (.pointer (some ⟨Tb, 0, none⟩)) v26 (.pointer (some ⟨Ob, 0, none⟩)) v28 v29 v30 v31 v32 v33 v34 v35 v36 v37 v38 v39 v40 v41 v42 v43 v44 v45 v46 v47 v48 v49 v50 v51 → K ⟨arr', []⟩ w)) :
    Code.wp Yba.prog (nav [1, 1, 1, 1, 1, 1, 1, 1, 1, 1, 1, 1, 1, 1, 1, 1, 1, 1, 1, 1, 1, 1, 1, 1, 1, 1, 1, 1, 1, 1, 1, 1, 1, 1, 1, 1, 1, 1, 1, 1, 1, 0] (Yba.f3.body.getD .skip)) (Exit.then K (Qp Q R)) ⟨arr, []⟩ w := by
  refine hs.open (fun t => ?_)
  clear hs
  conv => arg 2; whnf
  have hn := neq_same none
  go_wp2
  refine HQ.out _ ?_
  exact (Fx.mk rfl rfl rfl rfl rfl rfl rfl rfl rfl rfl rfl rfl rfl rfl rfl rfl rfl rfl rfl rfl rfl rfl rfl rfl rfl rfl rfl rfl rfl rfl rfl rfl rfl rfl rfl rfl rfl rfl rfl rfl rfl rfl rfl rfl rfl rfl rfl rfl rfl rfl rfl rfl rfl)

set_option maxRecDepth 100000 in
set_option maxHeartbeats 400000 in
/-- the same place -/
theorem st42y (Tb Ob l s : Nat) (arr : Array Value) (w : World) (K : Act → World → Prop) (Q : Exit → Act → World → Prop) (R : Ending → World → Prop) (v0 v1 v2 v3 v4 v5 v6 v7 v8 v9 v10 v11 v12 v13 v14 v15 v16 v17 v18 v19 v20 v21 v22 v23 v24 v26 v28 v29 v30 v31 v32 v33 v34 v35 v36 v37 v38 v39 v40 v41 v42 v43 v48 v49 v50 v51 : Value)
    (c7 : w.cell? ⟨Tb, 7, none⟩ = some (.pointer (some ⟨Ob, 0, none⟩))) (d8 : w.cell? ⟨Ob, 8, none⟩ = some (.pointer (some ⟨Tb, 0, none⟩)))
    (hs : Fx arr v0 v1 v2 v3 v4 v5 v6 v7 v8 v9 v10 v11 v12 v13 v14 v15 v16 v17 v18 v19 v20 v21 v22 v23 v24 (.pointer (some ⟨Tb, 0, none⟩)) v26 (.pointer (some ⟨Ob, 0, none⟩)) v28 v29 v30 v31 v32 v33 v34 v35 v36 v37 v38 v39 v40 v41 v42 v43 (.int .i64 l) (.int .i64 s) (.int .i64 l) (.int .i64 s) v48 v49 v50 v51)
    (HQ : Hid (∀ arr', Fx arr' v0 v1 v2 v3 v4 v5 v6 v7 v8 v9 v10 v11 v12 v13 v14 v15 v16 v17 v18 v19 (.bool true) v21 v22 v23 v24 (.pointer (some ⟨Tb, 0, none⟩)) v26 (.pointer (some ⟨Ob, 0, none⟩)) v28 v29 v30 v31 v32 v33 v34 v35 v36 v37 v38 v39 v40 v41 v42 v43 (.int .i64 l) (.int .i64 s) (.int .i64 l) (.int .i64 s) v48 v49 v50 v51 → Q .ret ⟨arr', []⟩ w)) :
    Code.wp Yba.prog (nav [1, 1, 1, 1, 1, 1, 1, 1, 1, 1, 1, 1, 1, 1, 1, 1, 1, 1, 1, 1, 1, 1, 1, 1, 1, 1, 1, 1, 1, 1, 1, 1, 1, 1, 1, 1, 1, 1, 1, 1, 1, 1, 0] (Yba.f3.body.getD .skip)) (Exit.then K (Qp Q R)) ⟨arr, []⟩ w := by
  refine hs.open (fun t => ?_)
  clear hs
  conv => arg 2; whnf
  have h1 := eql_same (some ⟨Tb, 0, none⟩)
  have h2 := eql_same (some ⟨Ob, 0, none⟩)
  go_wp2
  refine HQ.out _ ?_
  exact (Fx.mk rfl rfl rfl rfl rfl rfl rfl rfl rfl rfl rfl rfl rfl rfl rfl rfl rfl rfl rfl rfl rfl rfl rfl rfl rfl rfl rfl rfl rfl rfl rfl rfl rfl rfl rfl rfl rfl rfl rfl rfl rfl rfl rfl rfl rfl rfl rfl rfl rfl rfl rfl rfl rfl)

set_option maxRecDepth 100000 in
set_option maxHeartbeats 400000 in
/-- another level -/
theorem st42n (l s l2 s2 : Nat) (arr : Array Value) (w : World) (K : Act → World → Prop) (Q : Exit → Act → World → Prop) (R : Ending → World → Prop) (v0 v1 v2 v3 v4 v5 v6 v7 v8 v9 v10 v11 v12 v13 v14 v15 v16 v17 v18 v19 v20 v21 v22 v23 v24 v25 v26 v27 v28 v29 v30 v31 v32 v33 v34 v35 v36 v37 v38 v39 v40 v41 v42 v43 v48 v49 v50 v51 : Value)
    (h : ((l : Int) == (l2 : Int)) = false)
    (hs : Fx arr v0 v1 v2 v3 v4 v5 v6 v7 v8 v9 v10 v11 v12 v13 v14 v15 v16 v17 v18 v19 v20 v21 v22 v23 v24 v25 v26 v27 v28 v29 v30 v31 v32 v33 v34 v35 v36 v37 v38 v39 v40 v41 v42 v43 (.int .i64 l) (.int .i64 s) (.int .i64 l2) (.int .i64 s2) v48 v49 v50 v51)
    (HQ : Hid (∀ arr', Fx arr' v0 v1 v2 v3 v4 v5 v6 v7 v8 v9 v10 v11 v12 v13 v14 v15 v16 v17 v18 v19 v20 v21 v22 v23 v24 v25 v26 v27 v28 v29 v30 v31 v32 v33 v34 v35 v36 v37 v38 v39 v40 v41 v42 v43 (.int .i64 l) (.int .i64 s) (.int .i64 l2) (.int .i64 s2) v48 v49 v50 v51 → K ⟨arr', []⟩ w)) :
    Code.wp Yba.prog (nav [1, 1, 1, 1, 1, 1, 1, 1, 1, 1, 1, 1, 1, 1, 1, 1, 1, 1, 1, 1, 1, 1, 1, 1, 1, 1, 1, 1, 1, 1, 1, 1, 1, 1, 1, 1, 1, 1, 1, 1, 1, 1, 0] (Yba.f3.body.getD .skip)) (Exit.then K (Qp Q R)) ⟨arr, []⟩ w := by
  refine hs.open (fun t => ?_)
  clear hs
  conv => arg 2; whnf
  go_wp2
  refine HQ.out _ ?_
  exact (Fx.mk rfl rfl rfl rfl rfl rfl rfl rfl rfl rfl rfl rfl rfl rfl rfl rfl rfl rfl rfl rfl rfl rfl rfl rfl rfl rfl rfl rfl rfl rfl rfl rfl rfl rfl rfl rfl rfl rfl rfl rfl rfl rfl rfl rfl rfl rfl rfl rfl rfl rfl rfl rfl rfl)

set_option maxRecDepth 100000 in
set_option maxHeartbeats 400000 in
/-- another slot -/
theorem st42m (l s s2 : Nat) (arr : Array Value) (w : World) (K : Act → World → Prop) (Q : Exit → Act → World → Prop) (R : Ending → World → Prop) (v0 v1 v2 v3 v4 v5 v6 v7 v8 v9 v10 v11 v12 v13 v14 v15 v16 v17 v18 v19 v20 v21 v22 v23 v24 v25 v26 v27 v28 v29 v30 v31 v32 v33 v34 v35 v36 v37 v38 v39 v40 v41 v42 v43 v48 v49 v50 v51 : Value)
    (h : ((s : Int) == (s2 : Int)) = false)
    (hs : Fx arr v0 v1 v2 v3 v4 v5 v6 v7 v8 v9 v10 v11 v12 v13 v14 v15 v16 v17 v18 v19 v20 v21 v22 v23 v24 v25 v26 v27 v28 v29 v30 v31 v32 v33 v34 v35 v36 v37 v38 v39 v40 v41 v42 v43 (.int .i64 l) (.int .i64 s) (.int .i64 l) (.int .i64 s2) v48 v49 v50 v51)
    (HQ : Hid (∀ arr', Fx arr' v0 v1 v2 v3 v4 v5 v6 v7 v8 v9 v10 v11 v12 v13 v14 v15 v16 v17 v18 v19 v20 v21 v22 v23 v24 v25 v26 v27 v28 v29 v30 v31 v32 v33 v34 v35 v36 v37 v38 v39 v40 v41 v42 v43 (.int .i64 l) (.int .i64 s) (.int .i64 l) (.int .i64 s2) v48 v49 v50 v51 → K ⟨arr', []⟩ w)) :
    Code.wp Yba.prog (nav [1, 1, 1, 1, 1, 1, 1, 1, 1, 1, 1, 1, 1, 1, 1, 1, 1, 1, 1, 1, 1, 1, 1, 1, 1, 1, 1, 1, 1, 1, 1, 1, 1, 1, 1, 1, 1, 1, 1, 1, 1, 1, 0] (Yba.f3.body.getD .skip)) (Exit.then K (Qp Q R)) ⟨arr, []⟩ w := by
  refine hs.open (fun t => ?_)
  clear hs
  conv => arg 2; whnf
  go_wp2
  refine HQ.out _ ?_
  exact (Fx.mk rfl rfl rfl rfl rfl rfl rfl rfl rfl rfl rfl rfl rfl rfl rfl rfl rfl rfl rfl rfl rfl rfl rfl rfl rfl rfl rfl rfl rfl rfl rfl rfl rfl rfl rfl rfl rfl rfl rfl rfl rfl rfl rfl rfl rfl rfl rfl rfl rfl rfl rfl rfl rfl)

set_option maxRecDepth 100000 in
set_option maxHeartbeats 400000 in
/-- other places -/
theorem st43 (Tb Ob : Nat) (arr : Array Value) (w : World) (K : Act → World → Prop) (Q : Exit → Act → World → Prop) (R : Ending → World → Prop) (v0 v1 v2 v3 v4 v5 v6 v7 v8 v9 v10 v11 v12 v13 v14 v15 v16 v17 v18 v19 v20 v21 v22 v23 v24 v26 v28 v29 v30 v31 v32 v33 v34 v35 v36 v37 v38 v39 v40 v41 v42 v43 v44 v45 v46 v47 v48 v49 v50 v51 : Value)
    (c7 : w.cell? ⟨Tb, 7, none⟩ = some (.pointer none)) (d8 : w.cell? ⟨Ob, 8, none⟩ = some (.pointer none))
    (hs : Fx arr v0 v1 v2 v3 v4 v5 v6 v7 v8 v9 v10 v11 v12 v13 v14 v15 v16 v17 v18 v19 v20 v21 v22 v23 v24 (.pointer (some ⟨Tb, 0, none⟩)) v26 (.pointer (some ⟨Ob, 0, none⟩)) v28 v29 v30 v31 v32 v33 v34 v35 v36 v37 v38 v39 v40 v41 v42 v43 v44 v45 v46 v47 v48 v49 v50 v51)
    (HQ : Hid (∀ arr', Fx arr' v0 v1 v2 v3 v4 v5 v6 v7 v8 v9 v10 v11 v12 v13 v14 v15 v16 v17 v18 v19 (.bool true) v21 v22 v23 v24 (.pointer (some ⟨Tb, 0, none⟩)) v26 (.pointer (some ⟨Ob, 0, none⟩)) v28 v29 v30 v31 v32 v33 v34 v35 v36 v37 v38 v39 v40 v41 v42 v43 v44 v45 v46 v47 v48 v49 v50 v51 → Q .ret ⟨arr', []⟩ w)) :
    Code.wp Yba.prog (nav [1, 1, 1, 1, 1, 1, 1, 1, 1, 1, 1, 1, 1, 1, 1, 1, 1, 1, 1, 1, 1, 1, 1, 1, 1, 1, 1, 1, 1, 1, 1, 1, 1, 1, 1, 1, 1, 1, 1, 1, 1, 1, 1] (Yba.f3.body.getD .skip)) (Exit.then K (Qp Q R)) ⟨arr, []⟩ w := by
  refine hs.open (fun t => ?_)
  clear hs
  conv => arg 2; whnf
  have hn := eql_same none
  go_wp2
  refine HQ.out _ ?_
  exact (Fx.mk rfl rfl rfl rfl rfl rfl rfl rfl rfl rfl rfl rfl rfl rfl rfl rfl rfl rfl rfl rfl rfl rfl rfl rfl rfl rfl rfl rfl rfl rfl rfl rfl rfl rfl rfl rfl rfl rfl rfl rfl rfl rfl rfl rfl rfl rfl rfl rfl rfl rfl rfl rfl rfl)

end Go.Proofs.Ybulkdgza
