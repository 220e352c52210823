/-
  LawS5405CWhole, its statements 22 to 26: the parts of the model's loops.
-/
import Derived.Test.YbulkdgxkS5b
import Derived.Deep.DeepMust
namespace Go.Proofs.Ybulkdgxk
open Go.RowKit C
set_option linter.unusedVariables false
set_option linter.unusedSimpArgs false

/-- The test of the model's gathering. -/
def cnd (U : Nat → Up) (np p x : Nat) (b : Bool) (i : Nat) : Bool := own U np i == p && ((U i).pend == b) && i != x
/-- What k steps down from n gather. -/
def dnL (c : Nat → Bool) (n k : Nat) : List Nat := ((List.range k).map (fun j => n - 1 - j)).filter c
theorem dnL_succ (c : Nat → Bool) (n k : Nat) : dnL c n (k + 1) = if c (n - 1 - k) then dnL c n k ++ [n - 1 - k] else dnL c n k := by
  unfold dnL; rw [List.range_succ, List.map_append, List.filter_append]; cases h : c (n - 1 - k) <;> simp [h]
theorem dnL_le (c : Nat → Bool) (n k : Nat) : (dnL c n k).length ≤ k := by
  have := List.length_filter_le c ((List.range k).map (fun j => n - 1 - j)); simpa [dnL] using this
theorem range_rev (n : Nat) : (List.range n).map (fun j => n - 1 - j) = (List.range n).reverse := by
  apply List.ext_getElem
  · simp
  · intro i h1 h2; simp
theorem seq_parts (U : Nat → Up) (np n x p : Nat) : dnL (cnd U np p x true) n n ++ dnL (cnd U np p x false) n n = seqL (own U np) (fun i => (U i).pend) n x p := by
  unfold dnL seqL
  rw [range_rev]
  congr 1
  · apply List.filter_congr; intro i _; unfold cnd; cases h : (U i).pend <;> simp [h]
  · apply List.filter_congr; intro i _; unfold cnd; cases h : (U i).pend <;> simp [h]

set_option maxRecDepth 100000 in
set_option maxHeartbeats 400000 in
/-- px := own[x] -/
theorem s22 (n g x np : Nat) (U : Nat → Up) (arr : Array Value) (w : World) (K : Act → World → Prop) (Q : Exit → Act → World → Prop) (v0 v1 v2 v3 v4 v5 v6 v7 v8 v9 v10 v11 v12 v15 v16 v17 v18 v19 v20 v21 v22 v23 v24 v25 v26 v27 v28 v29 v30 v31 v32 v33 v34 v35 v36 v37 v38 v39 v40 v41 v42 v43 v44 v45 v46 : Value)
    (hx : x < n) (ho : RowF w g 21 n (ownF U np))
    (hs : Fx arr v0 v1 v2 v3 v4 v5 v6 v7 v8 v9 v10 v11 v12 (.int .i64 x) (.slice (some ⟨g, 0, none⟩) n n) v15 v16 v17 v18 v19 v20 v21 v22 v23 v24 v25 v26 v27 v28 v29 v30 v31 v32 v33 v34 v35 v36 v37 v38 v39 v40 v41 v42 v43 v44 v45 v46)
    (HQ : Hid (∀ arr', Fx arr' v0 v1 v2 v3 v4 v5 v6 v7 v8 v9 v10 v11 v12 (.int .i64 x) (.slice (some ⟨g, 0, none⟩) n n) v15 v16 v17 v18 v19 v20 v21 v22 v23 v24 v25 v26 v27 v28 v29 (.int .i32 (own U np x : Int)) v31 v32 v33 v34 v35 v36 v37 v38 v39 v40 v41 v42 v43 v44 v45 v46 → K ⟨arr', []⟩ w)) :
    Code.wp Yba.prog (nav [1, 1, 1, 1, 1, 1, 1, 1, 1, 1, 1, 1, 1, 1, 1, 1, 1, 1, 1, 1, 1, 1, 0] (Yba.f4.body.getD .skip)) (Exit.then K Q) ⟨arr, []⟩ w := by
  refine hs.open (fun t => ?_)
  clear hs
  conv => arg 2; whnf
  have hx' : (x : Int) < (n : Int) := by omega
  have co := ho.cell hx
  simp only [ownF, intF] at co
  clear ho
  go_wp2
  refine HQ.out _ ?_
  exact (Fx.mk rfl rfl rfl rfl rfl rfl rfl rfl rfl rfl rfl rfl rfl rfl rfl rfl rfl rfl rfl rfl rfl rfl rfl rfl rfl rfl rfl rfl rfl rfl rfl rfl rfl rfl rfl rfl rfl rfl rfl rfl rfl rfl rfl rfl rfl rfl rfl rfl)

set_option maxRecDepth 100000 in
set_option maxHeartbeats 400000 in
/-- make -/
theorem s23 (n : Nat) (arr : Array Value) (w : World) (K : Act → World → Prop) (Q : Exit → Act → World → Prop) (v0 v1 v2 v3 v4 v5 v6 v7 v8 v9 v10 v12 v13 v14 v15 v16 v17 v18 v19 v20 v21 v22 v23 v24 v25 v26 v27 v28 v29 v30 v31 v32 v33 v34 v35 v36 v37 v38 v39 v40 v41 v42 v43 v44 v45 v46 : Value)
    (hn : n ≤ 2097152)
    (hs : Fx arr v0 v1 v2 v3 v4 v5 v6 v7 v8 v9 v10 (.int .i64 n) v12 v13 v14 v15 v16 v17 v18 v19 v20 v21 v22 v23 v24 v25 v26 v27 v28 v29 v30 v31 v32 v33 v34 v35 v36 v37 v38 v39 v40 v41 v42 v43 v44 v45 v46)
    (HQ : Hid (∀ arr', Fx arr' v0 v1 v2 v3 v4 v5 v6 v7 v8 v9 v10 (.int .i64 n) v12 v13 v14 v15 v16 v17 v18 v19 v20 v21 v22 v23 v24 v25 v26 v27 v28 v29 v30 (.slice (some ⟨w.heap.size, 0, none⟩) n n) v32 v33 v34 v35 v36 v37 v38 v39 v40 v41 v42 v43 v44 v45 v46 → K ⟨arr', []⟩ (w.alloc (.cells (Array.replicate n (Value.int .i32 0)) 21)))) :
    Code.wp Yba.prog (nav [1, 1, 1, 1, 1, 1, 1, 1, 1, 1, 1, 1, 1, 1, 1, 1, 1, 1, 1, 1, 1, 1, 1, 0] (Yba.f4.body.getD .skip)) (Exit.then K Q) ⟨arr, []⟩ w := by
  refine hs.open (fun t => ?_)
  clear hs
  conv => arg 2; whnf
  have hmk := mk27 n hn
  go_wp2
  refine HQ.out _ ?_
  exact (Fx.mk rfl rfl rfl rfl rfl rfl rfl rfl rfl rfl rfl rfl rfl rfl rfl rfl rfl rfl rfl rfl rfl rfl rfl rfl rfl rfl rfl rfl rfl rfl rfl rfl rfl rfl rfl rfl rfl rfl rfl rfl rfl rfl rfl rfl rfl rfl rfl rfl)

set_option maxRecDepth 100000 in
set_option maxHeartbeats 400000 in
/-- make -/
theorem s24 (n : Nat) (arr : Array Value) (w : World) (K : Act → World → Prop) (Q : Exit → Act → World → Prop) (v0 v1 v2 v3 v4 v5 v6 v7 v8 v9 v10 v11 v13 v14 v15 v16 v17 v18 v19 v20 v21 v22 v23 v24 v25 v26 v27 v28 v29 v30 v31 v32 v33 v34 v35 v36 v37 v38 v39 v40 v41 v42 v43 v44 v45 v46 : Value)
    (hn : n ≤ 2097152)
    (hs : Fx arr v0 v1 v2 v3 v4 v5 v6 v7 v8 v9 v10 v11 (.int .i64 n) v13 v14 v15 v16 v17 v18 v19 v20 v21 v22 v23 v24 v25 v26 v27 v28 v29 v30 v31 v32 v33 v34 v35 v36 v37 v38 v39 v40 v41 v42 v43 v44 v45 v46)
    (HQ : Hid (∀ arr', Fx arr' v0 v1 v2 v3 v4 v5 v6 v7 v8 v9 v10 v11 (.int .i64 n) v13 v14 v15 v16 v17 v18 v19 v20 v21 v22 v23 v24 v25 v26 v27 v28 v29 v30 v31 (.slice (some ⟨w.heap.size, 0, none⟩) n n) v33 v34 v35 v36 v37 v38 v39 v40 v41 v42 v43 v44 v45 v46 → K ⟨arr', []⟩ (w.alloc (.cells (Array.replicate n (Value.int .i32 0)) 21)))) :
    Code.wp Yba.prog (nav [1, 1, 1, 1, 1, 1, 1, 1, 1, 1, 1, 1, 1, 1, 1, 1, 1, 1, 1, 1, 1, 1, 1, 1, 0] (Yba.f4.body.getD .skip)) (Exit.then K Q) ⟨arr, []⟩ w := by
  refine hs.open (fun t => ?_)
  clear hs
  conv => arg 2; whnf
  have hmk := mk27 n hn
  go_wp2
  refine HQ.out _ ?_
  exact (Fx.mk rfl rfl rfl rfl rfl rfl rfl rfl rfl rfl rfl rfl rfl rfl rfl rfl rfl rfl rfl rfl rfl rfl rfl rfl rfl rfl rfl rfl rfl rfl rfl rfl rfl rfl rfl rfl rfl rfl rfl rfl rfl rfl rfl rfl rfl rfl rfl rfl)

set_option maxRecDepth 100000 in
set_option maxHeartbeats 400000 in
/-- counter := 0 -/
theorem s25i  (arr : Array Value) (w : World) (K : Act → World → Prop) (Q : Exit → Act → World → Prop) (v0 v1 v2 v3 v4 v5 v6 v7 v8 v9 v10 v11 v12 v13 v14 v15 v16 v17 v18 v19 v20 v21 v22 v23 v24 v25 v26 v27 v28 v29 v30 v31 v32 v33 v34 v35 v36 v37 v38 v39 v40 v41 v42 v43 v44 v45 v46 : Value)
    
    (hs : Fx arr v0 v1 v2 v3 v4 v5 v6 v7 v8 v9 v10 v11 v12 v13 v14 v15 v16 v17 v18 v19 v20 v21 v22 v23 v24 v25 v26 v27 v28 v29 v30 v31 v32 v33 v34 v35 v36 v37 v38 v39 v40 v41 v42 v43 v44 v45 v46)
    (HQ : Hid (∀ arr', Fx arr' v0 v1 v2 v3 v4 v5 v6 v7 v8 v9 v10 v11 v12 v13 v14 v15 v16 v17 v18 v19 v20 v21 v22 v23 v24 v25 v26 v27 v28 v29 v30 v31 v32 (.int .i64 ((0 : Nat) : Int)) v34 v35 v36 v37 v38 v39 v40 v41 v42 v43 v44 v45 v46 → K ⟨arr', []⟩ w)) :
    Code.wp Yba.prog (nav [1, 1, 1, 1, 1, 1, 1, 1, 1, 1, 1, 1, 1, 1, 1, 1, 1, 1, 1, 1, 1, 1, 1, 1, 1, 0, 0] (Yba.f4.body.getD .skip)) (Exit.then K Q) ⟨arr, []⟩ w := by
  refine hs.open (fun t => ?_)
  clear hs
  conv => arg 2; whnf
  go_wp2
  refine HQ.out _ ?_
  exact (Fx.mk rfl rfl rfl rfl rfl rfl rfl rfl rfl rfl rfl rfl rfl rfl rfl rfl rfl rfl rfl rfl rfl rfl rfl rfl rfl rfl rfl rfl rfl rfl rfl rfl rfl rfl rfl rfl rfl rfl rfl rfl rfl rfl rfl rfl rfl rfl rfl rfl)

set_option maxRecDepth 100000 in
set_option maxHeartbeats 400000 in
/-- counter < limit -/
theorem s25t (n k : Nat) (arr : Array Value) (w : World) (K : Act → World → Prop) (Q : Exit → Act → World → Prop) (v0 v1 v2 v3 v4 v5 v6 v7 v8 v9 v10 v11 v13 v14 v15 v16 v17 v18 v19 v20 v21 v22 v23 v24 v25 v26 v27 v28 v29 v30 v31 v32 v34 v35 v36 v37 v38 v39 v40 v41 v42 v43 v44 v45 v46 : Value)
    (hlt : k < n ∨ k = n)
    (hs : Fx arr v0 v1 v2 v3 v4 v5 v6 v7 v8 v9 v10 v11 (.int .i64 n) v13 v14 v15 v16 v17 v18 v19 v20 v21 v22 v23 v24 v25 v26 v27 v28 v29 v30 v31 v32 (.int .i64 k) v34 v35 v36 v37 v38 v39 v40 v41 v42 v43 v44 v45 v46)
    (HQ : Hid (∀ arr', Fx arr' v0 v1 v2 v3 v4 v5 v6 v7 v8 v9 v10 v11 (.int .i64 n) v13 v14 v15 v16 v17 v18 v19 v20 v21 v22 v23 v24 v25 v26 v27 v28 v29 v30 v31 v32 (.int .i64 k) v34 v35 v36 v37 v38 v39 v40 v41 v42 v43 v44 v45 v46 → k < n → K ⟨arr', []⟩ w))
    (HX : Hid (∀ arr', Fx arr' v0 v1 v2 v3 v4 v5 v6 v7 v8 v9 v10 v11 (.int .i64 n) v13 v14 v15 v16 v17 v18 v19 v20 v21 v22 v23 v24 v25 v26 v27 v28 v29 v30 v31 v32 (.int .i64 k) v34 v35 v36 v37 v38 v39 v40 v41 v42 v43 v44 v45 v46 → k = n → Q (.exit 12) ⟨arr', []⟩ w)) :
    Code.wp Yba.prog (nav [1, 1, 1, 1, 1, 1, 1, 1, 1, 1, 1, 1, 1, 1, 1, 1, 1, 1, 1, 1, 1, 1, 1, 1, 1, 0, 1, 2, 2, 0] (Yba.f4.body.getD .skip)) (Exit.then K Q) ⟨arr, []⟩ w := by
  refine hs.open (fun t => ?_)
  clear hs
  conv => arg 2; whnf
  by_cases h : k < n
  · have h' : (k : Int) < (n : Int) := by omega
    go_wp2
    refine HQ.out _ ?_ h
    exact (Fx.mk rfl rfl rfl rfl rfl rfl rfl rfl rfl rfl rfl rfl rfl rfl rfl rfl rfl rfl rfl rfl rfl rfl rfl rfl rfl rfl rfl rfl rfl rfl rfl rfl rfl rfl rfl rfl rfl rfl rfl rfl rfl rfl rfl rfl rfl rfl rfl rfl)
  · have h' : ¬ (k : Int) < (n : Int) := by omega
    go_wp2
    refine HX.out _ ?_ (by omega)
    exact (Fx.mk rfl rfl rfl rfl rfl rfl rfl rfl rfl rfl rfl rfl rfl rfl rfl rfl rfl rfl rfl rfl rfl rfl rfl rfl rfl rfl rfl rfl rfl rfl rfl rfl rfl rfl rfl rfl rfl rfl rfl rfl rfl rfl rfl rfl rfl rfl rfl rfl)

set_option maxRecDepth 100000 in
set_option maxHeartbeats 400000 in
/-- counter++ -/
theorem s25p (k : Nat) (arr : Array Value) (w : World) (K : Act → World → Prop) (Q : Exit → Act → World → Prop) (v0 v1 v2 v3 v4 v5 v6 v7 v8 v9 v10 v11 v12 v13 v14 v15 v16 v17 v18 v19 v20 v21 v22 v23 v24 v25 v26 v27 v28 v29 v30 v31 v32 v34 v35 v36 v37 v38 v39 v40 v41 v42 v43 v44 v45 v46 : Value)
    (hk : k ≤ 2000000)
    (hs : Fx arr v0 v1 v2 v3 v4 v5 v6 v7 v8 v9 v10 v11 v12 v13 v14 v15 v16 v17 v18 v19 v20 v21 v22 v23 v24 v25 v26 v27 v28 v29 v30 v31 v32 (.int .i64 k) v34 v35 v36 v37 v38 v39 v40 v41 v42 v43 v44 v45 v46)
    (HQ : Hid (∀ arr', Fx arr' v0 v1 v2 v3 v4 v5 v6 v7 v8 v9 v10 v11 v12 v13 v14 v15 v16 v17 v18 v19 v20 v21 v22 v23 v24 v25 v26 v27 v28 v29 v30 v31 v32 (.int .i64 ((k + 1 : Nat) : Int)) v34 v35 v36 v37 v38 v39 v40 v41 v42 v43 v44 v45 v46 → K ⟨arr', []⟩ w)) :
    Code.wp Yba.prog (nav [1, 1, 1, 1, 1, 1, 1, 1, 1, 1, 1, 1, 1, 1, 1, 1, 1, 1, 1, 1, 1, 1, 1, 1, 1, 0, 1, 2, 2, 1, 1] (Yba.f4.body.getD .skip)) (Exit.then K Q) ⟨arr, []⟩ w := by
  refine hs.open (fun t => ?_)
  clear hs
  conv => arg 2; whnf
  go_wp2
  refine HQ.out _ ?_
  exact (Fx.mk rfl rfl rfl rfl rfl rfl rfl rfl rfl rfl rfl rfl rfl rfl rfl rfl rfl rfl rfl rfl rfl rfl rfl rfl rfl rfl rfl rfl rfl rfl rfl rfl rfl rfl (by go_num) rfl rfl rfl rfl rfl rfl rfl rfl rfl rfl rfl rfl rfl)

set_option maxRecDepth 100000 in
set_option maxHeartbeats 400000 in
/-- var seq []int32 -/
theorem s25a  (arr : Array Value) (w : World) (K : Act → World → Prop) (Q : Exit → Act → World → Prop) (v0 v1 v2 v3 v4 v5 v6 v7 v8 v9 v10 v11 v12 v13 v14 v15 v16 v17 v18 v19 v20 v21 v22 v23 v24 v25 v26 v27 v28 v29 v30 v31 v32 v33 v34 v35 v36 v37 v38 v39 v40 v41 v42 v43 v44 v45 v46 : Value)
    
    (hs : Fx arr v0 v1 v2 v3 v4 v5 v6 v7 v8 v9 v10 v11 v12 v13 v14 v15 v16 v17 v18 v19 v20 v21 v22 v23 v24 v25 v26 v27 v28 v29 v30 v31 v32 v33 v34 v35 v36 v37 v38 v39 v40 v41 v42 v43 v44 v45 v46)
    (HQ : Hid (∀ arr', Fx arr' v0 v1 v2 v3 v4 v5 v6 v7 v8 v9 v10 v11 v12 v13 v14 v15 v16 v17 v18 v19 v20 v21 v22 v23 v24 v25 v26 v27 v28 v29 v30 v31 v32 v33 (.slice none 0 0) v35 v36 v37 v38 v39 v40 v41 v42 v43 v44 v45 v46 → K ⟨arr', []⟩ w)) :
    Code.wp Yba.prog (nav [1, 1, 1, 1, 1, 1, 1, 1, 1, 1, 1, 1, 1, 1, 1, 1, 1, 1, 1, 1, 1, 1, 1, 1, 1, 0, 1, 2, 2, 1, 0, 2, 0] (Yba.f4.body.getD .skip)) (Exit.then K Q) ⟨arr, []⟩ w := by
  refine hs.open (fun t => ?_)
  clear hs
  conv => arg 2; whnf
  go_wp2
  refine HQ.out _ ?_
  exact (Fx.mk rfl rfl rfl rfl rfl rfl rfl rfl rfl rfl rfl rfl rfl rfl rfl rfl rfl rfl rfl rfl rfl rfl rfl rfl rfl rfl rfl rfl rfl rfl rfl rfl rfl rfl rfl rfl rfl rfl rfl rfl rfl rfl rfl rfl rfl rfl rfl rfl)

set_option maxRecDepth 100000 in
set_option maxHeartbeats 400000 in
/-- pass := 0 -/
theorem s25b  (arr : Array Value) (w : World) (K : Act → World → Prop) (Q : Exit → Act → World → Prop) (v0 v1 v2 v3 v4 v5 v6 v7 v8 v9 v10 v11 v12 v13 v14 v15 v16 v17 v18 v19 v20 v21 v22 v23 v24 v25 v26 v27 v28 v29 v30 v31 v32 v33 v34 v35 v36 v37 v38 v39 v40 v41 v42 v43 v44 v45 v46 : Value)
    
    (hs : Fx arr v0 v1 v2 v3 v4 v5 v6 v7 v8 v9 v10 v11 v12 v13 v14 v15 v16 v17 v18 v19 v20 v21 v22 v23 v24 v25 v26 v27 v28 v29 v30 v31 v32 v33 v34 v35 v36 v37 v38 v39 v40 v41 v42 v43 v44 v45 v46)
    (HQ : Hid (∀ arr', Fx arr' v0 v1 v2 v3 v4 v5 v6 v7 v8 v9 v10 v11 v12 v13 v14 v15 v16 v17 v18 v19 v20 v21 v22 v23 v24 v25 v26 v27 v28 v29 v30 v31 v32 v33 v34 (.int .i64 ((0 : Nat) : Int)) v36 v37 v38 v39 v40 v41 v42 v43 v44 v45 v46 → K ⟨arr', []⟩ w)) :
    Code.wp Yba.prog (nav [1, 1, 1, 1, 1, 1, 1, 1, 1, 1, 1, 1, 1, 1, 1, 1, 1, 1, 1, 1, 1, 1, 1, 1, 1, 0, 1, 2, 2, 1, 0, 2, 1, 0, 0] (Yba.f4.body.getD .skip)) (Exit.then K Q) ⟨arr, []⟩ w := by
  refine hs.open (fun t => ?_)
  clear hs
  conv => arg 2; whnf
  go_wp2
  refine HQ.out _ ?_
  exact (Fx.mk rfl rfl rfl rfl rfl rfl rfl rfl rfl rfl rfl rfl rfl rfl rfl rfl rfl rfl rfl rfl rfl rfl rfl rfl rfl rfl rfl rfl rfl rfl rfl rfl rfl rfl rfl rfl rfl rfl rfl rfl rfl rfl rfl rfl rfl rfl rfl rfl)

set_option maxRecDepth 100000 in
set_option maxHeartbeats 400000 in
/-- pass < 2 -/
theorem s14t2 (k : Nat) (arr : Array Value) (w : World) (K : Act → World → Prop) (Q : Exit → Act → World → Prop) (v0 v1 v2 v3 v4 v5 v6 v7 v8 v9 v10 v11 v12 v13 v14 v15 v16 v17 v18 v19 v20 v21 v22 v23 v24 v25 v26 v27 v28 v29 v30 v31 v32 v33 v34 v36 v37 v38 v39 v40 v41 v42 v43 v44 v45 v46 : Value)
    (hlt : k ≤ 2)
    (hs : Fx arr v0 v1 v2 v3 v4 v5 v6 v7 v8 v9 v10 v11 v12 v13 v14 v15 v16 v17 v18 v19 v20 v21 v22 v23 v24 v25 v26 v27 v28 v29 v30 v31 v32 v33 v34 (.int .i64 k) v36 v37 v38 v39 v40 v41 v42 v43 v44 v45 v46)
    (HQ : Hid (∀ arr', Fx arr' v0 v1 v2 v3 v4 v5 v6 v7 v8 v9 v10 v11 v12 v13 v14 v15 v16 v17 v18 v19 v20 v21 v22 v23 v24 v25 v26 v27 v28 v29 v30 v31 v32 v33 v34 (.int .i64 k) v36 v37 v38 v39 v40 v41 v42 v43 v44 v45 v46 → k < 2 → K ⟨arr', []⟩ w))
    (HX : Hid (∀ arr', Fx arr' v0 v1 v2 v3 v4 v5 v6 v7 v8 v9 v10 v11 v12 v13 v14 v15 v16 v17 v18 v19 v20 v21 v22 v23 v24 v25 v26 v27 v28 v29 v30 v31 v32 v33 v34 (.int .i64 k) v36 v37 v38 v39 v40 v41 v42 v43 v44 v45 v46 → k = 2 → Q (.exit 14) ⟨arr', []⟩ w)) :
    Code.wp Yba.prog (nav [1, 1, 1, 1, 1, 1, 1, 1, 1, 1, 1, 1, 1, 1, 1, 1, 1, 1, 1, 1, 1, 1, 1, 1, 1, 0, 1, 2, 2, 1, 0, 2, 1, 0, 1, 2, 2, 0] (Yba.f4.body.getD .skip)) (Exit.then K Q) ⟨arr, []⟩ w := by
  refine hs.open (fun t => ?_)
  clear hs
  conv => arg 2; whnf
  by_cases h : k < 2
  · have h' : (k : Int) < 2 := by omega
    go_wp2
    refine HQ.out _ ?_ h
    exact (Fx.mk rfl rfl rfl rfl rfl rfl rfl rfl rfl rfl rfl rfl rfl rfl rfl rfl rfl rfl rfl rfl rfl rfl rfl rfl rfl rfl rfl rfl rfl rfl rfl rfl rfl rfl rfl rfl rfl rfl rfl rfl rfl rfl rfl rfl rfl rfl rfl rfl)
  · have h' : ¬ (k : Int) < 2 := by omega
    go_wp2
    refine HX.out _ ?_ (by omega)
    exact (Fx.mk rfl rfl rfl rfl rfl rfl rfl rfl rfl rfl rfl rfl rfl rfl rfl rfl rfl rfl rfl rfl rfl rfl rfl rfl rfl rfl rfl rfl rfl rfl rfl rfl rfl rfl rfl rfl rfl rfl rfl rfl rfl rfl rfl rfl rfl rfl rfl rfl)

set_option maxRecDepth 100000 in
set_option maxHeartbeats 400000 in
/-- pass++ -/
theorem s14p2 (k : Nat) (arr : Array Value) (w : World) (K : Act → World → Prop) (Q : Exit → Act → World → Prop) (v0 v1 v2 v3 v4 v5 v6 v7 v8 v9 v10 v11 v12 v13 v14 v15 v16 v17 v18 v19 v20 v21 v22 v23 v24 v25 v26 v27 v28 v29 v30 v31 v32 v33 v34 v36 v37 v38 v39 v40 v41 v42 v43 v44 v45 v46 : Value)
    (hk : k ≤ 2)
    (hs : Fx arr v0 v1 v2 v3 v4 v5 v6 v7 v8 v9 v10 v11 v12 v13 v14 v15 v16 v17 v18 v19 v20 v21 v22 v23 v24 v25 v26 v27 v28 v29 v30 v31 v32 v33 v34 (.int .i64 k) v36 v37 v38 v39 v40 v41 v42 v43 v44 v45 v46)
    (HQ : Hid (∀ arr', Fx arr' v0 v1 v2 v3 v4 v5 v6 v7 v8 v9 v10 v11 v12 v13 v14 v15 v16 v17 v18 v19 v20 v21 v22 v23 v24 v25 v26 v27 v28 v29 v30 v31 v32 v33 v34 (.int .i64 ((k + 1 : Nat) : Int)) v36 v37 v38 v39 v40 v41 v42 v43 v44 v45 v46 → K ⟨arr', []⟩ w)) :
    Code.wp Yba.prog (nav [1, 1, 1, 1, 1, 1, 1, 1, 1, 1, 1, 1, 1, 1, 1, 1, 1, 1, 1, 1, 1, 1, 1, 1, 1, 0, 1, 2, 2, 1, 0, 2, 1, 0, 1, 2, 2, 1, 1] (Yba.f4.body.getD .skip)) (Exit.then K Q) ⟨arr, []⟩ w := by
  refine hs.open (fun t => ?_)
  clear hs
  conv => arg 2; whnf
  go_wp2
  refine HQ.out _ ?_
  exact (Fx.mk rfl rfl rfl rfl rfl rfl rfl rfl rfl rfl rfl rfl rfl rfl rfl rfl rfl rfl rfl rfl rfl rfl rfl rfl rfl rfl rfl rfl rfl rfl rfl rfl rfl rfl rfl rfl (by go_num) rfl rfl rfl rfl rfl rfl rfl rfl rfl rfl rfl)

set_option maxRecDepth 100000 in
set_option maxHeartbeats 400000 in
/-- i := n - 1 -/
theorem s14i2 (n : Nat) (arr : Array Value) (w : World) (K : Act → World → Prop) (Q : Exit → Act → World → Prop) (v0 v1 v2 v3 v4 v5 v6 v7 v8 v9 v10 v12 v13 v14 v15 v16 v17 v18 v19 v20 v21 v22 v23 v24 v25 v26 v27 v28 v29 v30 v31 v32 v33 v34 v35 v36 v37 v38 v39 v40 v41 v42 v43 v44 v45 v46 : Value)
    (hn : 1 ≤ n) (hn2 : n ≤ 65536)
    (hs : Fx arr v0 v1 v2 v3 v4 v5 v6 v7 v8 v9 v10 (.int .i64 n) v12 v13 v14 v15 v16 v17 v18 v19 v20 v21 v22 v23 v24 v25 v26 v27 v28 v29 v30 v31 v32 v33 v34 v35 v36 v37 v38 v39 v40 v41 v42 v43 v44 v45 v46)
    (HQ : Hid (∀ arr', Fx arr' v0 v1 v2 v3 v4 v5 v6 v7 v8 v9 v10 (.int .i64 n) v12 v13 v14 v15 v16 v17 v18 v19 v20 v21 v22 v23 v24 v25 v26 v27 v28 v29 v30 v31 v32 v33 v34 v35 (.int .i64 ((n : Int) - 1 - ((0 : Nat) : Int))) v37 v38 v39 v40 v41 v42 v43 v44 v45 v46 → K ⟨arr', []⟩ w)) :
    Code.wp Yba.prog (nav [1, 1, 1, 1, 1, 1, 1, 1, 1, 1, 1, 1, 1, 1, 1, 1, 1, 1, 1, 1, 1, 1, 1, 1, 1, 0, 1, 2, 2, 1, 0, 2, 1, 0, 1, 2, 2, 1, 0, 2, 0] (Yba.f4.body.getD .skip)) (Exit.then K Q) ⟨arr, []⟩ w := by
  refine hs.open (fun t => ?_)
  clear hs
  conv => arg 2; whnf
  go_wp2
  refine HQ.out _ ?_
  exact (Fx.mk rfl rfl rfl rfl rfl rfl rfl rfl rfl rfl rfl rfl rfl rfl rfl rfl rfl rfl rfl rfl rfl rfl rfl rfl rfl rfl rfl rfl rfl rfl rfl rfl rfl rfl rfl rfl rfl (by first | rfl | go_num | simp) rfl rfl rfl rfl rfl rfl rfl rfl rfl rfl)

set_option maxRecDepth 100000 in
set_option maxHeartbeats 400000 in
/-- i >= 0 -/
theorem s16t (n k : Nat) (arr : Array Value) (w : World) (K : Act → World → Prop) (Q : Exit → Act → World → Prop) (v0 v1 v2 v3 v4 v5 v6 v7 v8 v9 v10 v11 v12 v13 v14 v15 v16 v17 v18 v19 v20 v21 v22 v23 v24 v25 v26 v27 v28 v29 v30 v31 v32 v33 v34 v35 v37 v38 v39 v40 v41 v42 v43 v44 v45 v46 : Value)
    (hlt : k ≤ n) (hn2 : n ≤ 65536)
    (hs : Fx arr v0 v1 v2 v3 v4 v5 v6 v7 v8 v9 v10 v11 v12 v13 v14 v15 v16 v17 v18 v19 v20 v21 v22 v23 v24 v25 v26 v27 v28 v29 v30 v31 v32 v33 v34 v35 (.int .i64 ((n : Int) - 1 - (k : Int))) v37 v38 v39 v40 v41 v42 v43 v44 v45 v46)
    (HQ : Hid (∀ arr', Fx arr' v0 v1 v2 v3 v4 v5 v6 v7 v8 v9 v10 v11 v12 v13 v14 v15 v16 v17 v18 v19 v20 v21 v22 v23 v24 v25 v26 v27 v28 v29 v30 v31 v32 v33 v34 v35 (.int .i64 ((n : Int) - 1 - (k : Int))) v37 v38 v39 v40 v41 v42 v43 v44 v45 v46 → k < n → K ⟨arr', []⟩ w))
    (HX : Hid (∀ arr', Fx arr' v0 v1 v2 v3 v4 v5 v6 v7 v8 v9 v10 v11 v12 v13 v14 v15 v16 v17 v18 v19 v20 v21 v22 v23 v24 v25 v26 v27 v28 v29 v30 v31 v32 v33 v34 v35 (.int .i64 ((n : Int) - 1 - (k : Int))) v37 v38 v39 v40 v41 v42 v43 v44 v45 v46 → k = n → Q (.exit 16) ⟨arr', []⟩ w)) :
    Code.wp Yba.prog (nav [1, 1, 1, 1, 1, 1, 1, 1, 1, 1, 1, 1, 1, 1, 1, 1, 1, 1, 1, 1, 1, 1, 1, 1, 1, 0, 1, 2, 2, 1, 0, 2, 1, 0, 1, 2, 2, 1, 0, 2, 1, 2, 2, 0] (Yba.f4.body.getD .skip)) (Exit.then K Q) ⟨arr, []⟩ w := by
  refine hs.open (fun t => ?_)
  clear hs
  conv => arg 2; whnf
  by_cases h : k < n
  · have h' : (0 : Int) ≤ (n : Int) - 1 - (k : Int) := by omega
    go_wp2
    refine HQ.out _ ?_ h
    exact (Fx.mk rfl rfl rfl rfl rfl rfl rfl rfl rfl rfl rfl rfl rfl rfl rfl rfl rfl rfl rfl rfl rfl rfl rfl rfl rfl rfl rfl rfl rfl rfl rfl rfl rfl rfl rfl rfl rfl rfl rfl rfl rfl rfl rfl rfl rfl rfl rfl rfl)
  · have h' : ¬ (0 : Int) ≤ (n : Int) - 1 - (k : Int) := by omega
    go_wp2
    refine HX.out _ ?_ (by omega)
    exact (Fx.mk rfl rfl rfl rfl rfl rfl rfl rfl rfl rfl rfl rfl rfl rfl rfl rfl rfl rfl rfl rfl rfl rfl rfl rfl rfl rfl rfl rfl rfl rfl rfl rfl rfl rfl rfl rfl rfl rfl rfl rfl rfl rfl rfl rfl rfl rfl rfl rfl)

set_option maxRecDepth 100000 in
set_option maxHeartbeats 400000 in
/-- i-- -/
theorem s16p (n k : Nat) (arr : Array Value) (w : World) (K : Act → World → Prop) (Q : Exit → Act → World → Prop) (v0 v1 v2 v3 v4 v5 v6 v7 v8 v9 v10 v11 v12 v13 v14 v15 v16 v17 v18 v19 v20 v21 v22 v23 v24 v25 v26 v27 v28 v29 v30 v31 v32 v33 v34 v35 v37 v38 v39 v40 v41 v42 v43 v44 v45 v46 : Value)
    (hk : k < n) (hn2 : n ≤ 65536)
    (hs : Fx arr v0 v1 v2 v3 v4 v5 v6 v7 v8 v9 v10 v11 v12 v13 v14 v15 v16 v17 v18 v19 v20 v21 v22 v23 v24 v25 v26 v27 v28 v29 v30 v31 v32 v33 v34 v35 (.int .i64 ((n : Int) - 1 - (k : Int))) v37 v38 v39 v40 v41 v42 v43 v44 v45 v46)
    (HQ : Hid (∀ arr', Fx arr' v0 v1 v2 v3 v4 v5 v6 v7 v8 v9 v10 v11 v12 v13 v14 v15 v16 v17 v18 v19 v20 v21 v22 v23 v24 v25 v26 v27 v28 v29 v30 v31 v32 v33 v34 v35 (.int .i64 ((n : Int) - 1 - ((k + 1 : Nat) : Int))) v37 v38 v39 v40 v41 v42 v43 v44 v45 v46 → K ⟨arr', []⟩ w)) :
    Code.wp Yba.prog (nav [1, 1, 1, 1, 1, 1, 1, 1, 1, 1, 1, 1, 1, 1, 1, 1, 1, 1, 1, 1, 1, 1, 1, 1, 1, 0, 1, 2, 2, 1, 0, 2, 1, 0, 1, 2, 2, 1, 0, 2, 1, 2, 2, 1, 1] (Yba.f4.body.getD .skip)) (Exit.then K Q) ⟨arr, []⟩ w := by
  refine hs.open (fun t => ?_)
  clear hs
  conv => arg 2; whnf
  go_wp2
  refine HQ.out _ ?_
  exact (Fx.mk rfl rfl rfl rfl rfl rfl rfl rfl rfl rfl rfl rfl rfl rfl rfl rfl rfl rfl rfl rfl rfl rfl rfl rfl rfl rfl rfl rfl rfl rfl rfl rfl rfl rfl rfl rfl rfl (by go_num) rfl rfl rfl rfl rfl rfl rfl rfl rfl rfl)

set_option maxRecDepth 100000 in
set_option maxHeartbeats 400000 in
/-- not gathered -/
theorem s16n (b0 o0 n c0 g np x p pass i : Nat) (U : Nat → Up) (arr : Array Value) (w : World) (K : Act → World → Prop) (Q : Exit → Act → World → Prop) (v1 v2 v3 v4 v5 v6 v7 v8 v9 v10 v11 v12 v15 v16 v17 v18 v19 v20 v21 v22 v23 v24 v25 v26 v27 v28 v29 v30 v31 v32 v34 v37 v38 v39 v40 v41 v42 v43 v44 v45 v46 : Value)
    (b : Bool) (hb : Hid (((pass : Int) == 0) = b)) (hn : n ≤ 65536) (hp : p ≤ 8) (hi : i < n) (hU : Ups w b0 o0 n U) (ho : RowF w g 21 n (ownF U np)) (hc : cnd U np p x b i = false)
    (hs : Fx arr (.slice (some ⟨b0, o0, none⟩) n c0) v1 v2 v3 v4 v5 v6 v7 v8 v9 v10 v11 v12 (.int .i64 x) (.slice (some ⟨g, 0, none⟩) n n) v15 v16 v17 v18 v19 v20 v21 v22 v23 v24 v25 v26 v27 v28 v29 v30 v31 v32 (.int .i64 p) v34 (.int .i64 pass) (.int .i64 i) v37 v38 v39 v40 v41 v42 v43 v44 v45 v46)
    (HQ : Hid (∀ arr', Fx arr' (.slice (some ⟨b0, o0, none⟩) n c0) v1 v2 v3 v4 v5 v6 v7 v8 v9 v10 v11 v12 (.int .i64 x) (.slice (some ⟨g, 0, none⟩) n n) v15 v16 v17 v18 v19 v20 v21 v22 v23 v24 v25 v26 v27 v28 v29 v30 v31 v32 (.int .i64 p) v34 (.int .i64 pass) (.int .i64 i) v37 v38 v39 v40 v41 v42 v43 v44 v45 v46 → K ⟨arr', []⟩ w)) :
    Code.wp Yba.prog (nav [1, 1, 1, 1, 1, 1, 1, 1, 1, 1, 1, 1, 1, 1, 1, 1, 1, 1, 1, 1, 1, 1, 1, 1, 1, 0, 1, 2, 2, 1, 0, 2, 1, 0, 1, 2, 2, 1, 0, 2, 1, 2, 2, 1, 0, 2] (Yba.f4.body.getD .skip)) (Exit.then K Q) ⟨arr, []⟩ w := by
  refine hs.open (fun t => ?_)
  clear hs
  conv => arg 2; whnf
  have hi' : (i : Int) < (n : Int) := by omega
  have c5 := hU.pend i hi
  have co := ho.cell hi
  simp only [ownF, intF] at co
  have hw32 : wrap32 (p : Int) = (p : Int) := wrap32_of _ (by omega)
  have hb' := hb.out
  obtain ⟨q, hq⟩ : ∃ q, q = own U np i := ⟨_, rfl⟩
  rw [← hq] at co
  obtain ⟨pd, hpd⟩ : ∃ q, q = (U i).pend := ⟨_, rfl⟩
  rw [← hpd] at c5
  have hc' : q = p → pd = b → i = x := by
    intro e1 e2
    rw [hq] at e1; rw [hpd] at e2
    unfold cnd at hc
    simp [e1, e2] at hc
    exact hc
  have HC : Hid (q = p → pd = b → i = x) := hc'
  clear hU ho hc hc' hq hpd hb
  by_cases e1 : q = p
  · by_cases e2 : pd = b
    · have e3 := HC.out e1 e2
      have t1 : ((q : Int) == (p : Int)) = true := beq_iff_eq.2 (by omega)
      have t2 : (pd == b) = true := by simp [e2]
      have t3 : ((i : Int) != (x : Int)) = false := by simp; omega
      clear e1 e2 e3
      go_wp2
      refine HQ.out _ ?_
      exact (Fx.mk rfl rfl rfl rfl rfl rfl rfl rfl rfl rfl rfl rfl rfl rfl rfl rfl rfl rfl rfl rfl rfl rfl rfl rfl rfl rfl rfl rfl rfl rfl rfl rfl rfl rfl rfl rfl rfl rfl rfl rfl rfl rfl rfl rfl rfl rfl rfl rfl)
    · have t1 : ((q : Int) == (p : Int)) = true := beq_iff_eq.2 (by omega)
      have t2 : (pd == b) = false := by simp [e2]
      clear e1 e2
      go_wp2
      refine HQ.out _ ?_
      exact (Fx.mk rfl rfl rfl rfl rfl rfl rfl rfl rfl rfl rfl rfl rfl rfl rfl rfl rfl rfl rfl rfl rfl rfl rfl rfl rfl rfl rfl rfl rfl rfl rfl rfl rfl rfl rfl rfl rfl rfl rfl rfl rfl rfl rfl rfl rfl rfl rfl rfl)
  · have t1 : ((q : Int) == (p : Int)) = false := beq_eq_false_iff_ne.2 (by omega)
    clear e1
    go_wp2
    refine HQ.out _ ?_
    exact (Fx.mk rfl rfl rfl rfl rfl rfl rfl rfl rfl rfl rfl rfl rfl rfl rfl rfl rfl rfl rfl rfl rfl rfl rfl rfl rfl rfl rfl rfl rfl rfl rfl rfl rfl rfl rfl rfl rfl rfl rfl rfl rfl rfl rfl rfl rfl rfl rfl rfl)

set_option maxRecDepth 100000 in
set_option maxHeartbeats 400000 in
/-- gathered -/
theorem s16y (b0 o0 n c0 g np x p pass i : Nat) (U : Nat → Up) (arr : Array Value) (w : World) (K : Act → World → Prop) (Q : Exit → Act → World → Prop) (v1 v2 v3 v4 v5 v6 v7 v8 v9 v10 v11 v12 v15 v16 v17 v18 v19 v20 v21 v22 v23 v24 v25 v26 v27 v28 v29 v30 v31 v32 v37 v38 v39 v40 v41 v42 v43 v44 v45 v46 : Value)
    (b : Bool) (hb : Hid (((pass : Int) == 0) = b)) (hn : n ≤ 65536) (hp : p ≤ 8) (hi : i < n) (hU : Ups w b0 o0 n U) (ho : RowF w g 21 n (ownF U np)) (hc : cnd U np p x b i = true) (v : Value) (l : List Nat) (B : Nat) (hown : w.ownsRow B 21 1 v l.length (vals l)) (hlen : l.length ≤ 140000) (hB : B ≤ w.heap.size)
    (hs : Fx arr (.slice (some ⟨b0, o0, none⟩) n c0) v1 v2 v3 v4 v5 v6 v7 v8 v9 v10 v11 v12 (.int .i64 x) (.slice (some ⟨g, 0, none⟩) n n) v15 v16 v17 v18 v19 v20 v21 v22 v23 v24 v25 v26 v27 v28 v29 v30 v31 v32 (.int .i64 p) (v) (.int .i64 pass) (.int .i64 i) v37 v38 v39 v40 v41 v42 v43 v44 v45 v46)
    (HQ : Hid (∀ arr' w' v', Fx arr' (.slice (some ⟨b0, o0, none⟩) n c0) v1 v2 v3 v4 v5 v6 v7 v8 v9 v10 v11 v12 (.int .i64 x) (.slice (some ⟨g, 0, none⟩) n n) v15 v16 v17 v18 v19 v20 v21 v22 v23 v24 v25 v26 v27 v28 v29 v30 v31 v32 (.int .i64 p) (v') (.int .i64 pass) (.int .i64 i) v37 v38 v39 v40 v41 v42 v43 v44 v45 v46 → w'.ownsRow B 21 1 v' (l ++ [i]).length (vals (l ++ [i])) → Chg w w' (fun j => B ≤ j) → K ⟨arr', []⟩ w')) :
    Code.wp Yba.prog (nav [1, 1, 1, 1, 1, 1, 1, 1, 1, 1, 1, 1, 1, 1, 1, 1, 1, 1, 1, 1, 1, 1, 1, 1, 1, 0, 1, 2, 2, 1, 0, 2, 1, 0, 1, 2, 2, 1, 0, 2, 1, 2, 2, 1, 0, 2] (Yba.f4.body.getD .skip)) (Exit.then K Q) ⟨arr, []⟩ w := by
  refine hs.open (fun t => ?_)
  clear hs
  conv => arg 2; whnf
  have hi' : (i : Int) < (n : Int) := by omega
  have c5 := hU.pend i hi
  have co := ho.cell hi
  simp only [ownF, intF] at co
  have hw32 : wrap32 (p : Int) = (p : Int) := wrap32_of _ (by omega)
  have hb' := hb.out
  obtain ⟨q, hq⟩ : ∃ q, q = own U np i := ⟨_, rfl⟩
  rw [← hq] at co
  obtain ⟨pd, hpd⟩ : ∃ q, q = (U i).pend := ⟨_, rfl⟩
  rw [← hpd] at c5
  have t1 : ((q : Int) == (p : Int)) = true := by
    unfold cnd at hc; simp at hc; rw [hq]; exact beq_iff_eq.2 (by rw [hc.1.1])
  have t2 : (pd == b) = true := by
    unfold cnd at hc; simp at hc; rw [hpd]; simp [hc.1.2]
  have t3 : ((i : Int) != (x : Int)) = true := by
    unfold cnd at hc; simp at hc; simp; omega
  have hwi : wrap32 (i : Int) = (i : Int) := wrap32_of _ (by omega)
  have HO : Hid (w.ownsRow B 21 1 v l.length (vals l)) := hown
  clear hU ho hc hq hpd hb hown
  go_wp2_with (at_builtin; go_must (refine wl_app rfl (.tmp 287) (.tmp 290) rfl B v l i w.heap.size rfl ?o1 rfl ?o2 ?o3 ?o4 ?_))
  case o1 => exact ownsRow_chg HO.out ((Chg.refl w (fun _ => False)).alloc _) (fun j hj e => e)
  case o2 => go_simp
  case o3 => exact hlen
  case o4 => simp; omega
  · intro v' w2 hown2 hchg2
    have G3 : Hid (w2.ownsRow B 21 1 v' (l ++ [i]).length (vals (l ++ [i]))) := by rw [List.length_append]; exact hown2
    have G4 : Hid (Chg w w2 (fun j => B ≤ j)) := ((Chg.refl w (fun j => B ≤ j)).alloc _).trans hchg2
    clear hown2 hchg2
    go_wp2
    refine HQ.out _ _ _ ?_ G3.out G4.out
    exact (Fx.mk rfl rfl rfl rfl rfl rfl rfl rfl rfl rfl rfl rfl rfl rfl rfl rfl rfl rfl rfl rfl rfl rfl rfl rfl rfl rfl rfl rfl rfl rfl rfl rfl rfl rfl rfl rfl rfl rfl rfl rfl rfl rfl rfl rfl rfl rfl rfl rfl)

set_option maxRecDepth 100000 in
set_option maxHeartbeats 400000 in
/-- expLatest[p] = -1 -/
theorem s25c (np p gel : Nat) (arr : Array Value) (w : World) (K : Act → World → Prop) (Q : Exit → Act → World → Prop) (v0 v1 v2 v3 v4 v5 v6 v7 v8 v9 v10 v11 v12 v13 v14 v15 v16 v17 v18 v19 v20 v21 v22 v23 v24 v25 v26 v27 v28 v29 v30 v31 v34 v35 v36 v37 v38 v39 v40 v41 v42 v43 v44 v45 v46 : Value)
    (el : Nat → Int) (hp : p < np) (hr : RowF w gel 21 np (intF el))
    (hs : Fx arr v0 v1 v2 v3 v4 v5 v6 v7 v8 v9 v10 v11 v12 v13 v14 v15 v16 v17 v18 v19 v20 v21 v22 v23 v24 v25 v26 v27 v28 v29 v30 v31 (.slice (some ⟨gel, 0, none⟩) np np) (.int .i64 p) v34 v35 v36 v37 v38 v39 v40 v41 v42 v43 v44 v45 v46)
    (HQ : Hid (∀ arr' w', Fx arr' v0 v1 v2 v3 v4 v5 v6 v7 v8 v9 v10 v11 v12 v13 v14 v15 v16 v17 v18 v19 v20 v21 v22 v23 v24 v25 v26 v27 v28 v29 v30 v31 (.slice (some ⟨gel, 0, none⟩) np np) (.int .i64 p) v34 v35 v36 v37 v38 v39 v40 v41 v42 v43 v44 v45 v46 → RowF w' gel 21 np (intF (updI el p (-1))) → Chg w w' (fun k => k = gel) → K ⟨arr', []⟩ w')) :
    Code.wp Yba.prog (nav [1, 1, 1, 1, 1, 1, 1, 1, 1, 1, 1, 1, 1, 1, 1, 1, 1, 1, 1, 1, 1, 1, 1, 1, 1, 0, 1, 2, 2, 1, 0, 2, 1, 1, 0] (Yba.f4.body.getD .skip)) (Exit.then K Q) ⟨arr, []⟩ w := by
  refine hs.open (fun t => ?_)
  clear hs
  conv => arg 2; whnf
  have hp' : (p : Int) < (np : Int) := by omega
  have cc := hr.cell hp
  have fc := hr.free p
  have HR := hr.set p (.int .i32 (-1))
  rw [upd_intF] at HR
  have HR' : Hid (RowF (w.setCell ⟨gel, p, none⟩ (.int .i32 (-1))) gel 21 np (intF (updI el p (-1)))) := HR
  clear hr HR
  obtain ⟨y, hy⟩ : ∃ y, y = intF el p := ⟨_, rfl⟩
  rw [← hy] at cc
  clear hy
  go_wp2
  refine HQ.out _ _ ?_ HR'.out ((Chg.refl w (fun k => k = gel)).setCell (.inl rfl) _)
  exact (Fx.mk rfl rfl rfl rfl rfl rfl rfl rfl rfl rfl rfl rfl rfl rfl rfl rfl rfl rfl rfl rfl rfl rfl rfl rfl rfl rfl rfl rfl rfl rfl rfl rfl rfl rfl rfl rfl rfl rfl rfl rfl rfl rfl rfl rfl rfl rfl rfl rfl)

set_option maxRecDepth 100000 in
set_option maxHeartbeats 400000 in
/-- seq is empty -/
theorem s25d0 (ao : Option Addr) (cp : Nat) (arr : Array Value) (w : World) (K : Act → World → Prop) (Q : Exit → Act → World → Prop) (v0 v1 v2 v3 v4 v5 v6 v7 v8 v9 v10 v11 v12 v13 v14 v15 v16 v17 v18 v19 v20 v21 v22 v23 v24 v25 v26 v27 v28 v29 v30 v31 v32 v33 v35 v36 v37 v38 v39 v40 v41 v42 v43 v44 v45 v46 : Value)
    
    (hs : Fx arr v0 v1 v2 v3 v4 v5 v6 v7 v8 v9 v10 v11 v12 v13 v14 v15 v16 v17 v18 v19 v20 v21 v22 v23 v24 v25 v26 v27 v28 v29 v30 v31 v32 v33 (.slice ao 0 cp) v35 v36 v37 v38 v39 v40 v41 v42 v43 v44 v45 v46)
    (HQ : Hid (∀ arr', Fx arr' v0 v1 v2 v3 v4 v5 v6 v7 v8 v9 v10 v11 v12 v13 v14 v15 v16 v17 v18 v19 v20 v21 v22 v23 v24 v25 v26 v27 v28 v29 v30 v31 v32 v33 (.slice ao 0 cp) v35 v36 v37 v38 v39 v40 v41 v42 v43 v44 v45 v46 → K ⟨arr', []⟩ w)) :
    Code.wp Yba.prog (nav [1, 1, 1, 1, 1, 1, 1, 1, 1, 1, 1, 1, 1, 1, 1, 1, 1, 1, 1, 1, 1, 1, 1, 1, 1, 0, 1, 2, 2, 1, 0, 2, 1, 1, 1, 0] (Yba.f4.body.getD .skip)) (Exit.then K Q) ⟨arr, []⟩ w := by
  refine hs.open (fun t => ?_)
  clear hs
  conv => arg 2; whnf
  go_wp2
  refine HQ.out _ ?_
  exact (Fx.mk rfl rfl rfl rfl rfl rfl rfl rfl rfl rfl rfl rfl rfl rfl rfl rfl rfl rfl rfl rfl rfl rfl rfl rfl rfl rfl rfl rfl rfl rfl rfl rfl rfl rfl rfl rfl rfl rfl rfl rfl rfl rfl rfl rfl rfl rfl rfl rfl)

set_option maxRecDepth 100000 in
set_option maxHeartbeats 400000 in
/-- expLatest[p] = seq[0] -/
theorem s25d1 (np p gel gs m cp : Nat) (y : Int) (arr : Array Value) (w : World) (K : Act → World → Prop) (Q : Exit → Act → World → Prop) (v0 v1 v2 v3 v4 v5 v6 v7 v8 v9 v10 v11 v12 v13 v14 v15 v16 v17 v18 v19 v20 v21 v22 v23 v24 v25 v26 v27 v28 v29 v30 v31 v35 v36 v37 v38 v39 v40 v41 v42 v43 v44 v45 v46 : Value)
    (el : Nat → Int) (hm : 0 < m) (hp : p < np) (hr : RowF w gel 21 np (intF el)) (hc : w.cell? ⟨gs, 0, none⟩ = some (.int .i32 y))
    (hs : Fx arr v0 v1 v2 v3 v4 v5 v6 v7 v8 v9 v10 v11 v12 v13 v14 v15 v16 v17 v18 v19 v20 v21 v22 v23 v24 v25 v26 v27 v28 v29 v30 v31 (.slice (some ⟨gel, 0, none⟩) np np) (.int .i64 p) (.slice (some ⟨gs, 0, none⟩) m cp) v35 v36 v37 v38 v39 v40 v41 v42 v43 v44 v45 v46)
    (HQ : Hid (∀ arr' w', Fx arr' v0 v1 v2 v3 v4 v5 v6 v7 v8 v9 v10 v11 v12 v13 v14 v15 v16 v17 v18 v19 v20 v21 v22 v23 v24 v25 v26 v27 v28 v29 v30 v31 (.slice (some ⟨gel, 0, none⟩) np np) (.int .i64 p) (.slice (some ⟨gs, 0, none⟩) m cp) v35 v36 v37 v38 v39 v40 v41 v42 v43 v44 v45 v46 → RowF w' gel 21 np (intF (updI el p y)) → Chg w w' (fun k => k = gel) → K ⟨arr', []⟩ w')) :
    Code.wp Yba.prog (nav [1, 1, 1, 1, 1, 1, 1, 1, 1, 1, 1, 1, 1, 1, 1, 1, 1, 1, 1, 1, 1, 1, 1, 1, 1, 0, 1, 2, 2, 1, 0, 2, 1, 1, 1, 0] (Yba.f4.body.getD .skip)) (Exit.then K Q) ⟨arr, []⟩ w := by
  refine hs.open (fun t => ?_)
  clear hs
  conv => arg 2; whnf
  have hp' : (p : Int) < (np : Int) := by omega
  have hm' : (0 : Int) < (m : Int) := by omega
  have cc := hr.cell hp
  have fc := hr.free p
  have HR := hr.set p (.int .i32 y)
  rw [upd_intF] at HR
  have HR' : Hid (RowF (w.setCell ⟨gel, p, none⟩ (.int .i32 y)) gel 21 np (intF (updI el p y))) := HR
  clear hr HR
  obtain ⟨z, hz⟩ : ∃ y, y = intF el p := ⟨_, rfl⟩
  rw [← hz] at cc
  clear hz
  go_wp2
  refine HQ.out _ _ ?_ HR'.out ((Chg.refl w (fun k => k = gel)).setCell (.inl rfl) _)
  exact (Fx.mk rfl rfl rfl rfl rfl rfl rfl rfl rfl rfl rfl rfl rfl rfl rfl rfl rfl rfl rfl rfl rfl rfl rfl rfl rfl rfl rfl rfl rfl rfl rfl rfl rfl rfl rfl rfl rfl rfl rfl rfl rfl rfl rfl rfl rfl rfl rfl rfl)

set_option maxRecDepth 100000 in
set_option maxHeartbeats 400000 in
/-- k := 0 -/
theorem s25e  (arr : Array Value) (w : World) (K : Act → World → Prop) (Q : Exit → Act → World → Prop) (v0 v1 v2 v3 v4 v5 v6 v7 v8 v9 v10 v11 v12 v13 v14 v15 v16 v17 v18 v19 v20 v21 v22 v23 v24 v25 v26 v27 v28 v29 v30 v31 v32 v33 v34 v35 v36 v37 v38 v39 v40 v41 v42 v43 v44 v45 v46 : Value)
    
    (hs : Fx arr v0 v1 v2 v3 v4 v5 v6 v7 v8 v9 v10 v11 v12 v13 v14 v15 v16 v17 v18 v19 v20 v21 v22 v23 v24 v25 v26 v27 v28 v29 v30 v31 v32 v33 v34 v35 v36 v37 v38 v39 v40 v41 v42 v43 v44 v45 v46)
    (HQ : Hid (∀ arr', Fx arr' v0 v1 v2 v3 v4 v5 v6 v7 v8 v9 v10 v11 v12 v13 v14 v15 v16 v17 v18 v19 v20 v21 v22 v23 v24 v25 v26 v27 v28 v29 v30 v31 v32 v33 v34 v35 v36 (.int .i64 ((0 : Nat) : Int)) v38 v39 v40 v41 v42 v43 v44 v45 v46 → K ⟨arr', []⟩ w)) :
    Code.wp Yba.prog (nav [1, 1, 1, 1, 1, 1, 1, 1, 1, 1, 1, 1, 1, 1, 1, 1, 1, 1, 1, 1, 1, 1, 1, 1, 1, 0, 1, 2, 2, 1, 0, 2, 1, 1, 1, 1, 0] (Yba.f4.body.getD .skip)) (Exit.then K Q) ⟨arr, []⟩ w := by
  refine hs.open (fun t => ?_)
  clear hs
  conv => arg 2; whnf
  go_wp2
  refine HQ.out _ ?_
  exact (Fx.mk rfl rfl rfl rfl rfl rfl rfl rfl rfl rfl rfl rfl rfl rfl rfl rfl rfl rfl rfl rfl rfl rfl rfl rfl rfl rfl rfl rfl rfl rfl rfl rfl rfl rfl rfl rfl rfl rfl rfl rfl rfl rfl rfl rfl rfl rfl rfl rfl)

set_option maxRecDepth 100000 in
set_option maxHeartbeats 400000 in
/-- k < len(seq) -/
theorem s18t (ao : Option Addr) (m cp k : Nat) (arr : Array Value) (w : World) (K : Act → World → Prop) (Q : Exit → Act → World → Prop) (v0 v1 v2 v3 v4 v5 v6 v7 v8 v9 v10 v11 v12 v13 v14 v15 v16 v17 v18 v19 v20 v21 v22 v23 v24 v25 v26 v27 v28 v29 v30 v31 v32 v33 v35 v36 v38 v39 v40 v41 v42 v43 v44 v45 v46 : Value)
    (hlt : k ≤ m)
    (hs : Fx arr v0 v1 v2 v3 v4 v5 v6 v7 v8 v9 v10 v11 v12 v13 v14 v15 v16 v17 v18 v19 v20 v21 v22 v23 v24 v25 v26 v27 v28 v29 v30 v31 v32 v33 (.slice ao m cp) v35 v36 (.int .i64 k) v38 v39 v40 v41 v42 v43 v44 v45 v46)
    (HQ : Hid (∀ arr', Fx arr' v0 v1 v2 v3 v4 v5 v6 v7 v8 v9 v10 v11 v12 v13 v14 v15 v16 v17 v18 v19 v20 v21 v22 v23 v24 v25 v26 v27 v28 v29 v30 v31 v32 v33 (.slice ao m cp) v35 v36 (.int .i64 k) v38 v39 v40 v41 v42 v43 v44 v45 v46 → k < m → K ⟨arr', []⟩ w))
    (HX : Hid (∀ arr', Fx arr' v0 v1 v2 v3 v4 v5 v6 v7 v8 v9 v10 v11 v12 v13 v14 v15 v16 v17 v18 v19 v20 v21 v22 v23 v24 v25 v26 v27 v28 v29 v30 v31 v32 v33 (.slice ao m cp) v35 v36 (.int .i64 k) v38 v39 v40 v41 v42 v43 v44 v45 v46 → k = m → Q (.exit 18) ⟨arr', []⟩ w)) :
    Code.wp Yba.prog (nav [1, 1, 1, 1, 1, 1, 1, 1, 1, 1, 1, 1, 1, 1, 1, 1, 1, 1, 1, 1, 1, 1, 1, 1, 1, 0, 1, 2, 2, 1, 0, 2, 1, 1, 1, 1, 1, 2, 2, 0] (Yba.f4.body.getD .skip)) (Exit.then K Q) ⟨arr, []⟩ w := by
  refine hs.open (fun t => ?_)
  clear hs
  conv => arg 2; whnf
  by_cases h : k < m
  · have h' : (k : Int) < (m : Int) := by omega
    go_wp2
    refine HQ.out _ ?_ h
    exact (Fx.mk rfl rfl rfl rfl rfl rfl rfl rfl rfl rfl rfl rfl rfl rfl rfl rfl rfl rfl rfl rfl rfl rfl rfl rfl rfl rfl rfl rfl rfl rfl rfl rfl rfl rfl rfl rfl rfl rfl rfl rfl rfl rfl rfl rfl rfl rfl rfl rfl)
  · have h' : ¬ (k : Int) < (m : Int) := by omega
    go_wp2
    refine HX.out _ ?_ (by omega)
    exact (Fx.mk rfl rfl rfl rfl rfl rfl rfl rfl rfl rfl rfl rfl rfl rfl rfl rfl rfl rfl rfl rfl rfl rfl rfl rfl rfl rfl rfl rfl rfl rfl rfl rfl rfl rfl rfl rfl rfl rfl rfl rfl rfl rfl rfl rfl rfl rfl rfl rfl)

set_option maxRecDepth 100000 in
set_option maxHeartbeats 400000 in
/-- k++ -/
theorem s18p (k : Nat) (arr : Array Value) (w : World) (K : Act → World → Prop) (Q : Exit → Act → World → Prop) (v0 v1 v2 v3 v4 v5 v6 v7 v8 v9 v10 v11 v12 v13 v14 v15 v16 v17 v18 v19 v20 v21 v22 v23 v24 v25 v26 v27 v28 v29 v30 v31 v32 v33 v34 v35 v36 v38 v39 v40 v41 v42 v43 v44 v45 v46 : Value)
    (hk : k ≤ 2000000)
    (hs : Fx arr v0 v1 v2 v3 v4 v5 v6 v7 v8 v9 v10 v11 v12 v13 v14 v15 v16 v17 v18 v19 v20 v21 v22 v23 v24 v25 v26 v27 v28 v29 v30 v31 v32 v33 v34 v35 v36 (.int .i64 k) v38 v39 v40 v41 v42 v43 v44 v45 v46)
    (HQ : Hid (∀ arr', Fx arr' v0 v1 v2 v3 v4 v5 v6 v7 v8 v9 v10 v11 v12 v13 v14 v15 v16 v17 v18 v19 v20 v21 v22 v23 v24 v25 v26 v27 v28 v29 v30 v31 v32 v33 v34 v35 v36 (.int .i64 ((k + 1 : Nat) : Int)) v38 v39 v40 v41 v42 v43 v44 v45 v46 → K ⟨arr', []⟩ w)) :
    Code.wp Yba.prog (nav [1, 1, 1, 1, 1, 1, 1, 1, 1, 1, 1, 1, 1, 1, 1, 1, 1, 1, 1, 1, 1, 1, 1, 1, 1, 0, 1, 2, 2, 1, 0, 2, 1, 1, 1, 1, 1, 2, 2, 1, 1] (Yba.f4.body.getD .skip)) (Exit.then K Q) ⟨arr, []⟩ w := by
  refine hs.open (fun t => ?_)
  clear hs
  conv => arg 2; whnf
  go_wp2
  refine HQ.out _ ?_
  exact (Fx.mk rfl rfl rfl rfl rfl rfl rfl rfl rfl rfl rfl rfl rfl rfl rfl rfl rfl rfl rfl rfl rfl rfl rfl rfl rfl rfl rfl rfl rfl rfl rfl rfl rfl rfl rfl rfl rfl rfl (by go_num) rfl rfl rfl rfl rfl rfl rfl rfl rfl)

set_option maxRecDepth 100000 in
set_option maxHeartbeats 400000 in
/-- nx := -1; if k+1 < len(seq) { nx = seq[k+1] }; expNext[seq[k]] = nx -/
theorem s18b (n ge gs m cp k i : Nat) (nx : Int) (arr : Array Value) (w : World) (K : Act → World → Prop) (Q : Exit → Act → World → Prop) (v0 v1 v2 v3 v4 v5 v6 v7 v8 v9 v10 v11 v12 v13 v14 v15 v16 v17 v18 v19 v20 v21 v22 v23 v24 v25 v26 v27 v28 v29 v30 v32 v33 v35 v36 v38 v39 v40 v41 v42 v43 v44 v45 v46 : Value)
    (e : Nat → Int) (hn : n ≤ 65536) (hm : m ≤ 140000) (hk : k < m) (hi : i < n) (hr : RowF w ge 21 n (intF e)) (hc : w.cell? ⟨gs, k, none⟩ = some (.int .i32 (i : Int))) (hx : (k + 1 < m → w.cell? ⟨gs, k + 1, none⟩ = some (.int .i32 nx)) ∧ (¬ k + 1 < m → nx = -1))
    (hs : Fx arr v0 v1 v2 v3 v4 v5 v6 v7 v8 v9 v10 v11 v12 v13 v14 v15 v16 v17 v18 v19 v20 v21 v22 v23 v24 v25 v26 v27 v28 v29 v30 (.slice (some ⟨ge, 0, none⟩) n n) v32 v33 (.slice (some ⟨gs, 0, none⟩) m cp) v35 v36 (.int .i64 k) v38 v39 v40 v41 v42 v43 v44 v45 v46)
    (HQ : Hid (∀ arr' w' u38, Fx arr' v0 v1 v2 v3 v4 v5 v6 v7 v8 v9 v10 v11 v12 v13 v14 v15 v16 v17 v18 v19 v20 v21 v22 v23 v24 v25 v26 v27 v28 v29 v30 (.slice (some ⟨ge, 0, none⟩) n n) v32 v33 (.slice (some ⟨gs, 0, none⟩) m cp) v35 v36 (.int .i64 k) (u38) v39 v40 v41 v42 v43 v44 v45 v46 → RowF w' ge 21 n (intF (updI e i nx)) → Chg w w' (fun k => k = ge) → K ⟨arr', []⟩ w')) :
    Code.wp Yba.prog (nav [1, 1, 1, 1, 1, 1, 1, 1, 1, 1, 1, 1, 1, 1, 1, 1, 1, 1, 1, 1, 1, 1, 1, 1, 1, 0, 1, 2, 2, 1, 0, 2, 1, 1, 1, 1, 1, 2, 2, 1, 0, 2] (Yba.f4.body.getD .skip)) (Exit.then K Q) ⟨arr, []⟩ w := by
  refine hs.open (fun t => ?_)
  clear hs
  conv => arg 2; whnf
  have hi' : (i : Int) < (n : Int) := by omega
  have hk' : (k : Int) < (m : Int) := by omega
  have cc := hr.cell hi
  have fc := hr.free i
  have HR := hr.set i (.int .i32 nx)
  rw [upd_intF] at HR
  have HR' : Hid (RowF (w.setCell ⟨ge, i, none⟩ (.int .i32 nx)) ge 21 n (intF (updI e i nx))) := HR
  clear hr HR
  obtain ⟨z, hz⟩ : ∃ y, y = intF e i := ⟨_, rfl⟩
  rw [← hz] at cc
  clear hz
  obtain ⟨hx1, hx2⟩ := hx
  by_cases hl : k + 1 < m
  · have h1 := hx1 hl
    have hl' : (k : Int) + 1 < (m : Int) := by omega
    clear hx1 hx2
    go_wp2
    refine HQ.out _ _ (.int .i32 nx) ?_ HR'.out ((Chg.refl w (fun k => k = ge)).setCell (.inl rfl) _)
    exact (Fx.mk rfl rfl rfl rfl rfl rfl rfl rfl rfl rfl rfl rfl rfl rfl rfl rfl rfl rfl rfl rfl rfl rfl rfl rfl rfl rfl rfl rfl rfl rfl rfl rfl rfl rfl rfl rfl rfl rfl rfl rfl rfl rfl rfl rfl rfl rfl rfl rfl)
  · obtain rfl := hx2 hl
    have hl' : ¬ (k : Int) + 1 < (m : Int) := by omega
    clear hx1 hx2
    go_wp2
    refine HQ.out _ _ (.int .i32 (-1)) ?_ HR'.out ((Chg.refl w (fun k => k = ge)).setCell (.inl rfl) _)
    exact (Fx.mk rfl rfl rfl rfl rfl rfl rfl rfl rfl rfl rfl rfl rfl rfl rfl rfl rfl rfl rfl rfl rfl rfl rfl rfl rfl rfl rfl rfl rfl rfl rfl rfl rfl rfl rfl rfl rfl rfl rfl rfl rfl rfl rfl rfl rfl rfl rfl rfl)

set_option maxRecDepth 100000 in
set_option maxHeartbeats 400000 in
/-- expNext[x] = takenBack -/
theorem s26 (n ge x : Nat) (arr : Array Value) (w : World) (K : Act → World → Prop) (Q : Exit → Act → World → Prop) (v0 v1 v2 v3 v4 v5 v6 v7 v8 v9 v10 v11 v12 v14 v15 v16 v17 v18 v19 v20 v21 v22 v23 v24 v25 v26 v27 v28 v29 v30 v32 v33 v34 v35 v36 v37 v38 v39 v40 v41 v42 v43 v44 v45 v46 : Value)
    (e : Nat → Int) (hx : x < n) (hr : RowF w ge 21 n (intF e))
    (hs : Fx arr v0 v1 v2 v3 v4 v5 v6 v7 v8 v9 v10 v11 v12 (.int .i64 x) v14 v15 v16 v17 v18 v19 v20 v21 v22 v23 v24 v25 v26 v27 v28 v29 v30 (.slice (some ⟨ge, 0, none⟩) n n) v32 v33 v34 v35 v36 v37 v38 v39 v40 v41 v42 v43 v44 v45 v46)
    (HQ : Hid (∀ arr' w', Fx arr' v0 v1 v2 v3 v4 v5 v6 v7 v8 v9 v10 v11 v12 (.int .i64 x) v14 v15 v16 v17 v18 v19 v20 v21 v22 v23 v24 v25 v26 v27 v28 v29 v30 (.slice (some ⟨ge, 0, none⟩) n n) v32 v33 v34 v35 v36 v37 v38 v39 v40 v41 v42 v43 v44 v45 v46 → RowF w' ge 21 n (intF (updI e x (-2))) → Chg w w' (fun k => k = ge) → K ⟨arr', []⟩ w')) :
    Code.wp Yba.prog (nav [1, 1, 1, 1, 1, 1, 1, 1, 1, 1, 1, 1, 1, 1, 1, 1, 1, 1, 1, 1, 1, 1, 1, 1, 1, 1, 0] (Yba.f4.body.getD .skip)) (Exit.then K Q) ⟨arr, []⟩ w := by
  refine hs.open (fun t => ?_)
  clear hs
  conv => arg 2; whnf
  have hp' : (x : Int) < (n : Int) := by omega
  have cc := hr.cell hx
  have fc := hr.free x
  have HR := hr.set x (.int .i32 (-2))
  rw [upd_intF] at HR
  have HR' : Hid (RowF (w.setCell ⟨ge, x, none⟩ (.int .i32 (-2))) ge 21 n (intF (updI e x (-2)))) := HR
  clear hr HR
  obtain ⟨y, hy⟩ : ∃ y, y = intF e x := ⟨_, rfl⟩
  rw [← hy] at cc
  clear hy
  go_wp2
  refine HQ.out _ _ ?_ HR'.out ((Chg.refl w (fun k => k = ge)).setCell (.inl rfl) _)
  exact (Fx.mk rfl rfl rfl rfl rfl rfl rfl rfl rfl rfl rfl rfl rfl rfl rfl rfl rfl rfl rfl rfl rfl rfl rfl rfl rfl rfl rfl rfl rfl rfl rfl rfl rfl rfl rfl rfl rfl rfl rfl rfl rfl rfl rfl rfl rfl rfl rfl rfl)
end Go.Proofs.Ybulkdgxk
