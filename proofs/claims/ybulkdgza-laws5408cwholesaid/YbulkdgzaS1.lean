/-
  LawS5408CWhole, its statements 0 to 8.
-/
import Derived.Test.YbulkdgzaFr
namespace Go.Proofs.Ybulkdgza
open Go.RowKit B
set_option linter.unusedVariables false
set_option linter.unusedSimpArgs false

/-- The tick. -/
def tkV (a : Int) : Int := if a ≤ 0 then a % 65536 + 1 else a
theorem tk_eq (a : Int) (h1 : -9223372036854775808 ≤ a) (h : a ≤ 0) : wrap64 (wrap64 (bits .and .u64 (IntKind.u64.wrap a) 65535) + 1) = a % 65536 + 1 := by
  obtain ⟨n, hn, hl⟩ : ∃ n : Nat, IntKind.u64.wrap a = (n : Int) ∧ n < 18446744073709551616 := ⟨(IntKind.u64.wrap a).toNat, by rw [IntKind.wrap_u64]; omega, by rw [IntKind.wrap_u64]; omega⟩
  have e := u64_and_nat n 65535 hl (by omega)
  have e2 : n &&& 65535 = n % 2 ^ 16 := Nat.and_two_pow_sub_one_eq_mod n 16
  rw [show ((65535 : Nat) : Int) = (65535 : Int) from rfl] at e
  rw [hn, e, e2]
  have h3 : (n : Int) % 65536 = a % 65536 := by rw [← hn, IntKind.wrap_u64]; omega
  have h4 : ((n % 2 ^ 16 : Nat) : Int) = (n : Int) % 65536 := by simp
  rw [h4, h3]
  unfold wrap64; omega

set_option maxRecDepth 100000 in
set_option maxHeartbeats 400000 in
/-- the result -/
theorem st0  (arr : Array Value) (w : World) (K : Act → World → Prop) (Q : Exit → Act → World → Prop) (R : Ending → World → Prop) (v0 v1 v2 v3 v4 v5 v6 v7 v8 v9 v10 v11 v12 v13 v14 v15 v16 v17 v18 v19 v20 v21 v22 v23 v24 v25 v26 v27 v28 v29 v30 v31 v32 v33 v34 v35 v36 v37 v38 v39 v40 v41 v42 v43 v44 v45 v46 v47 v48 v49 v50 v51 : Value)
    
    (hs : Fx arr v0 v1 v2 v3 v4 v5 v6 v7 v8 v9 v10 v11 v12 v13 v14 v15 v16 v17 v18 v19 v20 v21 v22 v23 v24 v25 v26 v27 v28 v29 v30 v31 v32 v33 v34 v35 v36 v37 v38 v39 v40 v41 v42 v43 v44 v45 v46 v47 v48 v49 v50 v51)
    (HQ : Hid (∀ arr', Fx arr' v0 v1 v2 v3 v4 v5 v6 v7 v8 v9 v10 v11 v12 v13 v14 v15 v16 v17 v18 v19 (.bool false) v21 v22 v23 v24 v25 v26 v27 v28 v29 v30 v31 v32 v33 v34 v35 v36 v37 v38 v39 v40 v41 v42 v43 v44 v45 v46 v47 v48 v49 v50 v51 → K ⟨arr', []⟩ w)) :
    Code.wp Yba.prog (nav [0] (Yba.f3.body.getD .skip)) (Exit.then K (Qp Q R)) ⟨arr, []⟩ w := by
  refine hs.open (fun t => ?_)
  clear hs
  conv => arg 2; whnf
  go_wp2
  refine HQ.out _ ?_
  exact (Fx.mk rfl rfl rfl rfl rfl rfl rfl rfl rfl rfl rfl rfl rfl rfl rfl rfl rfl rfl rfl rfl rfl rfl rfl rfl rfl rfl rfl rfl rfl rfl rfl rfl rfl rfl rfl rfl rfl rfl rfl rfl rfl rfl rfl rfl rfl rfl rfl rfl rfl rfl rfl rfl rfl)

set_option maxRecDepth 100000 in
set_option maxHeartbeats 400000 in
/-- tickNs <= 0 -/
theorem st1y (a tk : Int) (arr : Array Value) (w : World) (K : Act → World → Prop) (Q : Exit → Act → World → Prop) (R : Ending → World → Prop) (v1 v2 v3 v4 v5 v6 v7 v8 v9 v10 v11 v12 v13 v14 v15 v16 v17 v18 v19 v20 v21 v22 v23 v24 v25 v26 v27 v28 v29 v30 v31 v32 v33 v34 v35 v36 v37 v38 v39 v40 v41 v42 v43 v44 v45 v46 v47 v48 v49 v50 v51 : Value)
    (h : a ≤ 0) (e : wrap64 (wrap64 (bits .and .u64 (IntKind.u64.wrap a) 65535) + 1) = tk)
    (hs : Fx arr (.int .i64 a) v1 v2 v3 v4 v5 v6 v7 v8 v9 v10 v11 v12 v13 v14 v15 v16 v17 v18 v19 v20 v21 v22 v23 v24 v25 v26 v27 v28 v29 v30 v31 v32 v33 v34 v35 v36 v37 v38 v39 v40 v41 v42 v43 v44 v45 v46 v47 v48 v49 v50 v51)
    (HQ : Hid (∀ arr', Fx arr' (.int .i64 tk) v1 v2 v3 v4 v5 v6 v7 v8 v9 v10 v11 v12 v13 v14 v15 v16 v17 v18 v19 v20 v21 v22 v23 v24 v25 v26 v27 v28 v29 v30 v31 v32 v33 v34 v35 v36 v37 v38 v39 v40 v41 v42 v43 v44 v45 v46 v47 v48 v49 v50 v51 → K ⟨arr', []⟩ w)) :
    Code.wp Yba.prog (nav [1, 0] (Yba.f3.body.getD .skip)) (Exit.then K (Qp Q R)) ⟨arr, []⟩ w := by
  refine hs.open (fun t => ?_)
  clear hs
  conv => arg 2; whnf
  go_wp2
  refine HQ.out _ ?_
  exact (Fx.mk rfl (congrArg (Value.int .i64) e) rfl rfl rfl rfl rfl rfl rfl rfl rfl rfl rfl rfl rfl rfl rfl rfl rfl rfl rfl rfl rfl rfl rfl rfl rfl rfl rfl rfl rfl rfl rfl rfl rfl rfl rfl rfl rfl rfl rfl rfl rfl rfl rfl rfl rfl rfl rfl rfl rfl rfl rfl)

set_option maxRecDepth 100000 in
set_option maxHeartbeats 400000 in
/-- tickNs <= 0: no -/
theorem st1n (a : Int) (arr : Array Value) (w : World) (K : Act → World → Prop) (Q : Exit → Act → World → Prop) (R : Ending → World → Prop) (v1 v2 v3 v4 v5 v6 v7 v8 v9 v10 v11 v12 v13 v14 v15 v16 v17 v18 v19 v20 v21 v22 v23 v24 v25 v26 v27 v28 v29 v30 v31 v32 v33 v34 v35 v36 v37 v38 v39 v40 v41 v42 v43 v44 v45 v46 v47 v48 v49 v50 v51 : Value)
    (h : ¬ a ≤ 0)
    (hs : Fx arr (.int .i64 a) v1 v2 v3 v4 v5 v6 v7 v8 v9 v10 v11 v12 v13 v14 v15 v16 v17 v18 v19 v20 v21 v22 v23 v24 v25 v26 v27 v28 v29 v30 v31 v32 v33 v34 v35 v36 v37 v38 v39 v40 v41 v42 v43 v44 v45 v46 v47 v48 v49 v50 v51)
    (HQ : Hid (∀ arr', Fx arr' (.int .i64 a) v1 v2 v3 v4 v5 v6 v7 v8 v9 v10 v11 v12 v13 v14 v15 v16 v17 v18 v19 v20 v21 v22 v23 v24 v25 v26 v27 v28 v29 v30 v31 v32 v33 v34 v35 v36 v37 v38 v39 v40 v41 v42 v43 v44 v45 v46 v47 v48 v49 v50 v51 → K ⟨arr', []⟩ w)) :
    Code.wp Yba.prog (nav [1, 0] (Yba.f3.body.getD .skip)) (Exit.then K (Qp Q R)) ⟨arr, []⟩ w := by
  refine hs.open (fun t => ?_)
  clear hs
  conv => arg 2; whnf
  go_wp2
  refine HQ.out _ ?_
  exact (Fx.mk rfl rfl rfl rfl rfl rfl rfl rfl rfl rfl rfl rfl rfl rfl rfl rfl rfl rfl rfl rfl rfl rfl rfl rfl rfl rfl rfl rfl rfl rfl rfl rfl rfl rfl rfl rfl rfl rfl rfl rfl rfl rfl rfl rfl rfl rfl rfl rfl rfl rfl rfl rfl rfl)

set_option maxRecDepth 100000 in
set_option maxHeartbeats 400000 in
/-- not negative -/
theorem st2 (a b : Int) (arr : Array Value) (w : World) (K : Act → World → Prop) (Q : Exit → Act → World → Prop) (R : Ending → World → Prop) (v0 v2 v3 v4 v5 v6 v7 v8 v9 v10 v11 v12 v13 v14 v15 v16 v17 v18 v19 v20 v21 v22 v23 v24 v25 v26 v27 v28 v29 v30 v31 v32 v33 v34 v35 v36 v37 v38 v39 v40 v41 v42 v43 v44 v45 v46 v47 v48 v49 v50 v51 : Value)
    (HA : Hid (Calls Yba.prog 4 #[.int .i64 a] w fun e w' => e = .returned (.int .i64 b) ∧ w' = w))
    (hs : Fx arr v0 (.int .i64 a) v2 v3 v4 v5 v6 v7 v8 v9 v10 v11 v12 v13 v14 v15 v16 v17 v18 v19 v20 v21 v22 v23 v24 v25 v26 v27 v28 v29 v30 v31 v32 v33 v34 v35 v36 v37 v38 v39 v40 v41 v42 v43 v44 v45 v46 v47 v48 v49 v50 v51)
    (HQ : Hid (∀ arr', Fx arr' v0 (.int .i64 b) v2 v3 v4 v5 v6 v7 v8 v9 v10 v11 v12 v13 v14 v15 v16 v17 v18 v19 v20 v21 v22 v23 v24 v25 v26 v27 v28 v29 v30 v31 v32 v33 v34 v35 v36 v37 v38 v39 v40 v41 v42 v43 v44 v45 v46 v47 v48 v49 v50 v51 → K ⟨arr', []⟩ w)) :
    Code.wp Yba.prog (nav [1, 1, 0] (Yba.f3.body.getD .skip)) (Exit.then K (Qp Q R)) ⟨arr, []⟩ w := by
  refine hs.open (fun t => ?_)
  clear hs
  conv => arg 2; whnf
  go_wp2_with fail
  refine Calls.mono HA.out ?_
  rintro e w2 ⟨rfl, rfl⟩
  clear HA
  go_wp2
  refine HQ.out _ ?_
  exact (Fx.mk rfl rfl rfl rfl rfl rfl rfl rfl rfl rfl rfl rfl rfl rfl rfl rfl rfl rfl rfl rfl rfl rfl rfl rfl rfl rfl rfl rfl rfl rfl rfl rfl rfl rfl rfl rfl rfl rfl rfl rfl rfl rfl rfl rfl rfl rfl rfl rfl rfl rfl rfl rfl rfl)

set_option maxRecDepth 100000 in
set_option maxHeartbeats 400000 in
/-- not negative -/
theorem st3 (a b : Int) (arr : Array Value) (w : World) (K : Act → World → Prop) (Q : Exit → Act → World → Prop) (R : Ending → World → Prop) (v0 v1 v2 v3 v4 v5 v6 v7 v9 v10 v11 v12 v13 v14 v15 v16 v17 v18 v19 v20 v21 v22 v23 v24 v25 v26 v27 v28 v29 v30 v31 v32 v33 v34 v35 v36 v37 v38 v39 v40 v41 v42 v43 v44 v45 v46 v47 v48 v49 v50 v51 : Value)
    (HA : Hid (Calls Yba.prog 4 #[.int .i64 a] w fun e w' => e = .returned (.int .i64 b) ∧ w' = w))
    (hs : Fx arr v0 v1 v2 v3 v4 v5 v6 v7 (.int .i64 a) v9 v10 v11 v12 v13 v14 v15 v16 v17 v18 v19 v20 v21 v22 v23 v24 v25 v26 v27 v28 v29 v30 v31 v32 v33 v34 v35 v36 v37 v38 v39 v40 v41 v42 v43 v44 v45 v46 v47 v48 v49 v50 v51)
    (HQ : Hid (∀ arr', Fx arr' v0 v1 v2 v3 v4 v5 v6 v7 (.int .i64 b) v9 v10 v11 v12 v13 v14 v15 v16 v17 v18 v19 v20 v21 v22 v23 v24 v25 v26 v27 v28 v29 v30 v31 v32 v33 v34 v35 v36 v37 v38 v39 v40 v41 v42 v43 v44 v45 v46 v47 v48 v49 v50 v51 → K ⟨arr', []⟩ w)) :
    Code.wp Yba.prog (nav [1, 1, 1, 0] (Yba.f3.body.getD .skip)) (Exit.then K (Qp Q R)) ⟨arr, []⟩ w := by
  refine hs.open (fun t => ?_)
  clear hs
  conv => arg 2; whnf
  go_wp2_with fail
  refine Calls.mono HA.out ?_
  rintro e w2 ⟨rfl, rfl⟩
  clear HA
  go_wp2
  refine HQ.out _ ?_
  exact (Fx.mk rfl rfl rfl rfl rfl rfl rfl rfl rfl rfl rfl rfl rfl rfl rfl rfl rfl rfl rfl rfl rfl rfl rfl rfl rfl rfl rfl rfl rfl rfl rfl rfl rfl rfl rfl rfl rfl rfl rfl rfl rfl rfl rfl rfl rfl rfl rfl rfl rfl rfl rfl rfl rfl)

set_option maxRecDepth 100000 in
set_option maxHeartbeats 400000 in
/-- not negative -/
theorem st4 (a b : Int) (arr : Array Value) (w : World) (K : Act → World → Prop) (Q : Exit → Act → World → Prop) (R : Ending → World → Prop) (v0 v1 v2 v3 v4 v5 v6 v7 v8 v10 v11 v12 v13 v14 v15 v16 v17 v18 v19 v20 v21 v22 v23 v24 v25 v26 v27 v28 v29 v30 v31 v32 v33 v34 v35 v36 v37 v38 v39 v40 v41 v42 v43 v44 v45 v46 v47 v48 v49 v50 v51 : Value)
    (HA : Hid (Calls Yba.prog 4 #[.int .i64 a] w fun e w' => e = .returned (.int .i64 b) ∧ w' = w))
    (hs : Fx arr v0 v1 v2 v3 v4 v5 v6 v7 v8 (.int .i64 a) v10 v11 v12 v13 v14 v15 v16 v17 v18 v19 v20 v21 v22 v23 v24 v25 v26 v27 v28 v29 v30 v31 v32 v33 v34 v35 v36 v37 v38 v39 v40 v41 v42 v43 v44 v45 v46 v47 v48 v49 v50 v51)
    (HQ : Hid (∀ arr', Fx arr' v0 v1 v2 v3 v4 v5 v6 v7 v8 (.int .i64 b) v10 v11 v12 v13 v14 v15 v16 v17 v18 v19 v20 v21 v22 v23 v24 v25 v26 v27 v28 v29 v30 v31 v32 v33 v34 v35 v36 v37 v38 v39 v40 v41 v42 v43 v44 v45 v46 v47 v48 v49 v50 v51 → K ⟨arr', []⟩ w)) :
    Code.wp Yba.prog (nav [1, 1, 1, 1, 0] (Yba.f3.body.getD .skip)) (Exit.then K (Qp Q R)) ⟨arr, []⟩ w := by
  refine hs.open (fun t => ?_)
  clear hs
  conv => arg 2; whnf
  go_wp2_with fail
  refine Calls.mono HA.out ?_
  rintro e w2 ⟨rfl, rfl⟩
  clear HA
  go_wp2
  refine HQ.out _ ?_
  exact (Fx.mk rfl rfl rfl rfl rfl rfl rfl rfl rfl rfl rfl rfl rfl rfl rfl rfl rfl rfl rfl rfl rfl rfl rfl rfl rfl rfl rfl rfl rfl rfl rfl rfl rfl rfl rfl rfl rfl rfl rfl rfl rfl rfl rfl rfl rfl rfl rfl rfl rfl rfl rfl rfl rfl)

set_option maxRecDepth 100000 in
set_option maxHeartbeats 400000 in
/-- m -/
theorem st5 (k m : Nat) (arr : Array Value) (w : World) (K : Act → World → Prop) (Q : Exit → Act → World → Prop) (R : Ending → World → Prop) (v0 v1 v2 v3 v5 v6 v7 v8 v9 v10 v11 v12 v13 v14 v15 v16 v17 v18 v19 v20 v21 v22 v23 v24 v25 v26 v27 v28 v29 v30 v31 v32 v33 v34 v35 v36 v37 v38 v39 v40 v41 v42 v43 v44 v45 v46 v47 v48 v49 v50 v51 : Value)
    (hk : k < 256) (hm : m = k % 3)
    (hs : Fx arr v0 v1 v2 v3 (.int .u8 k) v5 v6 v7 v8 v9 v10 v11 v12 v13 v14 v15 v16 v17 v18 v19 v20 v21 v22 v23 v24 v25 v26 v27 v28 v29 v30 v31 v32 v33 v34 v35 v36 v37 v38 v39 v40 v41 v42 v43 v44 v45 v46 v47 v48 v49 v50 v51)
    (HQ : Hid (∀ arr', Fx arr' v0 v1 v2 v3 (.int .u8 k) v5 v6 v7 v8 v9 v10 v11 v12 v13 v14 v15 v16 v17 v18 v19 v20 (.int .u8 m) v22 v23 v24 v25 v26 v27 v28 v29 v30 v31 v32 v33 v34 v35 v36 v37 v38 v39 v40 v41 v42 v43 v44 v45 v46 v47 v48 v49 v50 v51 → K ⟨arr', []⟩ w)) :
    Code.wp Yba.prog (nav [1, 1, 1, 1, 1, 0] (Yba.f3.body.getD .skip)) (Exit.then K (Qp Q R)) ⟨arr, []⟩ w := by
  refine hs.open (fun t => ?_)
  clear hs
  conv => arg 2; whnf
  have e : (k : Int).tmod 3 = (m : Int) := by rw [Int.tmod_eq_emod_of_nonneg (by omega), hm]; omega
  have e2 : (k : Int) % 3 = (m : Int) := by omega
  have hb : m < 3 := by rw [hm]; exact Nat.mod_lt _ (by omega)
  clear hm
  go_wp2
  refine HQ.out _ ?_
  exact (Fx.mk rfl rfl rfl rfl rfl rfl rfl rfl rfl rfl rfl rfl rfl rfl rfl rfl rfl rfl rfl rfl rfl rfl rfl rfl rfl rfl rfl rfl rfl rfl rfl rfl rfl rfl rfl rfl rfl rfl rfl rfl rfl rfl rfl rfl rfl rfl rfl rfl rfl rfl rfl rfl rfl)

set_option maxRecDepth 100000 in
set_option maxHeartbeats 400000 in
/-- full = false -/
theorem st6y (m : Nat) (h : Bool) (arr : Array Value) (w : World) (K : Act → World → Prop) (Q : Exit → Act → World → Prop) (R : Ending → World → Prop) (v0 v1 v2 v3 v4 v5 v7 v8 v9 v10 v11 v12 v13 v14 v15 v16 v17 v18 v19 v20 v22 v23 v24 v25 v26 v27 v28 v29 v30 v31 v32 v33 v34 v35 v36 v37 v38 v39 v40 v41 v42 v43 v44 v45 v46 v47 v48 v49 v50 v51 : Value)
    (hc : ¬ m = 0 ∨ h = false)
    (hs : Fx arr v0 v1 v2 v3 v4 v5 (.bool h) v7 v8 v9 v10 v11 v12 v13 v14 v15 v16 v17 v18 v19 v20 (.int .u8 m) v22 v23 v24 v25 v26 v27 v28 v29 v30 v31 v32 v33 v34 v35 v36 v37 v38 v39 v40 v41 v42 v43 v44 v45 v46 v47 v48 v49 v50 v51)
    (HQ : Hid (∀ arr', Fx arr' v0 v1 v2 v3 v4 v5 (.bool h) (.bool false) v8 v9 v10 v11 v12 v13 v14 v15 v16 v17 v18 v19 v20 (.int .u8 m) v22 v23 v24 v25 v26 v27 v28 v29 v30 v31 v32 v33 v34 v35 v36 v37 v38 v39 v40 v41 v42 v43 v44 v45 v46 v47 v48 v49 v50 v51 → K ⟨arr', []⟩ w)) :
    Code.wp Yba.prog (nav [1, 1, 1, 1, 1, 1, 0] (Yba.f3.body.getD .skip)) (Exit.then K (Qp Q R)) ⟨arr, []⟩ w := by
  refine hs.open (fun t => ?_)
  clear hs
  conv => arg 2; whnf
  by_cases hm : m = 0
  · subst hm
    have hf : h = false := by rcases hc with hc | hc; exact absurd rfl hc; exact hc
    subst hf
    go_wp2
    refine HQ.out _ ?_
    exact (Fx.mk rfl rfl rfl rfl rfl rfl rfl rfl rfl rfl rfl rfl rfl rfl rfl rfl rfl rfl rfl rfl rfl rfl rfl rfl rfl rfl rfl rfl rfl rfl rfl rfl rfl rfl rfl rfl rfl rfl rfl rfl rfl rfl rfl rfl rfl rfl rfl rfl rfl rfl rfl rfl rfl)
  · have hm' : ((m : Int) == 0) = false := by simp; omega
    clear hc
    go_wp2
    refine HQ.out _ ?_
    exact (Fx.mk rfl rfl rfl rfl rfl rfl rfl rfl rfl rfl rfl rfl rfl rfl rfl rfl rfl rfl rfl rfl rfl rfl rfl rfl rfl rfl rfl rfl rfl rfl rfl rfl rfl rfl rfl rfl rfl rfl rfl rfl rfl rfl rfl rfl rfl rfl rfl rfl rfl rfl rfl rfl rfl)

set_option maxRecDepth 100000 in
set_option maxHeartbeats 400000 in
/-- full stays -/
theorem st6n  (arr : Array Value) (w : World) (K : Act → World → Prop) (Q : Exit → Act → World → Prop) (R : Ending → World → Prop) (v0 v1 v2 v3 v4 v5 v7 v8 v9 v10 v11 v12 v13 v14 v15 v16 v17 v18 v19 v20 v22 v23 v24 v25 v26 v27 v28 v29 v30 v31 v32 v33 v34 v35 v36 v37 v38 v39 v40 v41 v42 v43 v44 v45 v46 v47 v48 v49 v50 v51 : Value)
    
    (hs : Fx arr v0 v1 v2 v3 v4 v5 (.bool true) v7 v8 v9 v10 v11 v12 v13 v14 v15 v16 v17 v18 v19 v20 (.int .u8 ((0 : Nat) : Int)) v22 v23 v24 v25 v26 v27 v28 v29 v30 v31 v32 v33 v34 v35 v36 v37 v38 v39 v40 v41 v42 v43 v44 v45 v46 v47 v48 v49 v50 v51)
    (HQ : Hid (∀ arr', Fx arr' v0 v1 v2 v3 v4 v5 (.bool true) v7 v8 v9 v10 v11 v12 v13 v14 v15 v16 v17 v18 v19 v20 (.int .u8 ((0 : Nat) : Int)) v22 v23 v24 v25 v26 v27 v28 v29 v30 v31 v32 v33 v34 v35 v36 v37 v38 v39 v40 v41 v42 v43 v44 v45 v46 v47 v48 v49 v50 v51 → K ⟨arr', []⟩ w)) :
    Code.wp Yba.prog (nav [1, 1, 1, 1, 1, 1, 0] (Yba.f3.body.getD .skip)) (Exit.then K (Qp Q R)) ⟨arr, []⟩ w := by
  refine hs.open (fun t => ?_)
  clear hs
  conv => arg 2; whnf
  go_wp2
  refine HQ.out _ ?_
  exact (Fx.mk rfl rfl rfl rfl rfl rfl rfl rfl rfl rfl rfl rfl rfl rfl rfl rfl rfl rfl rfl rfl rfl rfl rfl rfl rfl rfl rfl rfl rfl rfl rfl rfl rfl rfl rfl rfl rfl rfl rfl rfl rfl rfl rfl rfl rfl rfl rfl rfl rfl rfl rfl rfl rfl)

set_option maxRecDepth 100000 in
set_option maxHeartbeats 400000 in
/-- tick -/
theorem st7 (v : Value) (arr : Array Value) (w : World) (K : Act → World → Prop) (Q : Exit → Act → World → Prop) (R : Ending → World → Prop) (v1 v2 v3 v4 v5 v6 v7 v8 v9 v10 v11 v12 v13 v14 v15 v16 v17 v18 v19 v20 v21 v22 v23 v24 v25 v26 v27 v28 v29 v30 v31 v32 v33 v34 v35 v36 v37 v38 v39 v40 v41 v42 v43 v44 v45 v46 v47 v48 v49 v50 v51 : Value)
    
    (hs : Fx arr (v) v1 v2 v3 v4 v5 v6 v7 v8 v9 v10 v11 v12 v13 v14 v15 v16 v17 v18 v19 v20 v21 v22 v23 v24 v25 v26 v27 v28 v29 v30 v31 v32 v33 v34 v35 v36 v37 v38 v39 v40 v41 v42 v43 v44 v45 v46 v47 v48 v49 v50 v51)
    (HQ : Hid (∀ arr', Fx arr' (v) v1 v2 v3 v4 v5 v6 v7 v8 v9 v10 v11 v12 v13 v14 v15 v16 v17 v18 v19 v20 v21 (v) v23 v24 v25 v26 v27 v28 v29 v30 v31 v32 v33 v34 v35 v36 v37 v38 v39 v40 v41 v42 v43 v44 v45 v46 v47 v48 v49 v50 v51 → K ⟨arr', []⟩ w)) :
    Code.wp Yba.prog (nav [1, 1, 1, 1, 1, 1, 1, 0] (Yba.f3.body.getD .skip)) (Exit.then K (Qp Q R)) ⟨arr, []⟩ w := by
  refine hs.open (fun t => ?_)
  clear hs
  conv => arg 2; whnf
  go_wp2
  refine HQ.out _ ?_
  exact (Fx.mk rfl rfl rfl rfl rfl rfl rfl rfl rfl rfl rfl rfl rfl rfl rfl rfl rfl rfl rfl rfl rfl rfl rfl rfl rfl rfl rfl rfl rfl rfl rfl rfl rfl rfl rfl rfl rfl rfl rfl rfl rfl rfl rfl rfl rfl rfl rfl rfl rfl rfl rfl rfl rfl)

end Go.Proofs.Ybulkdgza
