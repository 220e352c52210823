/-
  LawS5408BWhole, its statements 9 to 13: the least tick, due, want.
-/
import Derived.Test.YbulkdgzaDoorS3
namespace Go.Proofs.YbulkdgzaDoor
open Go.RowKit B
set_option linter.unusedVariables false
set_option linter.unusedSimpArgs false

/-- The least tick of the first k. -/
def mn (T : Nat → Nat) : Nat → Nat
  | 0 => 9223372036854775807
  | k + 1 => if T k < mn T k then T k else mn T k
/-- How many of the first k have the tick v. -/
def cn (T : Nat → Nat) (v : Nat) : Nat → Nat
  | 0 => 0
  | k + 1 => if T k = v then cn T v k + 1 else cn T v k
theorem cn_le (T : Nat → Nat) (v : Nat) : ∀ k, cn T v k ≤ k
  | 0 => Nat.le_refl _
  | k + 1 => by have := cn_le T v k; unfold cn; split <;> omega
theorem mn_up (T : Nat → Nat) (k q : Nat) (h : mn T k = q) (ht : T k < q) : mn T (k + 1) = T k := by unfold mn; rw [h, if_pos ht]
theorem mn_no (T : Nat → Nat) (k q : Nat) (h : mn T k = q) (ht : ¬ T k < q) : mn T (k + 1) = q := by unfold mn; rw [h, if_neg ht]
theorem cn_up (T : Nat → Nat) (v k q : Nat) (h : cn T v k = q) (ht : T k = v) : cn T v (k + 1) = q + 1 := by unfold cn; rw [h, if_pos ht]
theorem cn_no (T : Nat → Nat) (v k q : Nat) (h : cn T v k = q) (ht : ¬ T k = v) : cn T v (k + 1) = q := by unfold cn; rw [h, if_neg ht]
theorem tkF_cell (T : Nat → Nat) (n k : Nat) (h : k < n) : tkF T n k = .int .i64 (T k) := if_pos h

set_option maxRecDepth 100000 in
set_option maxHeartbeats 400000 in
/-- minT := maxI -/
theorem st9  (arr : Array Value) (w : World) (K : Act → World → Prop) (Q : Exit → Act → World → Prop) (R : Ending → World → Prop) (v0 v1 v2 v3 v4 v5 v6 v7 v8 v9 v10 v11 v12 v13 v14 v15 v16 v17 v18 v19 v20 v21 v22 v23 v24 v25 v26 v27 v28 v29 v30 v31 v32 v33 v34 v35 v36 v37 v38 : Value)
    
    (hs : Fx arr v0 v1 v2 v3 v4 v5 v6 v7 v8 v9 v10 v11 v12 v13 v14 v15 v16 v17 v18 v19 v20 v21 v22 v23 v24 v25 v26 v27 v28 v29 v30 v31 v32 v33 v34 v35 v36 v37 v38)
    (HQ : Hid (∀ arr', Fx arr' v0 v1 v2 v3 v4 v5 v6 v7 v8 v9 v10 v11 v12 v13 v14 v15 v16 v17 (.int .i64 ((9223372036854775807 : Nat) : Int)) v19 v20 v21 v22 v23 v24 v25 v26 v27 v28 v29 v30 v31 v32 v33 v34 v35 v36 v37 v38 → K ⟨arr', []⟩ w)) :
    Code.wp Ybad.prog (nav [1, 1, 1, 1, 1, 1, 1, 1, 1, 0] (Ybad.f4.body.getD .skip)) (Exit.then K (Qp Q R)) ⟨arr, []⟩ w := by
  refine hs.open (fun t => ?_)
  clear hs
  conv => arg 2; whnf
  go_wp2
  refine HQ.out _ ?_
  exact (Fx.mk rfl rfl rfl rfl rfl rfl rfl rfl rfl rfl rfl rfl rfl rfl rfl rfl rfl rfl rfl rfl rfl rfl rfl rfl rfl rfl rfl rfl rfl rfl rfl rfl rfl rfl rfl rfl rfl rfl rfl rfl)

set_option maxRecDepth 100000 in
set_option maxHeartbeats 1000000 in
/-- the least tick -/
theorem st10 (n D : Nat) (T : Nat → Nat) (arr : Array Value) (w : World) (K : Act → World → Prop) (Q : Exit → Act → World → Prop) (R : Ending → World → Prop) (v0 v1 v2 v3 v4 v5 v6 v7 v8 v9 v10 v12 v14 v15 v16 v17 v19 v20 v21 v22 v23 v24 v25 v26 v27 v28 v29 v30 v31 v32 v33 v34 v35 v36 v37 v38 : Value)
    (hn : n ≤ 4096) (hD : RowF w D 2 n (tkF T n))
    (hs : Fx arr v0 v1 v2 v3 v4 v5 v6 v7 v8 v9 v10 (.int .i64 n) v12 (.slice (some ⟨D, 0, none⟩) n n) v14 v15 v16 v17 (.int .i64 ((9223372036854775807 : Nat) : Int)) v19 v20 v21 v22 v23 v24 v25 v26 v27 v28 v29 v30 v31 v32 v33 v34 v35 v36 v37 v38)
    (HQ : Hid (∀ arr', Fx arr' v0 v1 v2 v3 v4 v5 v6 v7 v8 v9 v10 (.int .i64 n) v12 (.slice (some ⟨D, 0, none⟩) n n) v14 v15 v16 v17 (.int .i64 (mn T n)) (.int .i64 n) v20 v21 v22 v23 v24 v25 v26 v27 v28 v29 v30 v31 v32 v33 v34 v35 v36 v37 v38 → K ⟨arr', []⟩ w)) :
    Code.wp Ybad.prog (nav [1, 1, 1, 1, 1, 1, 1, 1, 1, 1, 0] (Ybad.f4.body.getD .skip)) (Exit.then K (Qp Q R)) ⟨arr, []⟩ w := by
  refine hs.open (fun t => ?_)
  clear hs
  conv => arg 2; whnf
  have HD : Hid (∀ k, k < n → w.cell? ⟨D, k, none⟩ = some (.int .i64 (T k))) := fun k hk => by rw [hD.cell hk, tkF_cell T n k hk]
  clear hD
  go_wp2
  go_loopw [18, 19] (fun a i wr => ∃ k : Nat, k ≤ n ∧ a = .int .i64 (mn T k : Int) ∧ i = .int .i64 (k : Int) ∧ wr = w) (fun _ i _ => (n - intOf i).toNat)
  case atStart => exact ⟨0, by omega, rfl, rfl, rfl⟩
  case round =>
    obtain ⟨k, hk, rfl, rfl, rfl⟩ := hrel
    by_cases h : k < n
    · have h' : (k : Int) < (n : Int) := by omega
      have hcell := HD.out k h
      generalize hq : mn T k = q at *
      have A1 : Hid (mn T k = q) := hq
      clear hq
      by_cases ht : T k < q
      · have A2 := mn_up T k q A1.out ht
        have A3 : Hid (mn T (k + 1) = T k) := A2
        clear A2
        generalize T k = tk at *
        have ht' : (tk : Int) < (q : Int) := by omega
        go_wp2
        go_roundw
        case rel => exact ⟨k + 1, by omega, by rw [A3.out], by go_num, by first | rfl | trivial⟩
        case measure => simp [intOf]; omega
      · have A2 := mn_no T k q A1.out ht
        have A3 : Hid (mn T (k + 1) = q) := A2
        clear A2
        generalize T k = tk at *
        have ht' : ¬ (tk : Int) < (q : Int) := by omega
        go_wp2
        go_roundw
        case rel => exact ⟨k + 1, by omega, by rw [A3.out], by go_num, by first | rfl | trivial⟩
        case measure => simp [intOf]; omega
    · obtain rfl : k = n := by omega
      go_wp2
      refine HQ.out _ ?_
      exact (Fx.mk rfl rfl rfl rfl rfl rfl rfl rfl rfl rfl rfl rfl rfl rfl rfl rfl rfl rfl rfl rfl rfl rfl rfl rfl rfl rfl rfl rfl rfl rfl rfl rfl rfl rfl rfl rfl rfl rfl rfl rfl)

set_option maxRecDepth 100000 in
set_option maxHeartbeats 400000 in
/-- due -/
theorem st11 (n q : Nat) (last : Int) (d : Bool) (arr : Array Value) (w : World) (K : Act → World → Prop) (Q : Exit → Act → World → Prop) (R : Ending → World → Prop) (v0 v1 v2 v4 v5 v6 v7 v8 v9 v10 v12 v13 v14 v15 v16 v17 v19 v20 v21 v22 v23 v24 v25 v26 v27 v28 v29 v30 v31 v32 v33 v34 v35 v36 v37 v38 : Value)
    (hd : d = true ↔ 0 < n ∧ (q : Int) ≤ last)
    (hs : Fx arr v0 v1 v2 (.int .i64 last) v4 v5 v6 v7 v8 v9 v10 (.int .i64 n) v12 v13 v14 v15 v16 v17 (.int .i64 q) v19 v20 v21 v22 v23 v24 v25 v26 v27 v28 v29 v30 v31 v32 v33 v34 v35 v36 v37 v38)
    (HQ : Hid (∀ arr', Fx arr' v0 v1 v2 (.int .i64 last) v4 v5 v6 v7 v8 v9 v10 (.int .i64 n) v12 v13 v14 v15 v16 v17 (.int .i64 q) v19 (.bool d) v21 v22 v23 v24 v25 v26 v27 v28 v29 v30 v31 v32 v33 v34 v35 v36 v37 v38 → K ⟨arr', []⟩ w)) :
    Code.wp Ybad.prog (nav [1, 1, 1, 1, 1, 1, 1, 1, 1, 1, 1, 0] (Ybad.f4.body.getD .skip)) (Exit.then K (Qp Q R)) ⟨arr, []⟩ w := by
  refine hs.open (fun t => ?_)
  clear hs
  conv => arg 2; whnf
  by_cases h0 : 0 < n
  · have h0' : (0 : Int) < (n : Int) := by omega
    by_cases h1 : (q : Int) ≤ last
    · have e : d = true := hd.2 ⟨h0, h1⟩
      subst e
      clear hd
      go_wp2
      refine HQ.out _ ?_
      exact (Fx.mk rfl rfl rfl rfl rfl rfl rfl rfl rfl rfl rfl rfl rfl rfl rfl rfl rfl rfl rfl rfl rfl (by simp [h1]) rfl rfl rfl rfl rfl rfl rfl rfl rfl rfl rfl rfl rfl rfl rfl rfl rfl rfl)
    · have e : d = false := by cases d with | false => rfl | true => exact absurd (hd.1 rfl).2 h1
      subst e
      clear hd
      go_wp2
      refine HQ.out _ ?_
      exact (Fx.mk rfl rfl rfl rfl rfl rfl rfl rfl rfl rfl rfl rfl rfl rfl rfl rfl rfl rfl rfl rfl rfl (by simp [h1]) rfl rfl rfl rfl rfl rfl rfl rfl rfl rfl rfl rfl rfl rfl rfl rfl rfl rfl)
  · obtain rfl : n = 0 := by omega
    have e : d = false := by cases d with | false => rfl | true => exact absurd (hd.1 rfl).1 h0
    subst e
    clear hd
    go_wp2
    refine HQ.out _ ?_
    exact (Fx.mk rfl rfl rfl rfl rfl rfl rfl rfl rfl rfl rfl rfl rfl rfl rfl rfl rfl rfl rfl rfl rfl rfl rfl rfl rfl rfl rfl rfl rfl rfl rfl rfl rfl rfl rfl rfl rfl rfl rfl rfl)

set_option maxRecDepth 100000 in
set_option maxHeartbeats 400000 in
/-- want := 0 -/
theorem st12  (arr : Array Value) (w : World) (K : Act → World → Prop) (Q : Exit → Act → World → Prop) (R : Ending → World → Prop) (v0 v1 v2 v3 v4 v5 v6 v7 v8 v9 v10 v11 v12 v13 v14 v15 v16 v17 v18 v19 v20 v21 v22 v23 v24 v25 v26 v27 v28 v29 v30 v31 v32 v33 v34 v35 v36 v37 v38 : Value)
    
    (hs : Fx arr v0 v1 v2 v3 v4 v5 v6 v7 v8 v9 v10 v11 v12 v13 v14 v15 v16 v17 v18 v19 v20 v21 v22 v23 v24 v25 v26 v27 v28 v29 v30 v31 v32 v33 v34 v35 v36 v37 v38)
    (HQ : Hid (∀ arr', Fx arr' v0 v1 v2 v3 v4 v5 v6 v7 v8 v9 v10 v11 v12 v13 v14 v15 v16 v17 v18 v19 v20 (.int .i64 ((0 : Nat) : Int)) v22 v23 v24 v25 v26 v27 v28 v29 v30 v31 v32 v33 v34 v35 v36 v37 v38 → K ⟨arr', []⟩ w)) :
    Code.wp Ybad.prog (nav [1, 1, 1, 1, 1, 1, 1, 1, 1, 1, 1, 1, 0] (Ybad.f4.body.getD .skip)) (Exit.then K (Qp Q R)) ⟨arr, []⟩ w := by
  refine hs.open (fun t => ?_)
  clear hs
  conv => arg 2; whnf
  go_wp2
  refine HQ.out _ ?_
  exact (Fx.mk rfl rfl rfl rfl rfl rfl rfl rfl rfl rfl rfl rfl rfl rfl rfl rfl rfl rfl rfl rfl rfl rfl rfl rfl rfl rfl rfl rfl rfl rfl rfl rfl rfl rfl rfl rfl rfl rfl rfl rfl)

set_option maxRecDepth 100000 in
set_option maxHeartbeats 400000 in
/-- not due -/
theorem st13n  (arr : Array Value) (w : World) (K : Act → World → Prop) (Q : Exit → Act → World → Prop) (R : Ending → World → Prop) (v0 v1 v2 v3 v4 v5 v6 v7 v8 v9 v10 v11 v12 v13 v14 v15 v16 v17 v18 v19 v21 v22 v23 v24 v25 v26 v27 v28 v29 v30 v31 v32 v33 v34 v35 v36 v37 v38 : Value)
    
    (hs : Fx arr v0 v1 v2 v3 v4 v5 v6 v7 v8 v9 v10 v11 v12 v13 v14 v15 v16 v17 v18 v19 (.bool false) v21 v22 v23 v24 v25 v26 v27 v28 v29 v30 v31 v32 v33 v34 v35 v36 v37 v38)
    (HQ : Hid (∀ arr', Fx arr' v0 v1 v2 v3 v4 v5 v6 v7 v8 v9 v10 v11 v12 v13 v14 v15 v16 v17 v18 v19 (.bool false) v21 v22 v23 v24 v25 v26 v27 v28 v29 v30 v31 v32 v33 v34 v35 v36 v37 v38 → K ⟨arr', []⟩ w)) :
    Code.wp Ybad.prog (nav [1, 1, 1, 1, 1, 1, 1, 1, 1, 1, 1, 1, 1, 0] (Ybad.f4.body.getD .skip)) (Exit.then K (Qp Q R)) ⟨arr, []⟩ w := by
  refine hs.open (fun t => ?_)
  clear hs
  conv => arg 2; whnf
  go_wp2
  refine HQ.out _ ?_
  exact (Fx.mk rfl rfl rfl rfl rfl rfl rfl rfl rfl rfl rfl rfl rfl rfl rfl rfl rfl rfl rfl rfl rfl rfl rfl rfl rfl rfl rfl rfl rfl rfl rfl rfl rfl rfl rfl rfl rfl rfl rfl rfl)

set_option maxRecDepth 100000 in
set_option maxHeartbeats 1000000 in
/-- due: how many -/
theorem st13 (n D v : Nat) (T : Nat → Nat) (arr : Array Value) (w : World) (K : Act → World → Prop) (Q : Exit → Act → World → Prop) (R : Ending → World → Prop) (v0 v1 v2 v3 v4 v5 v6 v7 v8 v9 v10 v12 v14 v15 v16 v17 v19 v22 v23 v24 v25 v26 v27 v28 v29 v30 v31 v32 v33 v34 v35 v36 v37 v38 : Value)
    (hn : n ≤ 4096) (hD : RowF w D 2 n (tkF T n))
    (hs : Fx arr v0 v1 v2 v3 v4 v5 v6 v7 v8 v9 v10 (.int .i64 n) v12 (.slice (some ⟨D, 0, none⟩) n n) v14 v15 v16 v17 (.int .i64 v) v19 (.bool true) (.int .i64 ((0 : Nat) : Int)) v22 v23 v24 v25 v26 v27 v28 v29 v30 v31 v32 v33 v34 v35 v36 v37 v38)
    (HQ : Hid (∀ arr', Fx arr' v0 v1 v2 v3 v4 v5 v6 v7 v8 v9 v10 (.int .i64 n) v12 (.slice (some ⟨D, 0, none⟩) n n) v14 v15 v16 v17 (.int .i64 v) v19 (.bool true) (.int .i64 (cn T v n)) (.int .i64 n) v23 v24 v25 v26 v27 v28 v29 v30 v31 v32 v33 v34 v35 v36 v37 v38 → K ⟨arr', []⟩ w)) :
    Code.wp Ybad.prog (nav [1, 1, 1, 1, 1, 1, 1, 1, 1, 1, 1, 1, 1, 0] (Ybad.f4.body.getD .skip)) (Exit.then K (Qp Q R)) ⟨arr, []⟩ w := by
  refine hs.open (fun t => ?_)
  clear hs
  conv => arg 2; whnf
  have HD : Hid (∀ k, k < n → w.cell? ⟨D, k, none⟩ = some (.int .i64 (T k))) := fun k hk => by rw [hD.cell hk, tkF_cell T n k hk]
  clear hD
  go_wp2
  go_loopw [21, 22] (fun a i wr => ∃ k : Nat, k ≤ n ∧ a = .int .i64 (cn T v k : Int) ∧ i = .int .i64 (k : Int) ∧ wr = w) (fun _ i _ => (n - intOf i).toNat)
  case atStart => exact ⟨0, by omega, rfl, rfl, rfl⟩
  case round =>
    obtain ⟨k, hk, rfl, rfl, rfl⟩ := hrel
    by_cases h : k < n
    · have h' : (k : Int) < (n : Int) := by omega
      have hcell := HD.out k h
      have hle := cn_le T v k
      generalize hq : cn T v k = q at *
      have A1 : Hid (cn T v k = q) := hq
      clear hq
      by_cases ht : T k = v
      · have A2 := cn_up T v k q A1.out ht
        have A3 : Hid (cn T v (k + 1) = q + 1) := A2
        clear A2
        rw [ht] at hcell
        clear ht
        go_wp2
        go_roundw
        case rel => exact ⟨k + 1, by omega, by rw [A3.out]; go_num, by go_num, by first | rfl | trivial⟩
        case measure => simp [intOf]; omega
      · have A2 := cn_no T v k q A1.out ht
        have A3 : Hid (cn T v (k + 1) = q) := A2
        clear A2
        generalize T k = tk at *
        have ht' : ((tk : Int) == (v : Int)) = false := by simp; omega
        go_wp2
        go_roundw
        case rel => exact ⟨k + 1, by omega, by rw [A3.out], by go_num, by first | rfl | trivial⟩
        case measure => simp [intOf]; omega
    · obtain rfl : k = n := by omega
      go_wp2
      refine HQ.out _ ?_
      exact (Fx.mk rfl rfl rfl rfl rfl rfl rfl rfl rfl rfl rfl rfl rfl rfl rfl rfl rfl rfl rfl rfl rfl rfl rfl rfl rfl rfl rfl rfl rfl rfl rfl rfl rfl rfl rfl rfl rfl rfl rfl rfl)

end Go.Proofs.YbulkdgzaDoor
