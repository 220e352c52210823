/-
  LawS5408BWhole, its statements 17, 22, 23, 24.
-/
import Derived.Test.YbulkdgzaDoorS8
namespace Go.Proofs.YbulkdgzaDoor
open Go.RowKit B
set_option linter.unusedVariables false
set_option linter.unusedSimpArgs false

set_option maxRecDepth 100000 in
set_option maxHeartbeats 400000 in
/-- rest+k != n: no -/
theorem st22 (n rr kk : Nat) (arr : Array Value) (w : World) (K : Act → World → Prop) (Q : Exit → Act → World → Prop) (R : Ending → World → Prop) (v0 v1 v2 v3 v4 v5 v6 v7 v8 v9 v10 v12 v13 v14 v15 v16 v17 v18 v19 v20 v21 v22 v23 v24 v26 v27 v29 v30 v31 v32 v33 v34 v35 v36 v37 v38 : Value)
    (hn : n ≤ 4096) (hr : rr + kk = n)
    (hs : Fx arr v0 v1 v2 v3 v4 v5 v6 v7 v8 v9 v10 (.int .i64 n) v12 v13 v14 v15 v16 v17 v18 v19 v20 v21 v22 v23 v24 (.int .i64 kk) v26 v27 (.int .i64 rr) v29 v30 v31 v32 v33 v34 v35 v36 v37 v38)
    (HQ : Hid (∀ arr', Fx arr' v0 v1 v2 v3 v4 v5 v6 v7 v8 v9 v10 (.int .i64 n) v12 v13 v14 v15 v16 v17 v18 v19 v20 v21 v22 v23 v24 (.int .i64 kk) v26 v27 (.int .i64 rr) v29 v30 v31 v32 v33 v34 v35 v36 v37 v38 → K ⟨arr', []⟩ w)) :
    Code.wp Ybad.prog (nav [1, 1, 1, 1, 1, 1, 1, 1, 1, 1, 1, 1, 1, 1, 1, 1, 1, 1, 1, 1, 1, 1, 0] (Ybad.f4.body.getD .skip)) (Exit.then K (Qp Q R)) ⟨arr, []⟩ w := by
  refine hs.open (fun t => ?_)
  clear hs
  conv => arg 2; whnf
  have hr' : (rr : Int) + (kk : Int) = (n : Int) := by omega
  have hw : wrap64 ((rr : Int) + (kk : Int)) = (n : Int) := by rw [hr', wrap64_nat _ (by omega)]
  go_wp2
  refine HQ.out _ ?_
  exact (Fx.mk rfl rfl rfl rfl rfl rfl rfl rfl rfl rfl rfl rfl rfl rfl rfl rfl rfl rfl rfl rfl rfl rfl rfl rfl rfl rfl rfl rfl rfl rfl rfl rfl rfl rfl rfl rfl rfl rfl rfl rfl)

set_option maxRecDepth 100000 in
set_option maxHeartbeats 1000000 in
/-- the ticks -/
theorem st23 (n A D : Nat) (tb T : Nat → Nat) (arr : Array Value) (w : World) (K : Act → World → Prop) (Q : Exit → Act → World → Prop) (R : Ending → World → Prop) (v0 v1 v2 v3 v4 v5 v6 v7 v8 v9 v10 v14 v15 v16 v17 v18 v19 v20 v21 v22 v23 v24 v25 v26 v27 v28 v29 v30 v31 v32 v33 v34 v35 v36 v37 v38 : Value)
    (hn : n ≤ 4096) (hA : ∀ k, k < n → w.cell? ⟨A, k, none⟩ = some (.pointer (some ⟨tb k, 0, none⟩))) (hD : ∀ k, k < n → w.cell? ⟨D, k, none⟩ = some (.int .i64 (T k))) (hT : ∀ k, k < n → w.cell? ⟨tb k, 5, none⟩ = some (.int .i64 (T k)))
    (hs : Fx arr v0 v1 v2 v3 v4 v5 v6 v7 v8 v9 v10 (.int .i64 n) (.slice (some ⟨A, 0, none⟩) n n) (.slice (some ⟨D, 0, none⟩) n n) v14 v15 v16 v17 v18 v19 v20 v21 v22 v23 v24 v25 v26 v27 v28 v29 v30 v31 v32 v33 v34 v35 v36 v37 v38)
    (HQ : Hid (∀ arr' w' u38 u8, Fx arr' v0 v1 v2 v3 v4 v5 v6 v7 (u8) v9 v10 (.int .i64 n) (.slice (some ⟨A, 0, none⟩) n n) (.slice (some ⟨D, 0, none⟩) n n) v14 v15 v16 v17 v18 v19 v20 v21 v22 v23 v24 v25 v26 v27 v28 v29 v30 v31 v32 v33 v34 v35 v36 v37 (u38) → (∃ q, w' = w.drewN q) → K ⟨arr', []⟩ w')) :
    Code.wp Ybad.prog (nav [1, 1, 1, 1, 1, 1, 1, 1, 1, 1, 1, 1, 1, 1, 1, 1, 1, 1, 1, 1, 1, 1, 1, 0] (Ybad.f4.body.getD .skip)) (Exit.then K (Qp Q R)) ⟨arr, []⟩ w := by
  refine hs.open (fun t => ?_)
  clear hs
  conv => arg 2; whnf
  have HA : Hid (∀ k, k < n → w.cell? ⟨A, k, none⟩ = some (.pointer (some ⟨tb k, 0, none⟩))) := hA
  have HD : Hid (∀ k, k < n → w.cell? ⟨D, k, none⟩ = some (.int .i64 (T k))) := hD
  have HT : Hid (∀ k, k < n → w.cell? ⟨tb k, 5, none⟩ = some (.int .i64 (T k))) := hT
  clear hA hD hT
  go_wp2
  go_loopw [38] (fun i wr => ∃ k q : Nat, k ≤ n ∧ i = .int .i64 (k : Int) ∧ wr = w.drewN q) (fun i _ => (n - intOf i).toNat)
  case atStart => exact ⟨0, 0, by omega, rfl, rfl⟩
  case round =>
    obtain ⟨k, q, hk, rfl, hwr⟩ := hrel
    by_cases h : k < n
    · have h' : (k : Int) < (n : Int) := by omega
      have c1 : wr.cell? ⟨A, k, none⟩ = some (.pointer (some ⟨tb k, 0, none⟩)) := by rw [hwr]; exact HA.out k h
      have c2 : wr.cell? ⟨D, k, none⟩ = some (.int .i64 (T k)) := by rw [hwr]; exact HD.out k h
      have c3 : wr.cell? ⟨tb k, 5, none⟩ = some (.int .i64 (T k)) := by rw [hwr]; exact HT.out k h
      have HW : Hid (wr = w.drewN q) := hwr
      clear hwr
      generalize T k = tk at *
      generalize tb k = tt at *
      go_wp2
      go_quiet (fail)
      go_wp2
      go_roundw
      case rel => exact ⟨k + 1, q + nq, by omega, by go_num, by rw [HW.out, World.drewN_drewN]⟩
      case measure => simp [intOf]; omega
    · obtain rfl : k = n := by omega
      have HW : Hid (wr = w.drewN q) := hwr
      clear hwr
      go_wp2
      exact HQ.out _ _ _ _ (Fx.mk rfl rfl rfl rfl rfl rfl rfl rfl rfl rfl rfl rfl rfl rfl rfl rfl rfl rfl rfl rfl rfl rfl rfl rfl rfl rfl rfl rfl rfl rfl rfl rfl rfl rfl rfl rfl rfl rfl rfl rfl) ⟨q, HW.out⟩

set_option maxRecDepth 100000 in
set_option maxHeartbeats 400000 in
/-- return true -/
theorem st24 (arr : Array Value) (w : World) (R : Ending → World → Prop) (v0 v1 v2 v3 v4 v5 v6 v7 v8 v9 v10 v11 v12 v13 v14 v15 v16 v17 v18 v19 v20 v21 v22 v23 v24 v25 v26 v27 v28 v29 v30 v31 v32 v33 v34 v35 v36 v37 v38 : Value)
    (hs : Fx arr v0 v1 v2 v3 v4 v5 v6 v7 v8 v9 v10 v11 v12 v13 v14 v15 v16 v17 v18 v19 v20 v21 v22 v23 v24 v25 v26 v27 v28 v29 v30 v31 v32 v33 v34 v35 v36 v37 v38) (HQ : Hid (R (.returned (.bool true)) w)) :
    Code.wp Ybad.prog (nav [1, 1, 1, 1, 1, 1, 1, 1, 1, 1, 1, 1, 1, 1, 1, 1, 1, 1, 1, 1, 1, 1, 1, 1] (Ybad.f4.body.getD .skip)) (bodyPost Ybad.prog Ybad.f4 R) ⟨arr, []⟩ w := by
  refine hs.open (fun t => ?_)
  clear hs
  conv => arg 2; whnf
  go_wp2
  exact HQ.out

theorem c17 : nav [1, 1, 1, 1, 1, 1, 1, 1, 1, 1, 1, 1, 1, 1, 1, 1, 1, 0, 1] (Ybad.f4.body.getD .skip) = .block 6 (.loop (nav [1, 1, 1, 1, 1, 1, 1, 1, 1, 1, 1, 1, 1, 1, 1, 1, 1, 0, 1, 2, 2] (Ybad.f4.body.getD .skip))) := by kernel_rfl
set_option maxHeartbeats 1000000 in
/-- The list that expire handed back. -/
theorem l17 (S : Nat) (tb : Nat → Nat) (n : Nat) (T : Nat → Nat) (nx pv : Nat → Option Nat) (ps occ : Nat → Nat) (cur : Nat) (LL : Nat → Nat → List Nat) (A E mt : Nat) (got : List Nat) (arr : Array Value) (w : World) (K : Act → World → Prop) (Q : Exit → Act → World → Prop) (R : Ending → World → Prop) (v0 v1 v2 v3 v4 v5 v6 v7 v8 v9 v10 v13 v14 v15 v16 v17 v19 v20 v21 v22 v23 v27 v28 v29 v30 v31 v32 v33 v34 v35 v36 v37 v38 : Value)
    (hn : n ≤ 4096) (hm : Mem w S tb n T z0 nx pv ps occ cur LL) (ha : RowF w A 45 n (tsF tb n)) (hnx : Nxl nx got) (gd : got.Nodup) (gl : ∀ i, i ∈ got → i < n) (gt : ∀ i, i ∈ got → T i = mt)
    (et : ∀ i, i < n → ¬ tb i = E) (eA : ¬ A = E) (he : RowF w E 4 n (seenF []))
    (hs : Fx arr v0 v1 v2 v3 v4 v5 v6 v7 v8 v9 v10 (.int .i64 n) (.slice (some ⟨A, 0, none⟩) n n) v13 v14 v15 v16 v17 (.int .i64 mt) v19 v20 v21 v22 v23 (.slice (some ⟨E, 0, none⟩) n n) (.int .i64 ((0 : Nat) : Int)) (.pointer (pa tb got[0]?)) v27 v28 v29 v30 v31 v32 v33 v34 v35 v36 v37 v38)
    (HQ : ∀ arr' w' u26 u27, Fx arr' v0 v1 v2 v3 v4 v5 v6 v7 v8 v9 v10 (.int .i64 n) (.slice (some ⟨A, 0, none⟩) n n) v13 v14 v15 v16 v17 (.int .i64 mt) v19 v20 v21 v22 v23 (.slice (some ⟨E, 0, none⟩) n n) (.int .i64 got.length) (u26) (u27) v28 v29 v30 v31 v32 v33 v34 v35 v36 v37 v38 → RowF w' E 4 n (seenF got) → Chg w w' (fun k => k = E) → K ⟨arr', []⟩ w') :
    Code.wp Ybad.prog (nav [1, 1, 1, 1, 1, 1, 1, 1, 1, 1, 1, 1, 1, 1, 1, 1, 1, 0, 1] (Ybad.f4.body.getD .skip)) (Exit.then K (Qp Q R)) ⟨arr, []⟩ w := by
  rw [c17]
  refine loop_up got.length (fun j arr' w' => ∃ u27, Fx arr' v0 v1 v2 v3 v4 v5 v6 v7 v8 v9 v10 (.int .i64 n) (.slice (some ⟨A, 0, none⟩) n n) v13 v14 v15 v16 v17 (.int .i64 mt) v19 v20 v21 v22 v23 (.slice (some ⟨E, 0, none⟩) n n) (.int .i64 j) (.pointer (pa tb got[j]?)) (u27) v28 v29 v30 v31 v32 v33 v34 v35 v36 v37 v38 ∧ RowF w' E 4 n (seenF (got.take j)) ∧ Chg w w' (fun k => k = E)) (fun arr' w' => ∃ u26 u27, Fx arr' v0 v1 v2 v3 v4 v5 v6 v7 v8 v9 v10 (.int .i64 n) (.slice (some ⟨A, 0, none⟩) n n) v13 v14 v15 v16 v17 (.int .i64 mt) v19 v20 v21 v22 v23 (.slice (some ⟨E, 0, none⟩) n n) (.int .i64 got.length) (u26) (u27) v28 v29 v30 v31 v32 v33 v34 v35 v36 v37 v38 ∧ RowF w' E 4 n (seenF got) ∧ Chg w w' (fun k => k = E)) ⟨_, hs, by simpa using he, Chg.refl _ _⟩ ?_ ?_ ?_
  · rintro j arr1 w1 K1 Q1 hj ⟨u27, f1, r1, h1⟩ hK
    obtain ⟨i, hXj⟩ : ∃ i, got[j]? = some i := ⟨_, List.getElem?_eq_getElem hj⟩
    have hmem := List.mem_of_getElem? hXj
    have hi := gl i hmem
    have hle := len_lt got n gd gl
    have hni : i ∉ got.take j := by
      intro ht
      obtain ⟨k, hk, hk2⟩ := List.mem_take_iff_getElem.1 ht
      obtain ⟨hj1, hj2⟩ := List.getElem?_eq_some_iff.1 hXj
      have := (List.getElem_inj gd).1 (hk2.trans hj2.symm)
      omega
    have nE : ¬ (fun k => k = E) (tb i) := et i hi
    have rt := (hm.t i hi).chg h1 nE
    have c5 := (rt.cell (i := 5) (by omega)).trans (congrArg some (tm5 ..))
    have c6 := (rt.cell (i := 6) (by omega)).trans (congrArg some (tm6 ..))
    have c7 := (rt.cell (i := 7) (by omega)).trans (congrArg some (tm7 ..))
    rw [hnx j i hXj] at c7
    rw [gt i hmem] at c5
    have ra := ha.chg h1 eA
    have cA := (ra.cell hi).trans (congrArg some (ts_at tb n i hi))
    have cE := (r1.cell hi).trans (congrArg some (show seenF _ i = .bool false by unfold seenF; rw [decide_eq_false hni]))
    have e1 : pa tb (some i) = some ⟨tb i, 0, none⟩ := rfl
    rw [hXj, e1] at f1
    refine r17s n A E (tb i) i j mt _ arr1 w1 _ _ _ _ _ _ _ _ _ _ _ _ _ _ _ _ _ _ _ _ _ _ _ _ _ _ _ _ _ _ _ _ _ _ _ _ hn hi (by omega) c5 c6 c7 cA cE (r1.free i) nE (fun e => nE e.symm) f1 (fun arr2 x27 f2 => ?_)
    refine hK _ _ ⟨_, f2, ?_, (h1.setCell (.inl rfl) _)⟩
    have := r1.set i (.bool true)
    rw [seenF_upd] at this
    rw [List.take_add_one, hXj]
    exact this
  · rintro arr1 w1 K1 Q1 ⟨u27, f1, r1, h1⟩ hX
    have e : got[got.length]? = none := by simp
    rw [e] at f1
    rw [List.take_length] at r1
    exact r17x  arr1 w1 _ _ _ _ _ _ _ _ _ _ _ _ _ _ _ _ _ _ _ _ _ _ _ _ _ _ _ _ _ _ _ _ _ _ _ _ _ _ _ _ _ f1 (fun arr2 f2 => hX _ _ ⟨_, _, f2, r1, h1⟩)
  · rintro arr1 w1 ⟨u26, u27, f1, r1, h1⟩
    exact HQ _ _ _ _ f1 r1 h1

end Go.Proofs.YbulkdgzaDoor
