/-
  LawS5409AWhole: its contract.
-/
import Derived.Test.YbulkdgzoS4
namespace Go.Proofs.Ybulkdgzo
open Go.RowKit
set_option linter.unusedVariables false
set_option linter.unusedSimpArgs false
theorem f3_body : Yba.f3.body = some (Yba.f3.body.getD .skip) := by kernel_rfl
theorem c0on : (Yba.f3.body.getD .skip) = (.seq (nav [0] (Yba.f3.body.getD .skip)) (.seq (nav [1, 0] (Yba.f3.body.getD .skip)) (.seq (.seq (nav [1, 1, 0, 0] (Yba.f3.body.getD .skip)) (nav [1, 1, 0, 1] (Yba.f3.body.getD .skip))) (.seq (nav [1, 1, 1, 0] (Yba.f3.body.getD .skip)) (.seq (nav [1, 1, 1, 1, 0] (Yba.f3.body.getD .skip)) (.seq (.seq (nav [1, 1, 1, 1, 1, 0, 0] (Yba.f3.body.getD .skip)) (nav [1, 1, 1, 1, 1, 0, 1] (Yba.f3.body.getD .skip))) (.seq (nav [1, 1, 1, 1, 1, 1, 0] (Yba.f3.body.getD .skip)) (.seq (.seq (nav [1, 1, 1, 1, 1, 1, 1, 0, 0] (Yba.f3.body.getD .skip)) (nav [1, 1, 1, 1, 1, 1, 1, 0, 1] (Yba.f3.body.getD .skip))) (.seq (nav [1, 1, 1, 1, 1, 1, 1, 1, 0] (Yba.f3.body.getD .skip)) (.seq (nav [1, 1, 1, 1, 1, 1, 1, 1, 1, 0] (Yba.f3.body.getD .skip)) (.seq (nav [1, 1, 1, 1, 1, 1, 1, 1, 1, 1, 0] (Yba.f3.body.getD .skip)) (.seq (.seq (nav [1, 1, 1, 1, 1, 1, 1, 1, 1, 1, 1, 0, 0] (Yba.f3.body.getD .skip)) (nav [1, 1, 1, 1, 1, 1, 1, 1, 1, 1, 1, 0, 1] (Yba.f3.body.getD .skip))) (nav [1, 1, 1, 1, 1, 1, 1, 1, 1, 1, 1, 1] (Yba.f3.body.getD .skip)))))))))))))) := by kernel_rfl
set_option maxRecDepth 100000 in
theorem f3_enter (a : Value) : Fx (#[a] ++ Array.replicate (Yba.f3.ntmps - #[a].size) undef) a undef undef undef undef undef undef undef undef undef undef undef := by
  rw [Yba.ntmps3]; exact Fx.mk (by kernel_rfl) (by kernel_rfl) (by kernel_rfl) (by kernel_rfl) (by kernel_rfl) (by kernel_rfl) (by kernel_rfl) (by kernel_rfl) (by kernel_rfl) (by kernel_rfl) (by kernel_rfl) (by kernel_rfl) (by kernel_rfl)

theorem Chg.fresh' {w w1 w2 : World} {vb : Nat} (h : Chg w w1 (fun _ => False)) (k : Chg w1 w2 (fun j => j = vb)) (hv : w.heap.size ≤ vb) : Chg w w2 (fun _ => False) :=
  Chg.fresh h k (fun j hj e => by have e' : j = vb := e; omega)

set_option maxHeartbeats 2000000 in
theorem main (ao : Option Addr) (n cp : Nat) (U : Nat → Lv) (w : World) (hn : n ≤ 1048576) (ht : tot U n ≤ 1048576) (hL : 0 < n → ∃ b o, ao = some ⟨b, o, none⟩ ∧ Lvs w w.heap.size b o n U) :
    Calls Yba.prog 3 #[.slice ao n cp] w fun e w' => e = .returned (.bool true) ∧ Chg w w' (fun _ => False) := by
  have hbig : ∀ i, i < n → (U i).n ≤ 1048576 := fun i hi => by
    have := tot_mono U n (i + 1) (by omega)
    have e : tot U (i + 1) = tot U i + (U i).n := rfl
    omega
  refine calls_of_wp Yba.func3 f3_body ?_
  rw [c0on]
  have f0 := f3_enter (.slice ao n cp)
  generalize hA : (#[Value.slice ao n cp] ++ Array.replicate (Yba.f3.ntmps - #[Value.slice ao n cp].size) undef) = arr0 at f0 ⊢
  clear hA
  refine seq_B (st0  arr0 w _ _ _ _ _ _ _ _ _ _ _ _ _ _ _ f0 (fun arr1 f1 => ?_))
  refine seq_B (st1  arr1 w _ _ _ _ _ _ _ _ _ _ _ _ _ _ _ f1 (fun arr2 f2 => ?_))
  refine seq_B (seq_Qp (r2i  arr2 w _ _ _ _ _ _ _ _ _ _ _ _ _ _ _ f2 (fun arr3 f3 => ?_)))
  refine l2 ao cp n w.heap.size U arr3 w _ _ _ _ _ _ _ _ _ _ _ _ hn hL ht f3 (fun arr4 f4 => ?_)
  refine seq_B (st3 ao n cp arr4 w _ _ _ _ _ _ _ _ _ _ _ _ _ _ hn f4 (fun arr5 f5 => ?_))
  refine seq_B (st4 ao n cp arr5 w _ _ _ _ _ _ _ _ _ _ _ _ _ _ hn f5 (fun arr6 f6 => ?_))
  have hmz := made_size n
  have cV : Chg w (w.alloc (.cells (madeCells #[.pointer none, .pointer none] (n * 2)) 49)) (fun _ => False) := (Chg.refl _ _).alloc _
  have rV : Row2 (w.alloc (.cells (madeCells #[.pointer none, .pointer none] (n * 2)) 49)) w.heap.size n 0 [] := ⟨madeCells #[.pointer none, .pointer none] (n * 2), by show (w.heap.push _)[w.heap.size]? = _; simp, hmz, by simp⟩
  generalize (w.alloc (.cells (madeCells #[.pointer none, .pointer none] (n * 2)) 49)) = w1 at cV rV ⊢
  have hL1 : 0 < n → ∃ b o, ao = some ⟨b, o, none⟩ ∧ Lvs w1 w.heap.size b o n U := fun h0 => by
    obtain ⟨b, o, e, h⟩ := hL h0
    exact ⟨b, o, e, h.chg (Nat.le_refl _) cV (fun j hj h => h)⟩
  refine seq_B (seq_Qp (r5i  arr6 w1 _ _ _ _ _ _ _ _ _ _ _ _ _ _ _ f6 (fun arr7 f7 => ?_)))
  refine l5 ao cp w.heap.size n U arr7 w1 _ _ _ _ _ _ _ _ _ _ _ _ hn hL1 rV.lt hbig rV f7 (fun arr8 w8 x7 f8 g8 => ?_)
  obtain ⟨X, qb, ga, gc, hv⟩ := g8
  have hL2 : 0 < n → ∃ b o, ao = some ⟨b, o, none⟩ ∧ Lvs w8 w.heap.size b o n U := fun h0 => by
    obtain ⟨b, o, e, h⟩ := hL1 h0
    exact ⟨b, o, e, h.chg (Nat.le_of_lt rV.lt) hv.chg (fun j hj e => by have e' : j = w.heap.size := e; omega)⟩
  refine seq_B (st6  arr8 w8 _ _ _ _ _ _ _ _ _ _ _ _ _ _ _ f8 (fun arr9 f9 => ?_))
  refine seq_B (seq_Qp (r7i ao n cp arr9 w8 _ _ _ _ _ _ _ _ _ _ _ _ _ _ hn f9 (fun arr10 f10 => ?_)))
  refine l7 ao cp n w.heap.size U arr10 w8 _ _ _ _ _ _ _ _ _ _ _ _ hn hL2 f10 (fun arr11 x9 f11 => ?_)
  rw [sum_both] at f11
  obtain ⟨r1, r2, r3⟩ := hv.row.rowAt
  have hcell : ∀ m u, (vc X qb n)[m]? = some u → w8.cell? ⟨w.heap.size, m, none⟩ = some u := fun m u hu => by
    have hm : m < n * 2 := by have := (List.getElem?_eq_some_iff.1 hu).1; rwa [vc_len] at this
    rw [cell_of_row _ _ _ _ _ _ r1, ← Array.getElem?_toList]
    rw [← r3, List.getElem?_take, if_pos hm] at hu
    exact hu
  have d0 : ∀ i, i < n → w8.cell? ⟨w.heap.size, i * 2, none⟩ = some (.pointer (X i)) := fun i hi => hcell _ _ (vc_at X qb n i hi).1
  have d1 : ∀ i, i < n → w8.cell? ⟨w.heap.size, i * 2 + 1, none⟩ = some (.pointer (some ⟨qb i, 0, none⟩)) := fun i hi => hcell _ _ (vc_at X qb n i hi).2
  have hdeq := deq_any w.heap.size n n X qb (fun i => (U i).dq) w8 hn d0 d1 (fun i hi => (hv.q i hi).2.2)
  refine seq_B (st8 w.heap.size n n _ (fun w12 => Chg w8 w12 (fun _ => False)) arr11 w8 _ _ _ _ _ _ _ _ _ _ _ _ _ _ hdeq f11 (fun arr12 w12 f12 g12 => ?_))
  refine seq_B (st9 _ arr12 w12 _ _ _ _ _ _ _ _ _ _ _ _ _ f12 (fun arr13 f13 => ?_))
  refine seq_B (st10 ao _ n cp n arr13 w12 _ _ _ _ _ _ _ _ _ _ _ _ _ f13 (fun arr14 f14 => ?_))
  have hL3 : 0 < n → ∃ b o, ao = some ⟨b, o, none⟩ ∧ Lvs w12 w.heap.size b o n U := fun h0 => by
    obtain ⟨b, o, e, h⟩ := hL2 h0
    exact ⟨b, o, e, h.chg (Nat.le_of_lt hv.row.lt) g12 (fun j hj h => h)⟩
  have mv : ∀ {bl of : Nat} {v : Value}, w8.cell? ⟨bl, of, none⟩ = some v → w12.cell? ⟨bl, of, none⟩ = some v := fun h => (g12.cell (World.block_lt_of_cell? _ _ h) (fun h => h)).trans h
  refine seq_B (seq_Qp (r11i  arr14 w12 _ _ _ _ _ _ _ _ _ _ _ _ _ _ _ f14 (fun arr15 f15 => ?_)))
  refine l11 ao cp w.heap.size n w.heap.size U X qb ga gc arr15 w12 _ _ _ _ _ _ _ _ _ _ _ _ hn hL3 hbig (fun i hi => mv (d0 i hi)) (fun i hi => mv (d1 i hi)) (fun i hi => ⟨mv (hv.q i hi).2.1, mv (hv.q i hi).2.2⟩) (fun i hi h0 => by obtain ⟨g, e, _, h⟩ := hv.it i hi h0; exact ⟨g, e, fun j hj => mv (h j hj)⟩) hv.x f15 ?_
  · intro arr16 w16 f16 g16
    obtain ⟨q, rfl⟩ := g16
    refine st12 arr16 _ _ _ _ _ _ _ _ _ _ _ _ _ _ f16 ?_
    exact ⟨rfl, (Chg.fresh' cV hv.chg (Nat.le_refl _)).trans (g12.drewN q)⟩

theorem tot_up (U : Nat → Lv) (k : Nat) : tot U (k + 1) = tot U k + (U k).n := rfl

set_option maxHeartbeats 1000000 in
/-- The lengths go beyond 1<<20: true at once. -/
theorem main_over (b o n cp K : Nat) (U : Nat → Lv) (w : World) (hn : n ≤ 9223372036854775807) (hK : K < n) (hc : ∀ i, i < n → w.cell? ⟨b, o + i * 3 + 2, none⟩ = some (.slice (U i).a (U i).n (U i).cap)) (hb : ∀ i, i < n → (U i).n ≤ 1125899906842624)
    (h1 : tot U K ≤ 1048576) (h2 : ¬ tot U (K + 1) ≤ 1048576) :
    Calls Yba.prog 3 #[.slice (some ⟨b, o, none⟩) n cp] w fun e w' => e = .returned (.bool true) ∧ w' = w := by
  have HC : Hid (∀ i, i < n → w.cell? ⟨b, o + i * 3 + 2, none⟩ = some (.slice (U i).a (U i).n (U i).cap)) := hc
  have HB : Hid (∀ i, i < n → (U i).n ≤ 1125899906842624) := hb
  have H1 : Hid (tot U K ≤ 1048576 ∧ ¬ tot U (K + 1) ≤ 1048576) := ⟨h1, h2⟩
  clear hc hb h1 h2
  go_enter Yba.func3, Yba.ntmps3
  go_wp2
  go_loopw [3, 4] (fun t i wr => ∃ k : Nat, k ≤ K ∧ t = .int .i64 (tot U k : Int) ∧ i = .int .i64 (k : Int) ∧ wr = w) (fun _ i _ => (n - intOf i).toNat)
  case atStart => exact ⟨0, by omega, rfl, rfl, rfl⟩
  case round =>
    obtain ⟨k, hk, rfl, rfl, rfl⟩ := hrel
    have h' : (k : Int) < (n : Int) := by omega
    have hcell := HC.out k (by omega)
    have hbk := HB.out k (by omega)
    have htk := tot_mono U K k hk
    have h1K := H1.out.1
    have e := tot_up U k
    by_cases h : k = K
    · subst h
      have h2K := H1.out.2
      rw [e] at h2K
      clear e htk
      generalize tot U k = t at *
      generalize (U k).n = m at *
      have hgt : (1048576 : Int) < (t : Int) + (m : Int) := by omega
      clear h2K
      go_wp2
      go_ret
      exact ⟨rfl, rfl⟩
    · have hle := tot_mono U K (k + 1) (by omega)
      have A : Hid (tot U (k + 1) = tot U k + (U k).n) := e
      rw [e] at hle
      have hle2 : tot U k + (U k).n ≤ 1048576 := by omega
      clear e hle htk h1K
      generalize tot U k = t at *
      generalize (U k).n = m at *
      have hgt : (t : Int) + (m : Int) ≤ 1048576 := by omega
      clear hle2
      go_wp2
      go_roundw
      case rel => exact ⟨k + 1, by omega, by rw [A.out]; go_num, by go_num, by first | rfl | trivial⟩
      case measure => simp [intOf]; omega

set_option maxHeartbeats 1000000 in
/-- More than 1<<20 levels: true. -/
theorem main_many (b o n cp : Nat) (U : Nat → Lv) (w : World) (hn : n ≤ 9223372036854775807) (hm : 1048576 < n) (hc : ∀ i, i < n → w.cell? ⟨b, o + i * 3 + 2, none⟩ = some (.slice (U i).a (U i).n (U i).cap)) (h1 : tot U n ≤ 1048576) :
    Calls Yba.prog 3 #[.slice (some ⟨b, o, none⟩) n cp] w fun e w' => e = .returned (.bool true) ∧ w' = w := by
  have HC : Hid (∀ i, i < n → w.cell? ⟨b, o + i * 3 + 2, none⟩ = some (.slice (U i).a (U i).n (U i).cap)) := hc
  have H1 : Hid (tot U n ≤ 1048576) := h1
  have hm' : (1048576 : Int) < (n : Int) := by omega
  clear hc h1
  go_enter Yba.func3, Yba.ntmps3
  go_wp2
  go_loopw [3, 4] (fun t i wr => ∃ k : Nat, k ≤ n ∧ t = .int .i64 (tot U k : Int) ∧ i = .int .i64 (k : Int) ∧ wr = w) (fun _ i _ => (n - intOf i).toNat)
  case atStart => exact ⟨0, by omega, rfl, rfl, rfl⟩
  case round =>
    obtain ⟨k, hk, rfl, rfl, rfl⟩ := hrel
    by_cases h : k < n
    · have h' : (k : Int) < (n : Int) := by omega
      have hcell := HC.out k h
      have e := tot_up U k
      have hle := tot_mono U n (k + 1) (by omega)
      have h1n := H1.out
      have A : Hid (tot U (k + 1) = tot U k + (U k).n) := e
      rw [e] at hle
      have hle2 : tot U k + (U k).n ≤ 1048576 := by omega
      clear e hle h1n
      generalize tot U k = t at *
      generalize (U k).n = m at *
      have hgt : (t : Int) + (m : Int) ≤ 1048576 := by omega
      clear hle2
      go_wp2
      go_roundw
      case rel => exact ⟨k + 1, by omega, by rw [A.out]; go_num, by go_num, by first | rfl | trivial⟩
      case measure => simp [intOf]; omega
    · obtain rfl : k = n := by omega
      generalize tot U k = t at *
      go_wp2
      go_ret
      exact ⟨rfl, rfl⟩

end Go.Proofs.Ybulkdgzo
