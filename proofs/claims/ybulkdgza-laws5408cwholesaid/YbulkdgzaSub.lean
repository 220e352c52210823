/-
  time.Time.Sub (26), of a time and the zero time.
-/
import Derived.Test.YbulkdgzaTime
namespace Go.Proofs.Ybulkdgza
open Go.RowKit B
set_option linter.unusedVariables false
set_option linter.unusedSimpArgs false

theorem sub_arith (off n s : Nat) (ho : off < 9223372036854775808) (hnd : off % 1000000000 = n) (hsd : off / 1000000000 = s) :
    (s : Int) * 1000000000 + (n : Int) = (off : Int) ∧ wrap64 ((s : Int) * 1000000000) = (s : Int) * 1000000000 ∧ wrap64 (off : Int) = (off : Int) ∧ wrap32 (n : Int) = (n : Int) := by
  have h1 : n < 1000000000 := by rw [← hnd]; exact Nat.mod_lt _ (by omega)
  have h2 : s * 1000000000 + n = off := by rw [← hnd, ← hsd]; exact Nat.div_add_mod' off 1000000000
  have h3 : ((s * 1000000000 : Nat) : Int) = (s : Int) * 1000000000 := by simp
  refine ⟨by rw [← h2]; simp, ?_, wrap64_nat off ho, by unfold wrap32; omega⟩
  rw [← h3]
  exact wrap64_nat _ (by omega)

set_option maxRecDepth 100000 in
set_option maxHeartbeats 400000 in
theorem sub_core (off n s : Nat) (w : World) (Kp : World → Prop) (hn : n < 1000000000) (e4 : (s : Int) * 1000000000 + (n : Int) = (off : Int)) (e5 : wrap64 ((s : Int) * 1000000000) = (s : Int) * 1000000000) (e6 : wrap64 (off : Int) = (off : Int)) (e7 : wrap32 (n : Int) = (n : Int)) (e8 : wrap64 (s : Int) = (s : Int))
    (hk : Kp ((w.alloc (.cells #[.int .u64 n, .int .i64 s, .pointer none] 28)).alloc (.cells #[.int .u64 0, .int .i64 0, .pointer none] 28))) (kd : ∀ W, Kp W → Kp W.drew)
    (HA : Hid (∀ (b1 b2 : Nat) (W : World), (W.cell? ⟨b1, 0, none⟩ = some (.int .u64 n) ∧ W.cell? ⟨b1, 1, none⟩ = some (.int .i64 s) ∧ W.cell? ⟨b1, 2, none⟩ = some (.pointer none) ∧ W.cell? ⟨b2, 0, none⟩ = some (.int .u64 0) ∧ W.cell? ⟨b2, 1, none⟩ = some (.int .i64 0) ∧ W.cell? ⟨b2, 2, none⟩ = some (.pointer none) ∧ Kp W) → Calls Yba.prog 5 #[.agg #[.int .u64 0, .int .i64 0, .pointer none], .int .i64 off] W (fun e W' => e = .returned (.agg #[.int .u64 n, .int .i64 s, .pointer none]) ∧ (W'.cell? ⟨b1, 0, none⟩ = some (.int .u64 n) ∧ W'.cell? ⟨b1, 1, none⟩ = some (.int .i64 s) ∧ W'.cell? ⟨b1, 2, none⟩ = some (.pointer none) ∧ W'.cell? ⟨b2, 0, none⟩ = some (.int .u64 0) ∧ W'.cell? ⟨b2, 1, none⟩ = some (.int .i64 0) ∧ W'.cell? ⟨b2, 2, none⟩ = some (.pointer none) ∧ Kp W'))))
    (HE : Hid (∀ (b1 b2 : Nat) (W : World), (W.cell? ⟨b1, 0, none⟩ = some (.int .u64 n) ∧ W.cell? ⟨b1, 1, none⟩ = some (.int .i64 s) ∧ W.cell? ⟨b1, 2, none⟩ = some (.pointer none) ∧ W.cell? ⟨b2, 0, none⟩ = some (.int .u64 0) ∧ W.cell? ⟨b2, 1, none⟩ = some (.int .i64 0) ∧ W.cell? ⟨b2, 2, none⟩ = some (.pointer none) ∧ Kp W) → Calls Yba.prog 40 #[.agg #[.int .u64 n, .int .i64 s, .pointer none], .agg #[.int .u64 n, .int .i64 s, .pointer none]] W (fun e W' => e = .returned (.bool true) ∧ (W'.cell? ⟨b1, 0, none⟩ = some (.int .u64 n) ∧ W'.cell? ⟨b1, 1, none⟩ = some (.int .i64 s) ∧ W'.cell? ⟨b1, 2, none⟩ = some (.pointer none) ∧ W'.cell? ⟨b2, 0, none⟩ = some (.int .u64 0) ∧ W'.cell? ⟨b2, 1, none⟩ = some (.int .i64 0) ∧ W'.cell? ⟨b2, 2, none⟩ = some (.pointer none) ∧ Kp W')))) :
    Calls Yba.prog 26 #[.agg #[.int .u64 n, .int .i64 s, .pointer none], .agg #[.int .u64 0, .int .i64 0, .pointer none]] w fun e w' => e = .returned (.int .i64 off) ∧ Kp w' := by
  have e0 : bits .and .u64 (n : Int) 0 = 0 := by
    have := u64_and_nat n 0 (by omega) (by omega)
    rw [Nat.and_zero] at this; exact this
  have e00 : bits .and .u64 0 9223372036854775808 = 0 := by decide
  have HS1 : Hid (∀ W : World, W.cell? ⟨w.heap.size, 0, none⟩ = some (.int .u64 n) → W.cell? ⟨w.heap.size, 1, none⟩ = some (.int .i64 s) → Calls Yba.prog 20 #[.pointer (some ⟨w.heap.size, 0, none⟩)] W fun e w' => e = .returned (.int .i64 s) ∧ w' = W) := fun W h0 h1 => sec_any _ n s W hn h0 h1
  have HS2 : Hid (∀ W : World, W.cell? ⟨w.heap.size + 1, 0, none⟩ = some (.int .u64 0) → W.cell? ⟨w.heap.size + 1, 1, none⟩ = some (.int .i64 0) → Calls Yba.prog 20 #[.pointer (some ⟨w.heap.size + 1, 0, none⟩)] W fun e w' => e = .returned (.int .i64 0) ∧ w' = W) := fun W h0 h1 => sec_any _ 0 0 W (by omega) h0 h1
  have HN1 : Hid (∀ W : World, W.cell? ⟨w.heap.size, 0, none⟩ = some (.int .u64 n) → Calls Yba.prog 11 #[.pointer (some ⟨w.heap.size, 0, none⟩)] W fun e w' => e = .returned (.int .i32 n) ∧ w' = W) := fun W h0 => nsec_any _ n W hn h0
  have HN2 : Hid (∀ W : World, W.cell? ⟨w.heap.size + 1, 0, none⟩ = some (.int .u64 0) → Calls Yba.prog 11 #[.pointer (some ⟨w.heap.size + 1, 0, none⟩)] W fun e w' => e = .returned (.int .i32 0) ∧ w' = W) := fun W h0 => nsec_any _ 0 W (by omega) h0
  have HK : Hid (Kp ((w.alloc (.cells #[.int .u64 n, .int .i64 s, .pointer none] 28)).alloc (.cells #[.int .u64 0, .int .i64 0, .pointer none] 28))) := hk
  have HD : Hid (∀ W, Kp W → Kp W.drew) := kd
  clear hk kd
  go_enter Yba.func26, Yba.ntmps26
  go_wp2_with fail
  refine Calls.mono (HS1.out _ (by simp) (by simp)) ?_
  rintro e w1 ⟨rfl, rfl⟩
  go_wp2_with fail
  refine Calls.mono (HS2.out _ (by simp) (by simp)) ?_
  rintro e w1 ⟨rfl, rfl⟩
  go_wp2_with fail
  refine Calls.mono (HN1.out _ (by simp)) ?_
  rintro e w1 ⟨rfl, rfl⟩
  go_wp2_with fail
  refine Calls.mono (HN2.out _ (by simp)) ?_
  rintro e w1 ⟨rfl, rfl⟩
  clear HN1 HN2 HS1 HS2 e00 e0
  go_wp2_with fail
  have k0 : ((w.alloc (.cells #[.int .u64 n, .int .i64 s, .pointer none] 28)).alloc (.cells #[.int .u64 0, .int .i64 0, .pointer none] 28)).cell? ⟨w.heap.size, 0, none⟩ = some (.int .u64 n) := by simp
  have k1 : ((w.alloc (.cells #[.int .u64 n, .int .i64 s, .pointer none] 28)).alloc (.cells #[.int .u64 0, .int .i64 0, .pointer none] 28)).cell? ⟨w.heap.size, 1, none⟩ = some (.int .i64 s) := by simp
  have k2 : ((w.alloc (.cells #[.int .u64 n, .int .i64 s, .pointer none] 28)).alloc (.cells #[.int .u64 0, .int .i64 0, .pointer none] 28)).cell? ⟨w.heap.size, 2, none⟩ = some (.pointer none) := by simp
  have k3 : ((w.alloc (.cells #[.int .u64 n, .int .i64 s, .pointer none] 28)).alloc (.cells #[.int .u64 0, .int .i64 0, .pointer none] 28)).cell? ⟨w.heap.size + 1, 0, none⟩ = some (.int .u64 0) := by simp
  have k4 : ((w.alloc (.cells #[.int .u64 n, .int .i64 s, .pointer none] 28)).alloc (.cells #[.int .u64 0, .int .i64 0, .pointer none] 28)).cell? ⟨w.heap.size + 1, 1, none⟩ = some (.int .i64 0) := by simp
  have k5 : ((w.alloc (.cells #[.int .u64 n, .int .i64 s, .pointer none] 28)).alloc (.cells #[.int .u64 0, .int .i64 0, .pointer none] 28)).cell? ⟨w.heap.size + 1, 2, none⟩ = some (.pointer none) := by simp
  have k6 := HK.out
  have k7 := HD.out
  rw [e6]
  clear e4 e5 e6 e7 e8 hn HK HD
  generalize ((w.alloc (.cells #[.int .u64 n, .int .i64 s, .pointer none] 28)).alloc (.cells #[.int .u64 0, .int .i64 0, .pointer none] 28)) = w1 at *
  generalize w.heap.size + 1 = g2 at *
  generalize w.heap.size = g at *
  go_region_held3 (fun W => W.cell? ⟨g, 0, none⟩ = some (.int .u64 n) ∧ W.cell? ⟨g, 1, none⟩ = some (.int .i64 s) ∧ W.cell? ⟨g, 2, none⟩ = some (.pointer none) ∧ W.cell? ⟨g2, 0, none⟩ = some (.int .u64 0) ∧ W.cell? ⟨g2, 1, none⟩ = some (.int .i64 0) ∧ W.cell? ⟨g2, 2, none⟩ = some (.pointer none) ∧ Kp W) (first | exact ⟨k0, k1, k2, k3, k4, k5, k7 _ k6⟩ | assumption) (first | (go_at_call 5; refine Calls.mono (HA.out _ _ _ (by assumption)) ?_; rintro e W1 ⟨rfl, d1⟩) | (go_at_call 40; refine Calls.mono (HE.out _ _ _ (by assumption)) ?_; rintro e W1 ⟨rfl, d1⟩))
  rename_i d1
  have HZ : Hid (Kp _) := d1.2.2.2.2.2.2
  clear d1 k0 k1 k2 k3 k4 k5 k6 k7 HA HE
  go_wp2
  go_ret
  exact ⟨rfl, HZ.out⟩

theorem sub_zero (off n s : Nat) (w : World) (ho : off < 9223372036854775808) (hnd : off % 1000000000 = n) (hsd : off / 1000000000 = s) :
    Calls Yba.prog 26 #[.agg #[.int .u64 n, .int .i64 s, .pointer none], .agg #[.int .u64 0, .int .i64 0, .pointer none]] w fun e w' => e = .returned (.int .i64 off) ∧ Chg w w' (fun _ => False) := by
  have hn : n < 1000000000 := by rw [← hnd]; exact Nat.mod_lt _ (by decide)
  obtain ⟨e4, e5, e6, e7⟩ := sub_arith off n s ho hnd hsd
  have e8 : wrap64 (s : Int) = (s : Int) := wrap64_nat s (by rw [← hsd]; exact Nat.lt_of_le_of_lt (Nat.div_le_self _ _) ho)
  refine sub_core off n s w (fun W => Chg w W (fun _ => False)) hn e4 e5 e6 e7 e8 (((Chg.refl _ _).alloc _).alloc _) (fun W h => h.drew) ?_ ?_
  · rintro b1 b2 W ⟨h0, h1, h2, h3, h4, h5, h6⟩
    refine (add_zero off W ho).mono ?_
    rintro e W' ⟨he, hc⟩
    have mv : ∀ {bl of : Nat} {v : Value}, W.cell? ⟨bl, of, none⟩ = some v → W'.cell? ⟨bl, of, none⟩ = some v := fun h => (hc.cell (World.block_lt_of_cell? _ _ h) (fun h => h)).trans h
    rw [hnd, hsd] at he
    exact ⟨he, mv h0, mv h1, mv h2, mv h3, mv h4, mv h5, h6.trans hc⟩
  · rintro b1 b2 W ⟨h0, h1, h2, h3, h4, h5, h6⟩
    refine (equal_time n s W hn).mono ?_
    rintro e W' ⟨he, hc⟩
    have mv : ∀ {bl of : Nat} {v : Value}, W.cell? ⟨bl, of, none⟩ = some v → W'.cell? ⟨bl, of, none⟩ = some v := fun h => (hc.cell (World.block_lt_of_cell? _ _ h) (fun h => h)).trans h
    exact ⟨he, mv h0, mv h1, mv h2, mv h3, mv h4, mv h5, h6.trans hc⟩
end Go.Proofs.Ybulkdgza
