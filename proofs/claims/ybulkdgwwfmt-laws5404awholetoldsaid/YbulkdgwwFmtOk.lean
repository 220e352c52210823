/-
  zzs5404aok (function 5): it answers okL.
-/
import Derived.Test.YbulkdgwwFmtErr
import Derived.Test.YbulkdgwwFmtPlain
namespace Go.Proofs.YbulkdgwwFmt
open Go.RowKit Go.Extern.Stop Go.Stop Go.Extern

theorem ret_bool {a b : Bool} (h : a = b) : Ending.returned (.bool a) = .returned (.bool b) := by rw [h]

set_option maxHeartbeats 1600000 in
theorem zz_any (s : ByteArray) (w : World) :
    Calls Ybaf.prog 5 #[.string s] w fun e w' => e = .returned (.bool (okL s)) ∧ w' = w := by
  by_cases h1 : s.size < 1
  · have h1' : (s.size : Int) < 1 := by omega
    have H : Hid (okL s = false) := ok_short s h1
    go_enter Ybaf.func5, Ybaf.ntmps5
    go_wp2
    go_ret
    exact ⟨ret_bool H.out.symm, rfl⟩
  by_cases h2 : 128 < s.size
  · have h2' : (128 : Int) < s.size := by omega
    have h1' : ¬ (s.size : Int) < 1 := by omega
    have H : Hid (okL s = false) := ok_long s h2
    go_enter Ybaf.func5, Ybaf.ntmps5
    go_wp2
    go_ret
    exact ⟨ret_bool H.out.symm, rfl⟩
  have h2' : ¬ (128 : Int) < s.size := by omega
  have h1' : ¬ (s.size : Int) < 1 := by omega
  have h0 : 0 < s.size := by omega
  by_cases h3 : s[0].toNat = 46
  · have h3' : ((s[0].toNat : Int) == 46) = true := by simp [h3]
    have H : Hid (okL s = false) := ok_dot s h0 h3
    clear h3
    go_enter Ybaf.func5, Ybaf.ntmps5
    go_wp2
    go_ret
    exact ⟨ret_bool H.out.symm, rfl⟩
  have h3' : ((s[0].toNat : Int) == 46) = false := by simp; omega
  go_enter Ybaf.func5, Ybaf.ntmps5
  go_wp2
  go_loop [3] (fun i => ∃ k : Nat, k ≤ s.size ∧ i = .int .i64 k ∧ Hid (∀ j, j < k → goodN s[j]!.toNat = true)) (fun i => s.size - (intOf i).toNat)
  case atStart => exact ⟨0, Nat.zero_le _, rfl, fun j hj => by omega⟩
  case round =>
    obtain ⟨k, hk, rfl, hall⟩ := hrel
    by_cases hlt : k < s.size
    · rcases twelve s[k].toNat with hc | hc
      · have hg : Hid (∀ j, j < k + 1 → goodN s[j]!.toNat = true) := good_step s k hlt hall.out (good_yes _ hc)
        rcases hc with hc | hc | hc | hc | hc | hc
        all_goals
          obtain ⟨hc1, hc2⟩ := hc
          first | have d97 : decide ((97 : Int) ≤ (s[k].toNat : Int)) = true := decide_eq_true (by omega) | have d97 : decide ((97 : Int) ≤ (s[k].toNat : Int)) = false := decide_eq_false (by omega)
          first | have d122 : decide ((s[k].toNat : Int) ≤ 122) = true := decide_eq_true (by omega) | have d122 : decide ((s[k].toNat : Int) ≤ 122) = false := decide_eq_false (by omega)
          first | have d65 : decide ((65 : Int) ≤ (s[k].toNat : Int)) = true := decide_eq_true (by omega) | have d65 : decide ((65 : Int) ≤ (s[k].toNat : Int)) = false := decide_eq_false (by omega)
          first | have d90 : decide ((s[k].toNat : Int) ≤ 90) = true := decide_eq_true (by omega) | have d90 : decide ((s[k].toNat : Int) ≤ 90) = false := decide_eq_false (by omega)
          first | have d48 : decide ((48 : Int) ≤ (s[k].toNat : Int)) = true := decide_eq_true (by omega) | have d48 : decide ((48 : Int) ≤ (s[k].toNat : Int)) = false := decide_eq_false (by omega)
          first | have d57 : decide ((s[k].toNat : Int) ≤ 57) = true := decide_eq_true (by omega) | have d57 : decide ((s[k].toNat : Int) ≤ 57) = false := decide_eq_false (by omega)
          first | have e46 : ((s[k].toNat : Int) == 46) = true := beq_iff_eq.2 (by omega) | have e46 : ((s[k].toNat : Int) == 46) = false := beq_eq_false_iff_ne.2 (by omega)
          first | have e95 : ((s[k].toNat : Int) == 95) = true := beq_iff_eq.2 (by omega) | have e95 : ((s[k].toNat : Int) == 95) = false := beq_eq_false_iff_ne.2 (by omega)
          first | have e45 : ((s[k].toNat : Int) == 45) = true := beq_iff_eq.2 (by omega) | have e45 : ((s[k].toNat : Int) == 45) = false := beq_eq_false_iff_ne.2 (by omega)
          clear hc1 hc2
          go_wp2
          go_round
          case rel => exact ⟨k + 1, by omega, by go_num, hg⟩
          case measure => simp [intOf]; omega
      · have hg : Hid (okL s = false) := ok_bad s k hlt (good_no _ hc)
        rcases hc with hc | hc | hc | hc | hc | hc
        all_goals
          (try obtain ⟨hc1, hc2⟩ := hc)
          first | have d97 : decide ((97 : Int) ≤ (s[k].toNat : Int)) = true := decide_eq_true (by omega) | have d97 : decide ((97 : Int) ≤ (s[k].toNat : Int)) = false := decide_eq_false (by omega)
          first | have d122 : decide ((s[k].toNat : Int) ≤ 122) = true := decide_eq_true (by omega) | have d122 : decide ((s[k].toNat : Int) ≤ 122) = false := decide_eq_false (by omega)
          first | have d65 : decide ((65 : Int) ≤ (s[k].toNat : Int)) = true := decide_eq_true (by omega) | have d65 : decide ((65 : Int) ≤ (s[k].toNat : Int)) = false := decide_eq_false (by omega)
          first | have d90 : decide ((s[k].toNat : Int) ≤ 90) = true := decide_eq_true (by omega) | have d90 : decide ((s[k].toNat : Int) ≤ 90) = false := decide_eq_false (by omega)
          first | have d48 : decide ((48 : Int) ≤ (s[k].toNat : Int)) = true := decide_eq_true (by omega) | have d48 : decide ((48 : Int) ≤ (s[k].toNat : Int)) = false := decide_eq_false (by omega)
          first | have d57 : decide ((s[k].toNat : Int) ≤ 57) = true := decide_eq_true (by omega) | have d57 : decide ((s[k].toNat : Int) ≤ 57) = false := decide_eq_false (by omega)
          first | have e46 : ((s[k].toNat : Int) == 46) = true := beq_iff_eq.2 (by omega) | have e46 : ((s[k].toNat : Int) == 46) = false := beq_eq_false_iff_ne.2 (by omega)
          first | have e95 : ((s[k].toNat : Int) == 95) = true := beq_iff_eq.2 (by omega) | have e95 : ((s[k].toNat : Int) == 95) = false := beq_eq_false_iff_ne.2 (by omega)
          first | have e45 : ((s[k].toNat : Int) == 45) = true := beq_iff_eq.2 (by omega) | have e45 : ((s[k].toNat : Int) == 45) = false := beq_eq_false_iff_ne.2 (by omega)
          go_wp2
          go_ret
          exact ⟨ret_bool hg.out.symm, rfl⟩
    · have H : Hid (okL s = true) := ok_yes s h0 (by omega) h3 (fun j hj => hall.out j (by omega))
      go_wp2
      go_ret
      exact ⟨ret_bool H.out.symm, rfl⟩
end Go.Proofs.YbulkdgwwFmt
