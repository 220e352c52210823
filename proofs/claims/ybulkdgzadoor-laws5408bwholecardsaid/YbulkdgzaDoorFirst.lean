/-
  (*slots).first (24).
-/
import Derived.Test.YbulkdgzaDoorAdd2
namespace Go.Proofs.YbulkdgzaDoor
open Go.RowKit B
set_option linter.unusedVariables false
set_option linter.unusedSimpArgs false

set_option maxHeartbeats 1000000 in
theorem first_none (S : Nat) (tb : Nat → Nat) (cur : Nat) (occ : Nat → Nat) (L : Nat → Nat → List Nat) (w : World) (hs : RowF w S 49 716 (slF tb cur occ L)) (h0 : ∀ l, l < 11 → occ l = 0) :
    Calls Ybad.prog 24 #[.pointer (some ⟨S, 0, none⟩)] w fun e w' => e = .returned (.tuple #[.int .i64 0, .int .i64 0, .bool false]) ∧ w' = w := by
  go_enter Ybad.func24, Ybad.ntmps24
  go_wp2
  go_loopw [9] (fun c wr => ∃ k : Nat, k ≤ 11 ∧ c = .int .i64 (k : Int) ∧ wr = w) (fun c _ => (11 - intOf c).toNat)
  case atStart => exact ⟨0, by omega, rfl, rfl⟩
  case round =>
    obtain ⟨k, hk, rfl, rfl⟩ := hrel
    by_cases h : k < 11
    · have h' : (k : Int) < 11 := by omega
      have co := (hs.cell (i := 1 + k) (by omega)).trans (congrArg some (slF_occ tb cur occ L k h))
      rw [h0 k h] at co
      simp at co
      go_wp2
      go_roundw
      case rel => exact ⟨k + 1, by omega, by go_num, by first | rfl | trivial⟩
      case measure => simp [intOf]; omega
    · have h' : ¬ (k : Int) < 11 := by omega
      go_wp2
      refine bodyPost_ret (v := .tuple #[.int .i64 0, .int .i64 0, .bool false]) (by simp [results, Ybad.results24, go_sem]) rfl ?_
      exact ⟨rfl, rfl⟩

theorem tick_sum (cur k s : Nat) : tickOf cur k s = cur / 64 ^ (k + 1) * 64 ^ (k + 1) + s * 64 ^ k := by
  unfold tickOf; rw [Nat.add_mul, Nat.pow_succ, Nat.mul_assoc, Nat.mul_comm 64 (64 ^ k)]
theorem tick_or (cur k s : Nat) (hs : s < 64) : (cur / 64 ^ (k + 1) * 64 ^ (k + 1)) ||| (s * 64 ^ k) = tickOf cur k s := by
  rw [tick_sum]
  have h := nat_join (6 * (k + 1)) (cur / 64 ^ (k + 1) * 64 ^ (k + 1)) (s * 64 ^ k)
  rw [← pow64] at h
  refine h (Nat.mul_mod_left _ _) ?_
  rw [Nat.pow_succ, Nat.mul_comm (64 ^ k)]
  exact Nat.mul_lt_mul_of_pos_right hs (pos64 k)
theorem val9 (cur k s : Nat) (hc : cur < 9223372036854775808) (hs : s < 64) (ht : tickOf cur k s < 9223372036854775808) :
    wrap64 (bits BinOp.or IntKind.u64 (IntKind.u64.wrap ((cur : Int) / 2 ^ (k * 6 + 6) * 2 ^ (k * 6 + 6))) (IntKind.u64.wrap ((s : Int) * 2 ^ (k * 6)))) = ((tickOf cur k s : Nat) : Int) := by
  have hsum := tick_sum cur k s
  have hor := tick_or cur k s hs
  have e1 : (cur : Int) / 2 ^ (k * 6 + 6) * 2 ^ (k * 6 + 6) = ((cur / 64 ^ (k + 1) * 64 ^ (k + 1) : Nat) : Int) := by
    rw [pow64, show 6 * (k + 1) = k * 6 + 6 by omega]; simp
  have e2 : (s : Int) * 2 ^ (k * 6) = ((s * 64 ^ k : Nat) : Int) := by
    rw [pow64, Nat.mul_comm 6 k]; simp
  rw [e1, e2]
  generalize cur / 64 ^ (k + 1) * 64 ^ (k + 1) = A at *
  generalize s * 64 ^ k = D at *
  have w1 : IntKind.u64.wrap (A : Int) = (A : Int) := by rw [IntKind.wrap_u64]; omega
  have w2 : IntKind.u64.wrap (D : Int) = (D : Int) := by rw [IntKind.wrap_u64]; omega
  rw [w1, w2, u64_or_nat A D (by omega) (by omega), hor, wrap64_nat _ ht]
theorem val10 (cur s : Nat) (hc : cur < 9223372036854775808) (hs : s < 64) (ht : tickOf cur 10 s < 9223372036854775808) :
    wrap64 (bits BinOp.or IntKind.u64 ((cur : Int) / 18446744073709551616 * 18446744073709551616) (IntKind.u64.wrap ((s : Int) * 1152921504606846976))) = ((tickOf cur 10 s : Nat) : Int) := by
  have hz : cur / 64 ^ 11 = 0 := Nat.div_eq_of_lt (by have : (9223372036854775808 : Nat) ≤ 64 ^ 11 := by decide
                                                      omega)
  have hsum : tickOf cur 10 s = s * 1152921504606846976 := by unfold tickOf; rw [hz]; simp
  rw [hsum] at ht ⊢
  have e0 : (cur : Int) / 18446744073709551616 * 18446744073709551616 = ((0 : Nat) : Int) := by omega
  have w2 : IntKind.u64.wrap ((s : Int) * 1152921504606846976) = ((s * 1152921504606846976 : Nat) : Int) := by rw [IntKind.wrap_u64]; omega
  rw [e0, w2, u64_or_nat 0 _ (by omega) (by omega), Nat.zero_or, wrap64_nat _ ht]

set_option maxHeartbeats 1000000 in
theorem first_some (S : Nat) (tb : Nat → Nat) (cur : Nat) (occ : Nat → Nat) (L : Nat → Nat → List Nat) (l s : Nat) (w : World) (hs : RowF w S 49 716 (slF tb cur occ L)) (hT : TabAt 2 Lib.deBruijn64tab w)
    (hl : l < 11) (h0 : ∀ l', l' < l → occ l' = 0) (hn : occ l ≠ 0) (hb : occ l < 18446744073709551616) (hcz : Lib.ctz 64 (occ l) = s) (hc : cur < 9223372036854775808) (hs64 : s < 64) (ht : tickOf cur l s < 9223372036854775808) :
    Calls Ybad.prog 24 #[.pointer (some ⟨S, 0, none⟩)] w fun e w' => e = .returned (.tuple #[.int .i64 (tickOf cur l s), .int .i64 l, .bool true]) ∧ w' = w := by
  have HZ : Hid (Calls Ybad.prog 30 #[.int .u64 (occ l)] w fun e w' => e = .returned (.int .i64 s) ∧ w' = w) := by
    have := Ybad.bits_TrailingZeros64 (occ l) hb w (fun _ => hT)
    rw [hcz] at this; exact this
  have c0 := (hs.cell (i := 0) (by omega)).trans (congrArg some (slF_cur tb cur occ L))
  go_enter Ybad.func24, Ybad.ntmps24
  go_wp2
  go_loopw [9] (fun c wr => ∃ k : Nat, k ≤ l ∧ c = .int .i64 (k : Int) ∧ wr = w) (fun c _ => (11 - intOf c).toNat)
  case atStart => exact ⟨0, by omega, rfl, rfl⟩
  case round =>
    obtain ⟨k, hk, rfl, rfl⟩ := hrel
    have h' : (k : Int) < 11 := by omega
    have co := (hs.cell (i := 1 + k) (by omega)).trans (congrArg some (slF_occ tb cur occ L k (by omega)))
    by_cases h : k < l
    · rw [h0 k h] at co
      simp at co
      go_wp2
      go_roundw
      case rel => exact ⟨k + 1, by omega, by go_num, by first | rfl | trivial⟩
      case measure => simp [intOf]; omega
    · obtain rfl : k = l := by omega
      have hz : (((occ k : Nat) : Int) == 0) = false := by simp; omega
      generalize occ k = O at *
      rcases (by omega : k = 10 ∨ k ≤ 9) with rfl | h9
      · have HV : Hid (wrap64 (bits BinOp.or IntKind.u64 ((cur : Int) / 18446744073709551616 * 18446744073709551616) (IntKind.u64.wrap ((s : Int) * 1152921504606846976))) = ((tickOf cur 10 s : Nat) : Int)) := val10 cur s hc hs64 ht
        go_wp2_with (first | (go_at_call 30; refine (HZ.out).mono ?_; rintro e w' ⟨rfl, rfl⟩))
        refine bodyPost_ret (v := .tuple #[.int .i64 (wrap64 (bits BinOp.or IntKind.u64 ((cur : Int) / 18446744073709551616 * 18446744073709551616) (IntKind.u64.wrap ((s : Int) * 1152921504606846976)))), .int .i64 10, .bool true]) (by simp [results, Ybad.results24, go_sem]) rfl ?_
        exact ⟨by rw [HV.out]; rfl, rfl⟩
      · have h9' : (k : Int) * 6 + 6 < 64 := by omega
        have HV : Hid (wrap64 (bits BinOp.or IntKind.u64 (IntKind.u64.wrap ((cur : Int) / 2 ^ (k * 6 + 6) * 2 ^ (k * 6 + 6))) (IntKind.u64.wrap ((s : Int) * 2 ^ (k * 6)))) = ((tickOf cur k s : Nat) : Int)) := val9 cur k s hc hs64 ht
        go_wp2_with (first | (go_at_call 30; refine (HZ.out).mono ?_; rintro e w' ⟨rfl, rfl⟩))
        refine bodyPost_ret (v := .tuple #[.int .i64 (wrap64 (bits BinOp.or IntKind.u64 (IntKind.u64.wrap ((cur : Int) / 2 ^ (k * 6 + 6) * 2 ^ (k * 6 + 6))) (IntKind.u64.wrap ((s : Int) * 2 ^ (k * 6))))), .int .i64 k, .bool true]) (by simp [results, Ybad.results24, go_sem]) rfl ?_
        exact ⟨by rw [HV.out], rfl⟩
end Go.Proofs.YbulkdgzaDoor
