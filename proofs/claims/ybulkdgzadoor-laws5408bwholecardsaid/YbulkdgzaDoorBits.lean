/-
  Numbers and bits on the road of LawS5408BWhole; slotOf (23), zzs5408bmul (10), zzs5408blevel (13).
-/
import Derived.Test.YbulkdgzaDoorLib
import Derived.Test.YbulkdgzaDoorPlain
import Derived.WalkKit
import Derived.Laws.BitsAllLaws
namespace Go.Proofs.YbulkdgzaDoor
open Go.RowKit B

theorem i64_and63 (n : Nat) : bits .and .i64 (n : Int) 63 = ((n % 64 : Nat) : Int) := by
  have h2 : (BitVec.ofInt 64 (63 : Int)).toNat = 63 := by decide
  show IntKind.i64.wrap ((BitVec.ofInt 64 (n : Int) &&& BitVec.ofInt 64 (63 : Int)).toNat : Int) = _
  rw [BitVec.toNat_and, h2, BitVec.ofInt_natCast, BitVec.toNat_ofNat, nat_mask6]
  have : n % 2 ^ 64 % 64 = n % 64 := by omega
  rw [this]
  simp [IntKind.wrap, IntKind.bits, IntKind.signed]
  omega

theorem i64_xor_nat (a b : Nat) (ha : a < 9223372036854775808) (hb : b < 9223372036854775808) : bits .xor .i64 (a : Int) (b : Int) = ((a ^^^ b : Nat) : Int) := by
  have hx : a ^^^ b < 2 ^ 63 := Nat.xor_lt_two_pow (by omega) (by omega)
  have h1 : (BitVec.ofInt 64 (a : Int)).toNat = a := by
    rw [BitVec.ofInt_natCast, BitVec.toNat_ofNat]; exact Nat.mod_eq_of_lt (by omega)
  have h2 : (BitVec.ofInt 64 (b : Int)).toNat = b := by
    rw [BitVec.ofInt_natCast, BitVec.toNat_ofNat]; exact Nat.mod_eq_of_lt (by omega)
  show IntKind.i64.wrap ((BitVec.ofInt 64 (a : Int) ^^^ BitVec.ofInt 64 (b : Int)).toNat : Int) = _
  rw [BitVec.toNat_xor, h1, h2]
  simp [IntKind.wrap, IntKind.bits, IntKind.signed]
  omega

theorem div_cast (t l : Nat) : (t : Int) / 2 ^ (l * 6) = ((t / 64 ^ l : Nat) : Int) := by
  rw [pow64, Nat.mul_comm 6 l]; simp

theorem wrap64_nat (n : Nat) (h : n < 9223372036854775808) : wrap64 (n : Int) = (n : Int) := by
  unfold wrap64; omega

theorem slotOf_any (t l : Nat) (w : World) (ht : t < 9223372036854775808) (hl : l < 11) :
    Calls Ybad.prog 23 #[.int .i64 t, .int .i64 l] w fun e w' => e = .returned (.int .i64 (slot t l)) ∧ w' = w := by
  have hd : t / 64 ^ l < 9223372036854775808 := Nat.lt_of_le_of_lt (Nat.div_le_self _ _) ht
  have e : bits .and .i64 (wrap64 ((t : Int) / 2 ^ (l * 6))) 63 = (slot t l : Int) := by
    rw [div_cast, wrap64_nat _ hd, i64_and63]; rfl
  go_enter Ybad.func23, Ybad.ntmps23
  go_wp2
  go_ret
  exact ⟨rfl, rfl⟩

/-- How far the drawn offsets are spread. -/
def mulV (k : Nat) : Nat := if k % 5 = 0 then 1 else if k % 5 = 1 then 3 else if k % 5 = 2 then 64 else if k % 5 = 3 then 4099 else 16777216
theorem mulV_le (k : Nat) : mulV k ≤ 16777216 := by unfold mulV; split <;> (try split) <;> (try split) <;> (try split) <;> omega

theorem mul_any (k : Nat) (hk : k < 256) (w : World) : Calls Ybad.prog 10 #[.int .u8 k] w fun e w' => e = .returned (.int .u64 (mulV k)) ∧ w' = w := by
  have hk0 : (k : Int) % 5 = ((k % 5 : Nat) : Int) := by omega
  have h5 : k % 5 < 5 := Nat.mod_lt _ (by omega)
  unfold mulV
  generalize k % 5 = r at *
  rcases (by omega : r = 0 ∨ r = 1 ∨ r = 2 ∨ r = 3 ∨ r = 4) with rfl | rfl | rfl | rfl | rfl
  all_goals
    go_enter Ybad.func10, Ybad.ntmps10
    go_wp2
    go_ret
    exact ⟨rfl, rfl⟩

theorem log_iff (x l : Nat) (h1 : x < 64 ^ (l + 1)) (h2 : l = 0 ∨ 64 ^ l ≤ x) : Nat.log2 x / 6 = l := by
  by_cases hx : x = 0
  · subst hx
    rcases h2 with h2 | h2
    · subst h2; simp
    · have := pos64 l; omega
  · rw [pow64, ← Nat.log2_lt hx] at h1
    rcases h2 with h2 | h2
    · omega
    · have h3 : ¬ Nat.log2 x < 6 * l := by rw [Nat.log2_lt hx, ← pow64]; omega
      omega

theorem level_any (t c : Nat) (ht : t < 9223372036854775808) (hc : c < 9223372036854775808) (w : World) :
    Calls Ybad.prog 13 #[.int .i64 t, .int .i64 c] w fun e w' => e = .returned (.int .i64 (lev t c)) ∧ w' = w := by
  have hx := i64_xor_nat t c ht hc
  have hlt : t ^^^ c < 9223372036854775808 := Nat.xor_lt_two_pow (n := 63) (by omega) (by omega)
  have HL : Hid (∀ l, t ^^^ c < 64 ^ (l + 1) → (l = 0 ∨ 64 ^ l ≤ t ^^^ c) → lev t c = l) := fun l h1 h2 => log_iff _ _ h1 h2
  go_enter Ybad.func13, Ybad.ntmps13
  go_wp2
  generalize t ^^^ c = X at *
  go_loopw [5, 6] (fun x lv wr => ∃ k : Nat, x = .int .u64 ((X / 64 ^ k : Nat) : Int) ∧ lv = .int .i64 (k : Int) ∧ (k = 0 ∨ 64 ^ k ≤ X) ∧ wr = w) (fun x _ _ => (intOf x).toNat)
  case atStart => exact ⟨0, by simp, rfl, .inl rfl, rfl⟩
  case round =>
    obtain ⟨k, rfl, rfl, hk, rfl⟩ := hrel
    have hk11 : k < 11 := by
      rcases hk with hk | hk
      · omega
      · refine Nat.lt_of_not_le fun hh => ?_
        have : 64 ^ 11 ≤ 64 ^ k := Nat.pow_le_pow_right (by omega) hh
        have : (9223372036854775808 : Nat) ≤ 64 ^ 11 := by decide
        omega
    have hy : X / 64 ^ k < 9223372036854775808 := Nat.lt_of_le_of_lt (Nat.div_le_self _ _) hlt
    have e1 : X / 64 ^ (k + 1) = X / 64 ^ k / 64 := by rw [Nat.pow_succ, Nat.div_div_eq_div_mul]
    have HE : Hid (X / 64 ^ (k + 1) = X / 64 ^ k / 64) := e1
    have HP : Hid (64 ≤ X / 64 ^ k → 64 ^ (k + 1) ≤ X) := fun h => by
      have := (Nat.le_div_iff_mul_le (pos64 k)).1 h
      rw [Nat.pow_succ, Nat.mul_comm]; exact this
    have HN : Hid (X / 64 ^ k < 64 → X < 64 ^ (k + 1)) := fun h => by
      have := (Nat.div_lt_iff_lt_mul (pos64 k)).1 h
      rw [Nat.pow_succ, Nat.mul_comm]; exact this
    have HK : Hid (k = 0 ∨ 64 ^ k ≤ X) := hk
    clear e1 hk
    generalize X / 64 ^ k = y at *
    by_cases h : 64 ≤ y
    · have h' : (64 : Int) ≤ (y : Int) := by omega
      go_wp2
      go_roundw
      case rel => exact ⟨k + 1, by rw [HE.out]; go_num, by go_num, .inr (HP.out h), by first | rfl | trivial⟩
      case measure => simp [intOf]; omega
    · have h' : ¬ (64 : Int) ≤ (y : Int) := by omega
      go_wp2
      go_ret
      exact ⟨by rw [HL.out k (HN.out (by omega)) HK.out]; rfl, rfl⟩

/-! ### Len64 -/
theorem bitLen_log : ∀ (n x : Nat), x < 2 ^ n → n ≤ 64 → x ≠ 0 → Lib.bitLen x = Nat.log2 x + 1
  | 0, x, h, _, h0 => by simp at h; omega
  | n + 1, x, h, hn, h0 => by
    have hx : x < 2 ^ 64 := Nat.lt_of_lt_of_le h (Nat.pow_le_pow_right (by omega) hn)
    rw [Lib.bitLen_half x h0 hx]
    by_cases h2 : 2 ≤ x
    · rw [bitLen_log n (x / 2) (by rw [Nat.pow_succ] at h; omega) (by omega) (by omega)]
      conv => rhs; rw [Nat.log2_def, if_pos h2]
      omega
    · have : x = 1 := by omega
      subst this
      rw [Nat.log2_def, if_neg (by omega)]
      decide
theorem len_lev (t c : Nat) (ht : t < 9223372036854775808) (hc : c < 9223372036854775808) : (Lib.bitLen (t ^^^ c) - 1) / 6 = lev t c := by
  unfold lev
  have hlt : t ^^^ c < 2 ^ 63 := Nat.xor_lt_two_pow (by omega) (by omega)
  by_cases h : t ^^^ c = 0
  · rw [h]; decide
  · rw [bitLen_log 63 _ hlt (by omega) h]; simp
end Go.Proofs.YbulkdgzaDoor
