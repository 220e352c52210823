/-
  Numbers and bits on the road of LawS5408CWhole; slotOf (15).
-/
import Derived.Test.YbulkdgzaLib
import Derived.Test.YbulkdgzaPlain
import Derived.WalkKit
import Derived.Laws.BitsAllLaws
namespace Go.Proofs.Ybulkdgza
open Go.RowKit B

theorem i64_and63 (n : Nat) : bits .and .i64 (n : Int) 63 = ((n % 64 : Nat) : Int) := by
  have h2 : (BitVec.ofInt 64 (63 : Int)).toNat = 63 := by decide
  show IntKind.i64.wrap ((BitVec.ofInt 64 (n : Int) &&& BitVec.ofInt 64 (63 : Int)).toNat : Int) = _
  rw [BitVec.toNat_and, h2, BitVec.ofInt_natCast, BitVec.toNat_ofNat, nat_mask6]
  have : n % 2 ^ 64 % 64 = n % 64 := by omega
  rw [this]
  simp [IntKind.wrap, IntKind.bits, IntKind.signed]
  omega

theorem i64_xor_nat (a b : Nat) (ha : a < 9223372036854775808) (hb : b < 9223372036854775808) : bits .xor .i64 (a : Int) (b : Int) = ((a ^^^ b : Nat) : Int) := by
  have hx : a ^^^ b < 2 ^ 63 := Nat.xor_lt_two_pow (by omega) (by omega)
  have h1 : (BitVec.ofInt 64 (a : Int)).toNat = a := by
    rw [BitVec.ofInt_natCast, BitVec.toNat_ofNat]; exact Nat.mod_eq_of_lt (by omega)
  have h2 : (BitVec.ofInt 64 (b : Int)).toNat = b := by
    rw [BitVec.ofInt_natCast, BitVec.toNat_ofNat]; exact Nat.mod_eq_of_lt (by omega)
  show IntKind.i64.wrap ((BitVec.ofInt 64 (a : Int) ^^^ BitVec.ofInt 64 (b : Int)).toNat : Int) = _
  rw [BitVec.toNat_xor, h1, h2]
  simp [IntKind.wrap, IntKind.bits, IntKind.signed]
  omega

theorem div_cast (t l : Nat) : (t : Int) / 2 ^ (l * 6) = ((t / 64 ^ l : Nat) : Int) := by
  rw [pow64, Nat.mul_comm 6 l]; simp

theorem wrap64_nat (n : Nat) (h : n < 9223372036854775808) : wrap64 (n : Int) = (n : Int) := by
  unfold wrap64; omega

theorem slotOf_any (t l : Nat) (w : World) (ht : t < 9223372036854775808) (hl : l < 11) :
    Calls Yba.prog 15 #[.int .i64 t, .int .i64 l] w fun e w' => e = .returned (.int .i64 (slot t l)) ∧ w' = w := by
  have hd : t / 64 ^ l < 9223372036854775808 := Nat.lt_of_le_of_lt (Nat.div_le_self _ _) ht
  have e : bits .and .i64 (wrap64 ((t : Int) / 2 ^ (l * 6))) 63 = (slot t l : Int) := by
    rw [div_cast, wrap64_nat _ hd, i64_and63]; rfl
  go_enter Yba.func15, Yba.ntmps15
  go_wp2
  go_ret
  exact ⟨rfl, rfl⟩

theorem log_iff (x l : Nat) (h1 : x < 64 ^ (l + 1)) (h2 : l = 0 ∨ 64 ^ l ≤ x) : Nat.log2 x / 6 = l := by
  by_cases hx : x = 0
  · subst hx
    rcases h2 with h2 | h2
    · subst h2; simp
    · have := pos64 l; omega
  · rw [pow64, ← Nat.log2_lt hx] at h1
    rcases h2 with h2 | h2
    · omega
    · have h3 : ¬ Nat.log2 x < 6 * l := by rw [Nat.log2_lt hx, ← pow64]; omega
      omega

theorem bitLen_log : ∀ (n x : Nat), x < 2 ^ n → n ≤ 64 → x ≠ 0 → Lib.bitLen x = Nat.log2 x + 1
  | 0, x, h, _, h0 => by simp at h; omega
  | n + 1, x, h, hn, h0 => by
    have hx : x < 2 ^ 64 := Nat.lt_of_lt_of_le h (Nat.pow_le_pow_right (by omega) hn)
    rw [Lib.bitLen_half x h0 hx]
    by_cases h2 : 2 ≤ x
    · rw [bitLen_log n (x / 2) (by rw [Nat.pow_succ] at h; omega) (by omega) (by omega)]
      conv => rhs; rw [Nat.log2_def, if_pos h2]
      omega
    · have : x = 1 := by omega
      subst this
      rw [Nat.log2_def, if_neg (by omega)]
      decide
theorem len_lev (t c : Nat) (ht : t < 9223372036854775808) (hc : c < 9223372036854775808) : (Lib.bitLen (t ^^^ c) - 1) / 6 = lev t c := by
  unfold lev
  have hlt : t ^^^ c < 2 ^ 63 := Nat.xor_lt_two_pow (by omega) (by omega)
  by_cases h : t ^^^ c = 0
  · rw [h]; decide
  · rw [bitLen_log 63 _ hlt (by omega) h]; simp
theorem max_lev (t c : Nat) (ht : t < 9223372036854775808) (hc : c < 9223372036854775808) (x : Nat) (hx : x = t ^^^ c) : ((Lib.bitLen x : Nat) : Int) ≤ 63 ∧ 0 ≤ ((Lib.bitLen x : Nat) : Int) := by
  subst hx
  have hlt : t ^^^ c < 2 ^ 63 := Nat.xor_lt_two_pow (by omega) (by omega)
  by_cases h : t ^^^ c = 0
  · rw [h]; decide
  · rw [bitLen_log 63 _ hlt (by omega) h]
    have := (Nat.log2_lt h).2 hlt
    omega


theorem lev_val (t c : Nat) (ht : t < 9223372036854775808) (hc : c < 9223372036854775808) :
    IntKind.i64.wrap ((max (IntKind.i64.wrap (((Lib.bitLen (t ^^^ c) : Nat) : Int) - 1)) 0).tdiv 6) = ((lev t c : Nat) : Int) := by
  obtain ⟨h1, h2⟩ := max_lev t c ht hc _ rfl
  rw [← len_lev t c ht hc]
  generalize Lib.bitLen (t ^^^ c) = b at *
  have e1 : IntKind.i64.wrap ((b : Int) - 1) = (b : Int) - 1 := by rw [IntKind.wrap_i64]; omega
  rw [e1]
  by_cases hb : b = 0
  · subst hb; decide
  · have e2 : max ((b : Int) - 1) 0 = ((b - 1 : Nat) : Int) := by omega
    rw [e2, Int.tdiv_eq_ediv_of_nonneg (by omega), IntKind.wrap_i64]
    omega

theorem or_bit (O s : Nat) (hO : O < 18446744073709551616) (hs : s < 64) : bits BinOp.or IntKind.u64 ((O : Nat) : Int) (IntKind.u64.wrap (2 ^ s)) = ((O ||| 2 ^ s : Nat) : Int) := by
  have h2 : 2 ^ s < 2 ^ 64 := Nat.pow_lt_pow_right (by omega) hs
  have e : IntKind.u64.wrap (2 ^ s) = ((2 ^ s : Nat) : Int) := by
    rw [IntKind.wrap_u64]
    have e2 : ((2 : Int) ^ s) = ((2 ^ s : Nat) : Int) := by simp
    rw [e2]
    generalize 2 ^ s = q at *
    omega
  rw [e, u64_or_nat O (2 ^ s) hO (by omega)]

end Go.Proofs.Ybulkdgza
