/-
  time.Time, without a monotonic reading, without a place: Add (5), Sub (26).
-/
import Derived.Test.YbulkdgzaBits
import Derived.Test.YbulkdgzaHeap
import Derived.Deep.QuietTactic
import Derived.BigFrame
import Derived.Deep.RegionHeld3
namespace Go.Proofs.Ybulkdgza
open Go.RowKit B
set_option linter.unusedVariables false
set_option linter.unusedSimpArgs false

theorem nsec_any (b n : Nat) (w : World) (hn : n < 1000000000) (c0 : w.cell? ⟨b, 0, none⟩ = some (.int .u64 n)) :
    Calls Yba.prog 11 #[.pointer (some ⟨b, 0, none⟩)] w fun e w' => e = .returned (.int .i32 n) ∧ w' = w := by
  have h : bits .and .u64 (n : Int) 1073741823 = (n : Int) := by
    have := u64_and_nat n 1073741823 (by omega) (by omega)
    have e : n &&& 1073741823 = n % 2 ^ 30 := Nat.and_two_pow_sub_one_eq_mod n 30
    rw [show ((1073741823 : Nat) : Int) = (1073741823 : Int) from rfl] at this
    rw [this, e]; congr 1; omega
  have h2 : wrap32 (n : Int) = (n : Int) := by unfold wrap32; omega
  go_enter Yba.func11, Yba.ntmps11
  go_wp2
  go_ret
  exact ⟨rfl, rfl⟩

theorem hi_zero (n : Nat) (hn : n < 1000000000) : bits .and .u64 (n : Int) 9223372036854775808 = 0 := by
  have := u64_and_nat n 9223372036854775808 (by omega) (by omega)
  rw [show ((9223372036854775808 : Nat) : Int) = (9223372036854775808 : Int) from rfl] at this
  rw [this]
  have e : n &&& 9223372036854775808 = 0 := by
    apply Nat.eq_of_testBit_eq
    intro i
    rw [Nat.testBit_and, Nat.zero_testBit, show (9223372036854775808 : Nat) = 2 ^ 63 from rfl, Nat.testBit_two_pow]
    by_cases h : 63 = i
    · subst h
      have : n.testBit 63 = false := Nat.testBit_lt_two_pow (by omega)
      rw [this]; rfl
    · simp [h]
  rw [e]; rfl

theorem sec_any (b n : Nat) (s : Int) (w : World) (hn : n < 1000000000) (c0 : w.cell? ⟨b, 0, none⟩ = some (.int .u64 n)) (c1 : w.cell? ⟨b, 1, none⟩ = some (.int .i64 s)) :
    Calls Yba.prog 20 #[.pointer (some ⟨b, 0, none⟩)] w fun e w' => e = .returned (.int .i64 s) ∧ w' = w := by
  have h := hi_zero n hn
  go_enter Yba.func20, Yba.ntmps20
  go_wp2
  go_ret
  exact ⟨rfl, rfl⟩

theorem addSec_zero (b n d : Nat) (w : World) (hn : n < 1000000000) (hd : d ≤ 9223372037) (c0 : w.cell? ⟨b, 0, none⟩ = some (.int .u64 n)) (c1 : w.cell? ⟨b, 1, none⟩ = some (.int .i64 0)) (g1 : w.frozen? ⟨b, 1, none⟩ = false) :
    Calls Yba.prog 12 #[.pointer (some ⟨b, 0, none⟩), .int .i64 d] w fun e w' => e = .returned (.tuple #[]) ∧ w' = w.setCell ⟨b, 1, none⟩ (.int .i64 d) := by
  have h := hi_zero n hn
  by_cases h0 : d = 0
  · subst h0
    go_enter Yba.func12, Yba.ntmps12
    go_wp2
    go_end0
    exact ⟨rfl, rfl⟩
  · have h0' : (0 : Int) < (d : Int) := by omega
    go_enter Yba.func12, Yba.ntmps12
    go_wp2
    go_end0
    exact ⟨rfl, rfl⟩

theorem andNot_zero : bits .andNot .u64 0 1073741823 = 0 := by decide
theorem or_zero (n : Nat) (hn : n < 1000000000) : bits .or .u64 0 (n : Int) = (n : Int) := by
  have := u64_or_nat 0 n (by omega) (by omega)
  rw [Nat.zero_or] at this
  exact this

set_option maxRecDepth 100000 in
set_option maxHeartbeats 400000 in
theorem add_zero (off : Nat) (w : World) (ho : off < 9223372036854775808) :
    Calls Yba.prog 5 #[.agg #[.int .u64 0, .int .i64 0, .pointer none], .int .i64 off] w fun e w' => e = .returned (.agg #[.int .u64 ((off % 1000000000 : Nat) : Int), .int .i64 ((off / 1000000000 : Nat) : Int), .pointer none]) ∧ Chg w w' (fun _ => False) := by
  have q1 : (off : Int).tdiv 1000000000 = ((off / 1000000000 : Nat) : Int) := by rw [Int.tdiv_eq_ediv_of_nonneg (by omega)]; omega
  have q2 : (off : Int).tmod 1000000000 = ((off % 1000000000 : Nat) : Int) := by rw [Int.tmod_eq_emod_of_nonneg (by omega)]; omega
  have hs : off / 1000000000 ≤ 9223372037 := by omega
  have hn : off % 1000000000 < 1000000000 := Nat.mod_lt _ (by omega)
  generalize off / 1000000000 = s at *
  generalize off % 1000000000 = n at *
  have e1 := andNot_zero
  have e2 := or_zero n hn
  have e3 := hi_zero n hn
  have e4 : IntKind.u64.wrap (n : Int) = (n : Int) := by rw [IntKind.wrap_u64]; omega
  have e5 : wrap32 (n : Int) = (n : Int) := by unfold wrap32; omega
  have n1 : ¬ (1000000000 : Int) ≤ (n : Int) := by omega
  have n2 : ¬ (n : Int) < 0 := by omega
  have e0 : bits .and .u64 0 1073741823 = 0 := by decide
  have e6 : wrap32 0 = 0 := by unfold wrap32; omega
  clear ho
  by_cases h0 : s = 0
  · subst h0
    go_enter Yba.func5, Yba.ntmps5
    go_wp2
    go_end0
    go_wp2
    refine bodyPost_ret (v := .agg #[.int .u64 n, .int .i64 0, .pointer none]) (by simp [results, Yba.results5, go_sem]) rfl ?_
    exact ⟨rfl, ((Chg.refl _ _).alloc _).alloc _⟩
  · have h0' : (0 : Int) < (s : Int) := by omega
    go_enter Yba.func5, Yba.ntmps5
    go_wp2
    go_end0
    go_wp2
    refine bodyPost_ret (v := .agg #[.int .u64 n, .int .i64 s, .pointer none]) (by simp [results, Yba.results5, go_sem]) rfl ?_
    exact ⟨rfl, ((Chg.refl _ _).alloc _).alloc _⟩

theorem and_lt (a b : Nat) (ha : a < 1000000000) (hb : b < 1000000000) : ∃ c : Nat, c < 1000000000 ∧ bits .and .u64 (a : Int) (b : Int) = (c : Int) := by
  refine ⟨a &&& b, Nat.lt_of_le_of_lt Nat.and_le_left ha, ?_⟩
  exact u64_and_nat a b (by omega) (by omega)

set_option maxRecDepth 100000 in
set_option maxHeartbeats 400000 in
theorem equal_time (n s : Nat) (w : World) (hn : n < 1000000000) :
    Calls Yba.prog 40 #[.agg #[.int .u64 n, .int .i64 s, .pointer none], .agg #[.int .u64 n, .int .i64 s, .pointer none]] w fun e w' => e = .returned (.bool true) ∧ Chg w w' (fun _ => False) := by
  have e0 : bits .and .u64 (n : Int) (n : Int) = (n : Int) := by
    have := u64_and_nat n n (by omega) (by omega)
    rw [Nat.and_self] at this; exact this
  have e1 := hi_zero n hn
  have e2 : bits .and .u64 (n : Int) 1073741823 = (n : Int) := by
    have := u64_and_nat n 1073741823 (by omega) (by omega)
    have e : n &&& 1073741823 = n % 2 ^ 30 := Nat.and_two_pow_sub_one_eq_mod n 30
    rw [show ((1073741823 : Nat) : Int) = (1073741823 : Int) from rfl] at this
    rw [this, e]; congr 1; omega
  go_enter Yba.func40, Yba.ntmps40
  go_wp2
  go_ret
  exact ⟨rfl, ((Chg.refl _ _).alloc _).alloc _⟩

end Go.Proofs.Ybulkdgza
