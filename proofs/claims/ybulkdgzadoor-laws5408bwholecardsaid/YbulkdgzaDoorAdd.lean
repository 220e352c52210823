/-
  (*slots).add (11): a timer is laid first on the list of its place.
-/
import Derived.Test.YbulkdgzaDoorMem
import Derived.Deep.QuietTactic
import Derived.BigFrame
namespace Go.Proofs.YbulkdgzaDoor
open Go.RowKit B
set_option linter.unusedVariables false
set_option linter.unusedSimpArgs false

theorem max_lev (t c : Nat) (ht : t < 9223372036854775808) (hc : c < 9223372036854775808) (x : Nat) (hx : x = t ^^^ c) : ((Lib.bitLen x : Nat) : Int) ≤ 63 ∧ 0 ≤ ((Lib.bitLen x : Nat) : Int) := by
  subst hx
  have hlt : t ^^^ c < 2 ^ 63 := Nat.xor_lt_two_pow (by omega) (by omega)
  by_cases h : t ^^^ c = 0
  · rw [h]; decide
  · rw [bitLen_log 63 _ hlt (by omega) h]
    have := (Nat.log2_lt h).2 hlt
    omega


theorem lev_val (t c : Nat) (ht : t < 9223372036854775808) (hc : c < 9223372036854775808) :
    IntKind.i64.wrap ((max (IntKind.i64.wrap (((Lib.bitLen (t ^^^ c) : Nat) : Int) - 1)) 0).tdiv 6) = ((lev t c : Nat) : Int) := by
  obtain ⟨h1, h2⟩ := max_lev t c ht hc _ rfl
  rw [← len_lev t c ht hc]
  generalize Lib.bitLen (t ^^^ c) = b at *
  have e1 : IntKind.i64.wrap ((b : Int) - 1) = (b : Int) - 1 := by rw [IntKind.wrap_i64]; omega
  rw [e1]
  by_cases hb : b = 0
  · subst hb; decide
  · have e2 : max ((b : Int) - 1) 0 = ((b - 1 : Nat) : Int) := by omega
    rw [e2, Int.tdiv_eq_ediv_of_nonneg (by omega), IntKind.wrap_i64]
    omega

theorem or_bit (O s : Nat) (hO : O < 18446744073709551616) (hs : s < 64) : bits BinOp.or IntKind.u64 ((O : Nat) : Int) (IntKind.u64.wrap (2 ^ s)) = ((O ||| 2 ^ s : Nat) : Int) := by
  have h2 : 2 ^ s < 2 ^ 64 := Nat.pow_lt_pow_right (by omega) hs
  have e : IntKind.u64.wrap (2 ^ s) = ((2 ^ s : Nat) : Int) := by
    rw [IntKind.wrap_u64]
    have e2 : ((2 : Int) ^ s) = ((2 ^ s : Nat) : Int) := by simp
    rw [e2]
    generalize 2 ^ s = q at *
    omega
  rw [e, u64_or_nat O (2 ^ s) hO (by omega)]

set_option maxHeartbeats 1000000 in
theorem add_none (S : Nat) (tb : Nat → Nat) (n : Nat) (T : Nat → Nat) (z : Nat → Value) (nx pv : Nat → Option Nat) (ps occ : Nat → Nat) (cur : Nat) (L : Nat → Nat → List Nat) (i lv sl : Nat) (w : World)
    (hi : i < n) (hT : T i < 9223372036854775808) (hc : cur < 9223372036854775808) (hlv : lev (T i) cur = lv) (hsl : slot (T i) lv = sl) (hl : lv < 11) (hob : occ lv < 18446744073709551616) (hm : Mem w S tb n T z nx pv ps occ cur L)
    (hh : (L lv sl).head? = none) :
    Calls Ybad.prog 11 #[.pointer (some ⟨S, 0, none⟩), .pointer (some ⟨tb i, 0, none⟩)] w fun e w' => e = .returned (.tuple #[]) ∧
      Mem w' S tb n T z (updN nx i (L lv sl).head?) (updN pv i none) (updN ps i (lv * 64 + sl)) (updN occ lv (occ lv ||| 2 ^ sl)) cur (updL L lv sl (i :: L lv sl)) ∧ Chg w w' (Own S tb n) := by
  have hs64 : sl < 64 := by rw [← hsl]; exact slot_lt _ _
  have hx := i64_xor_nat (T i) cur hT hc
  have hxl : T i ^^^ cur < 9223372036854775808 := Nat.xor_lt_two_pow (n := 63) (by omega) (by omega)
  have hlval := lev_val (T i) cur hT hc
  rw [hlv] at hlval
  have HS : Hid (∀ w, Calls Ybad.prog 23 #[.int .i64 (T i), .int .i64 lv] w fun e w' => e = .returned (.int .i64 sl) ∧ w' = w) := fun w => by rw [← hsl]; exact slotOf_any (T i) lv w hT hl
  have hor : bits BinOp.or IntKind.u64 ((occ lv : Nat) : Int) (IntKind.u64.wrap (2 ^ sl)) = ((occ lv ||| 2 ^ sl : Nat) : Int) := or_bit (occ lv) sl hob hs64
  have c5 := (hm.t i hi).cell (i := 5) (by omega)
  have c7 := (hm.t i hi).cell (i := 7) (by omega)
  have c8 := (hm.t i hi).cell (i := 8) (by omega)
  have c9 := (hm.t i hi).cell (i := 9) (by omega)
  have g7 := (hm.t i hi).free 7
  have g8 := (hm.t i hi).free 8
  have g9 := (hm.t i hi).free 9
  have c0 := hm.s.cell (i := 0) (by omega)
  have co := (hm.s.cell (i := 1 + lv) (by omega)).trans (congrArg some (slF_occ tb cur occ L lv hl))
  have ch := (hm.s.cell (i := 12 + lv * 64 + sl) (by omega)).trans (congrArg some (slF_hd tb cur occ L lv sl hs64))
  have go := hm.s.free (1 + lv)
  have gh := hm.s.free (12 + lv * 64 + sl)
  have ne := hm.ne i hi
  have ne' : ¬ S = tb i := fun e => ne e.symm

  rw [hh] at ch ⊢
  simp only [tmF, slF, ptr] at c5 c7 c8 c9 c0 ch
  simp at c5 c7 c8 c9 c0
  have HM : Hid (∀ nq, Mem (((((((w.drewN nq).setCell ⟨tb i, 8, none⟩ (.pointer none)).setCell ⟨tb i, 7, none⟩ (.pointer none)).setCell ⟨S, 12 + lv * 64 + sl, none⟩ (.pointer (some ⟨tb i, 0, none⟩))).setCell ⟨S, 1 + lv, none⟩ (.int .u64 ((occ lv ||| 2 ^ sl : Nat) : Int))).setCell ⟨tb i, 9, none⟩ (.int .i32 ((lv : Int) * 64 + (sl : Int)))).drew) S tb n T z (updN nx i none) (updN pv i none) (updN ps i (lv * 64 + sl)) (updN occ lv (occ lv ||| 2 ^ sl)) cur (updL L lv sl (i :: L lv sl)) ∧ Chg w (((((((w.drewN nq).setCell ⟨tb i, 8, none⟩ (.pointer none)).setCell ⟨tb i, 7, none⟩ (.pointer none)).setCell ⟨S, 12 + lv * 64 + sl, none⟩ (.pointer (some ⟨tb i, 0, none⟩))).setCell ⟨S, 1 + lv, none⟩ (.int .u64 ((occ lv ||| 2 ^ sl : Nat) : Int))).setCell ⟨tb i, 9, none⟩ (.int .i32 ((lv : Int) * 64 + (sl : Int)))).drew) (Own S tb n)) := by
    intro nq
    have m0 := hm.drewN nq
    refine ⟨?_, ?_⟩
    · have m1 := ((((m0.setPv i hi none).setNx i hi none).setHd lv sl hs64 (i :: L lv sl)).setOcc lv (occ lv ||| 2 ^ sl) hl).setPs i hi (lv * 64 + sl)
      have e : ((lv * 64 + sl : Nat) : Int) = (lv : Int) * 64 + (sl : Int) := by omega
      rw [e] at m1
      exact m1.drew
    · have oi : Own S tb n (tb i) := .inr ⟨i, hi, rfl⟩
      have os : Own S tb n S := .inl rfl
      exact ((((((Chg.refl w (Own S tb n)).drewN nq).setCell (.inl oi) _).setCell (.inl oi) _).setCell (.inl os) _).setCell (.inl os) _).setCell (.inl oi) _ |>.drew
  generalize hX : T i ^^^ cur = X at *
  have hwX : IntKind.u64.wrap (X : Int) = (X : Int) := by rw [IntKind.wrap_u64]; omega
  generalize hO : (occ lv ||| 2 ^ sl) = O2 at *
  generalize hTi : T i = Ti at *
  generalize hB : tb i = B at *

  generalize hO1 : occ lv = O at *
  clear hm hlv hsl hX hh hTi hB hO hO1
  go_enter Ybad.func11, Ybad.ntmps11
  go_wp2_with fail
  go_quiet (first | (go_at_call 22; refine Calls.quiet_of_same (Ybad.bits_Len64 _ _ ?_ ?_) <;> omega))
  go_wp2_with (first | (go_at_call 23; refine (HS.out _).mono ?_; rintro e w' ⟨rfl, rfl⟩))
  go_region
  go_wp2
  go_end0
  exact ⟨rfl, HM.out _⟩

set_option maxHeartbeats 1000000 in
theorem add_some (S : Nat) (tb : Nat → Nat) (n : Nat) (T : Nat → Nat) (z : Nat → Value) (nx pv : Nat → Option Nat) (ps occ : Nat → Nat) (cur : Nat) (L : Nat → Nat → List Nat) (i lv sl y : Nat) (w : World)
    (hi : i < n) (hT : T i < 9223372036854775808) (hc : cur < 9223372036854775808) (hlv : lev (T i) cur = lv) (hsl : slot (T i) lv = sl) (hl : lv < 11) (hob : occ lv < 18446744073709551616) (hm : Mem w S tb n T z nx pv ps occ cur L)
    (hh : (L lv sl).head? = some y) (hy : y < n) (hiy : ¬ i = y) :
    Calls Ybad.prog 11 #[.pointer (some ⟨S, 0, none⟩), .pointer (some ⟨tb i, 0, none⟩)] w fun e w' => e = .returned (.tuple #[]) ∧
      Mem w' S tb n T z (updN nx i (L lv sl).head?) (updN (updN pv i none) y (some i)) (updN ps i (lv * 64 + sl)) (updN occ lv (occ lv ||| 2 ^ sl)) cur (updL L lv sl (i :: L lv sl)) ∧ Chg w w' (Own S tb n) := by
  have hs64 : sl < 64 := by rw [← hsl]; exact slot_lt _ _
  have hx := i64_xor_nat (T i) cur hT hc
  have hxl : T i ^^^ cur < 9223372036854775808 := Nat.xor_lt_two_pow (n := 63) (by omega) (by omega)
  have hlval := lev_val (T i) cur hT hc
  rw [hlv] at hlval
  have HS : Hid (∀ w, Calls Ybad.prog 23 #[.int .i64 (T i), .int .i64 lv] w fun e w' => e = .returned (.int .i64 sl) ∧ w' = w) := fun w => by rw [← hsl]; exact slotOf_any (T i) lv w hT hl
  have hor : bits BinOp.or IntKind.u64 ((occ lv : Nat) : Int) (IntKind.u64.wrap (2 ^ sl)) = ((occ lv ||| 2 ^ sl : Nat) : Int) := or_bit (occ lv) sl hob hs64
  have c5 := (hm.t i hi).cell (i := 5) (by omega)
  have c7 := (hm.t i hi).cell (i := 7) (by omega)
  have c8 := (hm.t i hi).cell (i := 8) (by omega)
  have c9 := (hm.t i hi).cell (i := 9) (by omega)
  have g7 := (hm.t i hi).free 7
  have g8 := (hm.t i hi).free 8
  have g9 := (hm.t i hi).free 9
  have c0 := hm.s.cell (i := 0) (by omega)
  have co := (hm.s.cell (i := 1 + lv) (by omega)).trans (congrArg some (slF_occ tb cur occ L lv hl))
  have ch := (hm.s.cell (i := 12 + lv * 64 + sl) (by omega)).trans (congrArg some (slF_hd tb cur occ L lv sl hs64))
  have go := hm.s.free (1 + lv)
  have gh := hm.s.free (12 + lv * 64 + sl)
  have ne := hm.ne i hi
  have ne' : ¬ S = tb i := fun e => ne e.symm
  have d8 := (hm.t y hy).cell (i := 8) (by omega)
  have f8 := (hm.t y hy).free 8
  have ny := hm.ne y hy
  have ny' : ¬ S = tb y := fun e => ny e.symm
  have niy := hm.inj i y hi hy hiy
  have niy' : ¬ tb y = tb i := fun e => niy e.symm
  simp only [tmF, ptr] at d8
  simp at d8
  rw [hh] at ch ⊢
  simp only [tmF, slF, ptr] at c5 c7 c8 c9 c0 ch
  simp at c5 c7 c8 c9 c0
  have HM : Hid (∀ nq, Mem ((((((((w.drewN nq).setCell ⟨tb i, 8, none⟩ (.pointer none)).setCell ⟨tb i, 7, none⟩ (.pointer (some ⟨tb y, 0, none⟩))).setCell ⟨tb y, 8, none⟩ (.pointer (some ⟨tb i, 0, none⟩))).setCell ⟨S, 12 + lv * 64 + sl, none⟩ (.pointer (some ⟨tb i, 0, none⟩))).setCell ⟨S, 1 + lv, none⟩ (.int .u64 ((occ lv ||| 2 ^ sl : Nat) : Int))).setCell ⟨tb i, 9, none⟩ (.int .i32 ((lv : Int) * 64 + (sl : Int)))).drew) S tb n T z (updN nx i (some y)) (updN (updN pv i none) y (some i)) (updN ps i (lv * 64 + sl)) (updN occ lv (occ lv ||| 2 ^ sl)) cur (updL L lv sl (i :: L lv sl)) ∧ Chg w ((((((((w.drewN nq).setCell ⟨tb i, 8, none⟩ (.pointer none)).setCell ⟨tb i, 7, none⟩ (.pointer (some ⟨tb y, 0, none⟩))).setCell ⟨tb y, 8, none⟩ (.pointer (some ⟨tb i, 0, none⟩))).setCell ⟨S, 12 + lv * 64 + sl, none⟩ (.pointer (some ⟨tb i, 0, none⟩))).setCell ⟨S, 1 + lv, none⟩ (.int .u64 ((occ lv ||| 2 ^ sl : Nat) : Int))).setCell ⟨tb i, 9, none⟩ (.int .i32 ((lv : Int) * 64 + (sl : Int)))).drew) (Own S tb n)) := by
    intro nq
    have m0 := hm.drewN nq
    refine ⟨?_, ?_⟩
    · have m1 := (((((m0.setPv i hi none).setNx i hi (some y)).setPv y hy (some i)).setHd lv sl hs64 (i :: L lv sl)).setOcc lv (occ lv ||| 2 ^ sl) hl).setPs i hi (lv * 64 + sl)
      have e : ((lv * 64 + sl : Nat) : Int) = (lv : Int) * 64 + (sl : Int) := by omega
      rw [e] at m1
      exact m1.drew
    · have oi : Own S tb n (tb i) := .inr ⟨i, hi, rfl⟩
      have oy : Own S tb n (tb y) := .inr ⟨y, hy, rfl⟩
      have os : Own S tb n S := .inl rfl
      exact (((((((Chg.refl w (Own S tb n)).drewN nq).setCell (.inl oi) _).setCell (.inl oi) _).setCell (.inl oy) _).setCell (.inl os) _).setCell (.inl os) _).setCell (.inl oi) _ |>.drew
  generalize hX : T i ^^^ cur = X at *
  have hwX : IntKind.u64.wrap (X : Int) = (X : Int) := by rw [IntKind.wrap_u64]; omega
  generalize hO : (occ lv ||| 2 ^ sl) = O2 at *
  generalize hTi : T i = Ti at *
  generalize hB : tb i = B at *
  generalize hBy : tb y = By at *
  clear hBy
  generalize hO1 : occ lv = O at *
  clear hm hlv hsl hX hh hTi hB hO hO1
  go_enter Ybad.func11, Ybad.ntmps11
  go_wp2_with fail
  go_quiet (first | (go_at_call 22; refine Calls.quiet_of_same (Ybad.bits_Len64 _ _ ?_ ?_) <;> omega))
  go_wp2_with (first | (go_at_call 23; refine (HS.out _).mono ?_; rintro e w' ⟨rfl, rfl⟩))
  go_region
  go_wp2
  go_end0
  exact ⟨rfl, HM.out _⟩

end Go.Proofs.YbulkdgzaDoor
