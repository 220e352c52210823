/-
  (*slots).remove (24), of a timer that stands first on its list.
-/
import Derived.Test.YbulkdgzaAdd
namespace Go.Proofs.Ybulkdgza
open Go.RowKit B
set_option linter.unusedVariables false
set_option linter.unusedSimpArgs false

theorem andNot_bit (O s : Nat) (hO : O < 18446744073709551616) (hs : s < 64) : bits BinOp.andNot IntKind.u64 ((O : Nat) : Int) (IntKind.u64.wrap (2 ^ s)) = ((O &&& (18446744073709551615 - 2 ^ s) : Nat) : Int) := by
  have h2 : 2 ^ s < 2 ^ 64 := Nat.pow_lt_pow_right (by omega) hs
  have e : IntKind.u64.wrap (2 ^ s) = ((2 ^ s : Nat) : Int) := by
    rw [IntKind.wrap_u64]
    have e2 : ((2 : Int) ^ s) = ((2 ^ s : Nat) : Int) := by simp
    rw [e2]
    generalize 2 ^ s = q at *
    omega
  rw [e, u64_andNot_nat O (2 ^ s) hO (by omega)]

set_option maxHeartbeats 1000000 in
/-- It stands alone. -/
theorem remove_last (Wb Xb lv sl O : Nat) (f fx : Nat → Value) (w : World) (hW : RowF w Wb 55 729 f) (hX : RowF w Xb 59 12 fx) (hne : ¬ Wb = Xb) (hl : lv < 11) (hs64 : sl < 64) (hO : O < 18446744073709551616)
    (f7 : fx 7 = .pointer none) (f8 : fx 8 = .pointer none) (f9 : fx 9 = .int .i32 ((lv : Int) * 64 + (sl : Int))) (fo : f (10 + lv) = .int .u64 O) :
    Calls Yba.prog 24 #[.pointer (some ⟨Wb, 9, none⟩), .pointer (some ⟨Xb, 0, none⟩)] w fun e w' => e = .returned (.tuple #[]) ∧
      RowF w' Wb 55 729 (upd (upd f (21 + lv * 64 + sl) (.pointer none)) (10 + lv) (.int .u64 ((O &&& (18446744073709551615 - 2 ^ sl) : Nat) : Int))) ∧ RowF w' Xb 59 12 (upd (upd fx 8 (.pointer none)) 7 (.pointer none)) ∧ Chg w w' (fun j => j = Wb ∨ j = Xb) := by
  have hand := andNot_bit O sl hO hs64
  have q0 : IntKind.i64.wrap ((lv : Int) * 64 + (sl : Int)) = (lv : Int) * 64 + (sl : Int) := by rw [IntKind.wrap_i64]; omega
  have q3 : IntKind.i64.wrap (lv : Int) = (lv : Int) := by rw [IntKind.wrap_i64]; omega
  have q4 : IntKind.i64.wrap (sl : Int) = (sl : Int) := by rw [IntKind.wrap_i64]; omega
  have q1 : ((lv : Int) * 64 + (sl : Int)).tdiv 64 = (lv : Int) := by rw [Int.tdiv_eq_ediv_of_nonneg (by omega)]; omega
  have q2 : ((lv : Int) * 64 + (sl : Int)).tmod 64 = (sl : Int) := by rw [Int.tmod_eq_emod_of_nonneg (by omega)]; omega
  have c7 := (hX.cell (i := 7) (by omega)).trans (congrArg some f7)
  have c8 := (hX.cell (i := 8) (by omega)).trans (congrArg some f8)
  have c9 := (hX.cell (i := 9) (by omega)).trans (congrArg some f9)
  have g7 := hX.free 7
  have g8 := hX.free 8
  have co := (hW.cell (i := 10 + lv) (by omega)).trans (congrArg some fo)
  have ch := hW.cell (i := 21 + lv * 64 + sl) (by omega)
  have go := hW.free (10 + lv)
  have gh := hW.free (21 + lv * 64 + sl)
  have hne' : ¬ Xb = Wb := fun e => hne e.symm
  have hl' : (lv : Int) < 11 := by omega
  have hs' : (sl : Int) < 64 := by omega
  generalize hO2 : (O &&& (18446744073709551615 - 2 ^ sl)) = O2 at *
  have HW : Hid (RowF w Wb 55 729 f) := hW
  have HX : Hid (RowF w Xb 59 12 fx) := hX
  clear hO2 f7 f8 f9 fo hW hX
  go_enter Yba.func24, Yba.ntmps24
  go_wp2
  go_quiet (fail)
  go_wp2
  go_region
  go_wp2
  go_region
  go_wp2
  go_end0
  refine ⟨rfl, ?_, ?_, ?_⟩
  · exact (((((HW.out.drewN (nq + 1)).set _ _).other (fun e => hne' e) _).other (fun e => hne' e) _).set _ _).drew
  · exact (((((HX.out.drewN (nq + 1)).other (fun e => hne e) _).set _ _).set _ _).other (fun e => hne e) _).drew
  · exact ((((((Chg.refl w (fun j => j = Wb ∨ j = Xb)).drewN (nq + 1)).setCell (.inl (.inl rfl)) _).setCell (.inl (.inr rfl)) _).setCell (.inl (.inr rfl)) _).setCell (.inl (.inl rfl)) _).drew

set_option maxHeartbeats 1000000 in
/-- Another stands behind it. -/
theorem remove_first (Wb Xb Yb lv sl : Nat) (f fx fy : Nat → Value) (w : World) (hW : RowF w Wb 55 729 f) (hX : RowF w Xb 59 12 fx) (hY : RowF w Yb 59 12 fy) (hne : ¬ Wb = Xb) (hny : ¬ Wb = Yb) (hxy : ¬ Xb = Yb) (hl : lv < 11) (hs64 : sl < 64)
    (f7 : fx 7 = PT Yb) (f8 : fx 8 = .pointer none) (f9 : fx 9 = .int .i32 ((lv : Int) * 64 + (sl : Int))) :
    Calls Yba.prog 24 #[.pointer (some ⟨Wb, 9, none⟩), .pointer (some ⟨Xb, 0, none⟩)] w fun e w' => e = .returned (.tuple #[]) ∧
      RowF w' Wb 55 729 (upd f (21 + lv * 64 + sl) (PT Yb)) ∧ RowF w' Xb 59 12 (upd (upd fx 8 (.pointer none)) 7 (.pointer none)) ∧ RowF w' Yb 59 12 (upd fy 8 (.pointer none)) ∧ Chg w w' (fun j => j = Wb ∨ j = Xb ∨ j = Yb) := by
  have q0 : IntKind.i64.wrap ((lv : Int) * 64 + (sl : Int)) = (lv : Int) * 64 + (sl : Int) := by rw [IntKind.wrap_i64]; omega
  have q3 : IntKind.i64.wrap (lv : Int) = (lv : Int) := by rw [IntKind.wrap_i64]; omega
  have q4 : IntKind.i64.wrap (sl : Int) = (sl : Int) := by rw [IntKind.wrap_i64]; omega
  have q1 : ((lv : Int) * 64 + (sl : Int)).tdiv 64 = (lv : Int) := by rw [Int.tdiv_eq_ediv_of_nonneg (by omega)]; omega
  have q2 : ((lv : Int) * 64 + (sl : Int)).tmod 64 = (sl : Int) := by rw [Int.tmod_eq_emod_of_nonneg (by omega)]; omega
  have c7 := (hX.cell (i := 7) (by omega)).trans (congrArg some f7)
  have c8 := (hX.cell (i := 8) (by omega)).trans (congrArg some f8)
  have c9 := (hX.cell (i := 9) (by omega)).trans (congrArg some f9)
  have d8 := hY.cell (i := 8) (by omega)
  have g7 := hX.free 7
  have g8 := hX.free 8
  have k8 := hY.free 8
  have ch := hW.cell (i := 21 + lv * 64 + sl) (by omega)
  have gh := hW.free (21 + lv * 64 + sl)
  have hne' : ¬ Xb = Wb := fun e => hne e.symm
  have hny' : ¬ Yb = Wb := fun e => hny e.symm
  have hxy' : ¬ Yb = Xb := fun e => hxy e.symm
  have hl' : (lv : Int) < 11 := by omega
  have hs' : (sl : Int) < 64 := by omega
  have HW : Hid (RowF w Wb 55 729 f) := hW
  have HX : Hid (RowF w Xb 59 12 fx) := hX
  have HY : Hid (RowF w Yb 59 12 fy) := hY
  clear f7 f8 f9 hW hX hY
  go_enter Yba.func24, Yba.ntmps24
  go_wp2
  go_quiet (fail)
  go_wp2
  go_region
  go_wp2
  go_region
  go_wp2
  go_end0
  refine ⟨rfl, ?_, ?_, ?_, ?_⟩
  · exact (((((HW.out.drewN (nq + 1)).set _ _).other (fun e => hny' e) _).other (fun e => hne' e) _).other (fun e => hne' e) _).drew
  · exact (((((HX.out.drewN (nq + 1)).other (fun e => hne e) _).other (fun e => hxy' e) _).set _ _).set _ _).drew
  · exact (((((HY.out.drewN (nq + 1)).other (fun e => hny e) _).set _ _).other (fun e => hxy e) _).other (fun e => hxy e) _).drew
  · exact ((((((Chg.refl w (fun j => j = Wb ∨ j = Xb ∨ j = Yb)).drewN (nq + 1)).setCell (.inl (.inl rfl)) _).setCell (.inl (.inr (.inr rfl))) _).setCell (.inl (.inr (.inl rfl))) _).setCell (.inl (.inr (.inl rfl))) _).drew
end Go.Proofs.Ybulkdgza
