/-
  (*slots).add (6): a timer is laid first on the list of its place. The slots lie at place 9 of the wheel's block.
-/
import Derived.Test.YbulkdgzaBits
import Derived.Test.YbulkdgzaHeap
import Derived.Deep.QuietTactic
import Derived.BigFrame
namespace Go.Proofs.Ybulkdgza
open Go.RowKit B
set_option linter.unusedVariables false
set_option linter.unusedSimpArgs false

abbrev PT (b : Nat) : Value := .pointer (some ⟨b, 0, none⟩)

set_option maxHeartbeats 1000000 in
theorem add_none (Wb Xb tk lv sl O : Nat) (f fx : Nat → Value) (w : World) (hW : RowF w Wb 55 729 f) (hX : RowF w Xb 59 12 fx) (hne : ¬ Wb = Xb) (ht : tk < 9223372036854775808) (hlv : lev tk 0 = lv) (hsl : slot tk lv = sl) (hl : lv < 11) (hO : O < 18446744073709551616)
    (f5 : fx 5 = .int .i64 tk) (fc : f 9 = .int .i64 0) (fo : f (10 + lv) = .int .u64 O) (fh : f (21 + lv * 64 + sl) = .pointer none) :
    Calls Yba.prog 6 #[.pointer (some ⟨Wb, 9, none⟩), .pointer (some ⟨Xb, 0, none⟩)] w fun e w' => e = .returned (.tuple #[]) ∧
      RowF w' Wb 55 729 (upd (upd f (21 + lv * 64 + sl) (PT Xb)) (10 + lv) (.int .u64 ((O ||| 2 ^ sl : Nat) : Int))) ∧ RowF w' Xb 59 12 (upd (upd (upd fx 8 (.pointer none)) 7 (.pointer none)) 9 (.int .i32 ((lv : Int) * 64 + (sl : Int)))) ∧ Chg w w' (fun j => j = Wb ∨ j = Xb) := by
  have hs64 : sl < 64 := by rw [← hsl]; exact slot_lt _ _
  have hx : bits .xor .i64 (tk : Int) 0 = (tk : Int) := by have := i64_xor_nat tk 0 ht (by omega); rw [Nat.xor_zero] at this; exact this
  have hlval := lev_val tk 0 ht (by omega)
  rw [hlv, Nat.xor_zero] at hlval
  have HS : Hid (∀ w, Calls Yba.prog 15 #[.int .i64 tk, .int .i64 lv] w fun e w' => e = .returned (.int .i64 sl) ∧ w' = w) := fun w => by rw [← hsl]; exact slotOf_any tk lv w ht hl
  have hor : bits BinOp.or IntKind.u64 ((O : Nat) : Int) (IntKind.u64.wrap (2 ^ sl)) = ((O ||| 2 ^ sl : Nat) : Int) := or_bit O sl hO hs64
  have c5 := (hX.cell (i := 5) (by omega)).trans (congrArg some f5)
  have c7 := hX.cell (i := 7) (by omega)
  have c8 := hX.cell (i := 8) (by omega)
  have c9 := hX.cell (i := 9) (by omega)
  have g7 := hX.free 7
  have g8 := hX.free 8
  have g9 := hX.free 9
  have c0 := (hW.cell (i := 9) (by omega)).trans (congrArg some fc)
  have co := (hW.cell (i := 10 + lv) (by omega)).trans (congrArg some fo)
  have ch := (hW.cell (i := 21 + lv * 64 + sl) (by omega)).trans (congrArg some fh)
  have go := hW.free (10 + lv)
  have gh := hW.free (21 + lv * 64 + sl)
  have hne' : ¬ Xb = Wb := fun e => hne e.symm
  have HM : Hid (∀ nq, RowF (((((((w.drewN nq).setCell ⟨Xb, 8, none⟩ (.pointer none)).setCell ⟨Xb, 7, none⟩ (.pointer none)).setCell ⟨Wb, 21 + lv * 64 + sl, none⟩ (PT Xb)).setCell ⟨Wb, 10 + lv, none⟩ (.int .u64 ((O ||| 2 ^ sl : Nat) : Int))).setCell ⟨Xb, 9, none⟩ (.int .i32 ((lv : Int) * 64 + (sl : Int)))).drew) Wb 55 729 (upd (upd f (21 + lv * 64 + sl) (PT Xb)) (10 + lv) (.int .u64 ((O ||| 2 ^ sl : Nat) : Int))) ∧
      RowF (((((((w.drewN nq).setCell ⟨Xb, 8, none⟩ (.pointer none)).setCell ⟨Xb, 7, none⟩ (.pointer none)).setCell ⟨Wb, 21 + lv * 64 + sl, none⟩ (PT Xb)).setCell ⟨Wb, 10 + lv, none⟩ (.int .u64 ((O ||| 2 ^ sl : Nat) : Int))).setCell ⟨Xb, 9, none⟩ (.int .i32 ((lv : Int) * 64 + (sl : Int)))).drew) Xb 59 12 (upd (upd (upd fx 8 (.pointer none)) 7 (.pointer none)) 9 (.int .i32 ((lv : Int) * 64 + (sl : Int)))) ∧
      Chg w (((((((w.drewN nq).setCell ⟨Xb, 8, none⟩ (.pointer none)).setCell ⟨Xb, 7, none⟩ (.pointer none)).setCell ⟨Wb, 21 + lv * 64 + sl, none⟩ (PT Xb)).setCell ⟨Wb, 10 + lv, none⟩ (.int .u64 ((O ||| 2 ^ sl : Nat) : Int))).setCell ⟨Xb, 9, none⟩ (.int .i32 ((lv : Int) * 64 + (sl : Int)))).drew) (fun j => j = Wb ∨ j = Xb)) := by
    intro nq
    refine ⟨?_, ?_, ?_⟩
    · exact ((((((hW.drewN nq).other (fun e => hne' e) _).other (fun e => hne' e) _).set _ _).set _ _).other (fun e => hne' e) _).drew
    · exact ((((((hX.drewN nq).set _ _).set _ _).other (fun e => hne e) _).other (fun e => hne e) _).set _ _).drew
    · exact (((((((Chg.refl w (fun j => j = Wb ∨ j = Xb)).drewN nq).setCell (.inl (.inr rfl)) _).setCell (.inl (.inr rfl)) _).setCell (.inl (.inl rfl)) _).setCell (.inl (.inl rfl)) _).setCell (.inl (.inr rfl)) _).drew
  have hwX : IntKind.u64.wrap (tk : Int) = (tk : Int) := by rw [IntKind.wrap_u64]; omega
  generalize hO2 : (O ||| 2 ^ sl) = O2 at *
  clear hW hX hlv hsl hO2 f5 fc fo fh
  go_enter Yba.func6, Yba.ntmps6
  go_wp2_with fail
  go_quiet (first | (go_at_call 14; refine Calls.quiet_of_same (Yba.bits_Len64 _ _ ?_ ?_) <;> omega))
  go_wp2_with (first | (go_at_call 15; refine (HS.out _).mono ?_; rintro e w' ⟨rfl, rfl⟩))
  go_region
  go_wp2
  go_end0
  exact ⟨rfl, HM.out _⟩

set_option maxHeartbeats 1000000 in
theorem add_some (Wb Xb Yb tk lv sl O : Nat) (f fx fy : Nat → Value) (w : World) (hW : RowF w Wb 55 729 f) (hX : RowF w Xb 59 12 fx) (hY : RowF w Yb 59 12 fy) (hne : ¬ Wb = Xb) (hny : ¬ Wb = Yb) (hxy : ¬ Xb = Yb) (ht : tk < 9223372036854775808) (hlv : lev tk 0 = lv) (hsl : slot tk lv = sl) (hl : lv < 11) (hO : O < 18446744073709551616)
    (f5 : fx 5 = .int .i64 tk) (fc : f 9 = .int .i64 0) (fo : f (10 + lv) = .int .u64 O) (fh : f (21 + lv * 64 + sl) = PT Yb) :
    Calls Yba.prog 6 #[.pointer (some ⟨Wb, 9, none⟩), .pointer (some ⟨Xb, 0, none⟩)] w fun e w' => e = .returned (.tuple #[]) ∧
      RowF w' Wb 55 729 (upd (upd f (21 + lv * 64 + sl) (PT Xb)) (10 + lv) (.int .u64 ((O ||| 2 ^ sl : Nat) : Int))) ∧ RowF w' Xb 59 12 (upd (upd (upd fx 8 (.pointer none)) 7 (PT Yb)) 9 (.int .i32 ((lv : Int) * 64 + (sl : Int)))) ∧ RowF w' Yb 59 12 (upd fy 8 (PT Xb)) ∧ Chg w w' (fun j => j = Wb ∨ j = Xb ∨ j = Yb) := by
  have hs64 : sl < 64 := by rw [← hsl]; exact slot_lt _ _
  have hx : bits .xor .i64 (tk : Int) 0 = (tk : Int) := by have := i64_xor_nat tk 0 ht (by omega); rw [Nat.xor_zero] at this; exact this
  have hlval := lev_val tk 0 ht (by omega)
  rw [hlv, Nat.xor_zero] at hlval
  have HS : Hid (∀ w, Calls Yba.prog 15 #[.int .i64 tk, .int .i64 lv] w fun e w' => e = .returned (.int .i64 sl) ∧ w' = w) := fun w => by rw [← hsl]; exact slotOf_any tk lv w ht hl
  have hor : bits BinOp.or IntKind.u64 ((O : Nat) : Int) (IntKind.u64.wrap (2 ^ sl)) = ((O ||| 2 ^ sl : Nat) : Int) := or_bit O sl hO hs64
  have c5 := (hX.cell (i := 5) (by omega)).trans (congrArg some f5)
  have c7 := hX.cell (i := 7) (by omega)
  have c8 := hX.cell (i := 8) (by omega)
  have c9 := hX.cell (i := 9) (by omega)
  have g7 := hX.free 7
  have g8 := hX.free 8
  have g9 := hX.free 9
  have c0 := (hW.cell (i := 9) (by omega)).trans (congrArg some fc)
  have co := (hW.cell (i := 10 + lv) (by omega)).trans (congrArg some fo)
  have ch := (hW.cell (i := 21 + lv * 64 + sl) (by omega)).trans (congrArg some fh)
  have go := hW.free (10 + lv)
  have gh := hW.free (21 + lv * 64 + sl)
  have hne' : ¬ Xb = Wb := fun e => hne e.symm
  have hny' : ¬ Yb = Wb := fun e => hny e.symm
  have hxy' : ¬ Yb = Xb := fun e => hxy e.symm
  have d8 := hY.cell (i := 8) (by omega)
  have k8 := hY.free 8
  have HM : Hid (∀ nq, RowF ((((((((w.drewN nq).setCell ⟨Xb, 8, none⟩ (.pointer none)).setCell ⟨Xb, 7, none⟩ (PT Yb)).setCell ⟨Yb, 8, none⟩ (PT Xb)).setCell ⟨Wb, 21 + lv * 64 + sl, none⟩ (PT Xb)).setCell ⟨Wb, 10 + lv, none⟩ (.int .u64 ((O ||| 2 ^ sl : Nat) : Int))).setCell ⟨Xb, 9, none⟩ (.int .i32 ((lv : Int) * 64 + (sl : Int)))).drew) Wb 55 729 (upd (upd f (21 + lv * 64 + sl) (PT Xb)) (10 + lv) (.int .u64 ((O ||| 2 ^ sl : Nat) : Int))) ∧
      RowF ((((((((w.drewN nq).setCell ⟨Xb, 8, none⟩ (.pointer none)).setCell ⟨Xb, 7, none⟩ (PT Yb)).setCell ⟨Yb, 8, none⟩ (PT Xb)).setCell ⟨Wb, 21 + lv * 64 + sl, none⟩ (PT Xb)).setCell ⟨Wb, 10 + lv, none⟩ (.int .u64 ((O ||| 2 ^ sl : Nat) : Int))).setCell ⟨Xb, 9, none⟩ (.int .i32 ((lv : Int) * 64 + (sl : Int)))).drew) Xb 59 12 (upd (upd (upd fx 8 (.pointer none)) 7 (PT Yb)) 9 (.int .i32 ((lv : Int) * 64 + (sl : Int)))) ∧
      RowF ((((((((w.drewN nq).setCell ⟨Xb, 8, none⟩ (.pointer none)).setCell ⟨Xb, 7, none⟩ (PT Yb)).setCell ⟨Yb, 8, none⟩ (PT Xb)).setCell ⟨Wb, 21 + lv * 64 + sl, none⟩ (PT Xb)).setCell ⟨Wb, 10 + lv, none⟩ (.int .u64 ((O ||| 2 ^ sl : Nat) : Int))).setCell ⟨Xb, 9, none⟩ (.int .i32 ((lv : Int) * 64 + (sl : Int)))).drew) Yb 59 12 (upd fy 8 (PT Xb)) ∧
      Chg w ((((((((w.drewN nq).setCell ⟨Xb, 8, none⟩ (.pointer none)).setCell ⟨Xb, 7, none⟩ (PT Yb)).setCell ⟨Yb, 8, none⟩ (PT Xb)).setCell ⟨Wb, 21 + lv * 64 + sl, none⟩ (PT Xb)).setCell ⟨Wb, 10 + lv, none⟩ (.int .u64 ((O ||| 2 ^ sl : Nat) : Int))).setCell ⟨Xb, 9, none⟩ (.int .i32 ((lv : Int) * 64 + (sl : Int)))).drew) (fun j => j = Wb ∨ j = Xb ∨ j = Yb)) := by
    intro nq
    refine ⟨?_, ?_, ?_, ?_⟩
    · exact (((((((hW.drewN nq).other (fun e => hne' e) _).other (fun e => hne' e) _).other (fun e => hny e.symm) _).set _ _).set _ _).other (fun e => hne' e) _).drew
    · exact (((((((hX.drewN nq).set _ _).set _ _).other (fun e => hxy e.symm) _).other (fun e => hne e) _).other (fun e => hne e) _).set _ _).drew
    · exact (((((((hY.drewN nq).other (fun e => hxy e) _).other (fun e => hxy e) _).set _ _).other (fun e => hny e) _).other (fun e => hny e) _).other (fun e => hxy e) _).drew
    · exact ((((((((Chg.refl w (fun j => j = Wb ∨ j = Xb ∨ j = Yb)).drewN nq).setCell (.inl (.inr (.inl rfl))) _).setCell (.inl (.inr (.inl rfl))) _).setCell (.inl (.inr (.inr rfl))) _).setCell (.inl (.inl rfl)) _).setCell (.inl (.inl rfl)) _).setCell (.inl (.inr (.inl rfl))) _).drew
  have hwX : IntKind.u64.wrap (tk : Int) = (tk : Int) := by rw [IntKind.wrap_u64]; omega
  generalize hO2 : (O ||| 2 ^ sl) = O2 at *
  clear hW hX hY hlv hsl hO2 f5 fc fo fh
  go_enter Yba.func6, Yba.ntmps6
  go_wp2_with fail
  go_quiet (first | (go_at_call 14; refine Calls.quiet_of_same (Yba.bits_Len64 _ _ ?_ ?_) <;> omega))
  go_wp2_with (first | (go_at_call 15; refine (HS.out _).mono ?_; rintro e w' ⟨rfl, rfl⟩))
  go_region
  go_wp2
  go_end0
  exact ⟨rfl, HM.out _⟩
end Go.Proofs.Ybulkdgza
