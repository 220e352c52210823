/-
  Wheel.disarm (18).
-/
import Derived.Test.YbulkdgzaDue
import Derived.Deep.RegionHeld3
namespace Go.Proofs.Ybulkdgza
open Go.RowKit B
set_option linter.unusedVariables false
set_option linter.unusedSimpArgs false

set_option maxHeartbeats 400000 in
/-- A closed wheel. -/
theorem disarm_closed (Wb Tb : Nat) (b : Bool) (w : World) (G : World → Prop) (c : w.cell? ⟨Wb, 727, none⟩ = some (.bool true)) (HA : Hid (Calls Yba.prog 23 #[.pointer (some ⟨Tb, 0, none⟩)] w fun e w' => e = .returned (.bool b) ∧ G w')) :
    Calls Yba.prog 18 #[.pointer (some ⟨Wb, 0, none⟩), .pointer (some ⟨Tb, 0, none⟩)] w fun e w' => e = .returned (.bool b) ∧ G w' := by
  go_enter Yba.func18, Yba.ntmps18
  go_wp2_with fail
  refine Calls.mono HA.out ?_
  rintro e w2 ⟨rfl, hg⟩
  have GG : Hid (G w2) := hg
  clear hg HA c
  go_wp2
  go_ret
  exact ⟨rfl, GG.out⟩

set_option maxHeartbeats 400000 in
/-- An idle timer. -/
theorem disarm_idle (Wb Tb : Nat) (b : Bool) (w : World) (G : World → Prop) (c : w.cell? ⟨Wb, 727, none⟩ = some (.bool false)) (c10 : w.cell? ⟨Tb, 10, none⟩ = some (.int .u8 0)) (HA : Hid (Calls Yba.prog 23 #[.pointer (some ⟨Tb, 0, none⟩)] w fun e w' => e = .returned (.bool b) ∧ G w')) :
    Calls Yba.prog 18 #[.pointer (some ⟨Wb, 0, none⟩), .pointer (some ⟨Tb, 0, none⟩)] w fun e w' => e = .returned (.bool b) ∧ G w' := by
  go_enter Yba.func18, Yba.ntmps18
  go_wp2_with fail
  refine Calls.mono HA.out ?_
  rintro e w2 ⟨rfl, hg⟩
  have GG : Hid (G w2) := hg
  clear hg HA c c10
  go_wp2
  go_ret
  exact ⟨rfl, GG.out⟩

set_option maxHeartbeats 400000 in
/-- A queued timer. -/
theorem disarm_queued (Wb Tb : Nat) (p : Int) (w : World) (f1 t1 : Nat → Value) (G : World → Prop) (hne : ¬ Wb = Tb) (c : w.cell? ⟨Wb, 727, none⟩ = some (.bool false)) (c10 : w.cell? ⟨Tb, 10, none⟩ = some (.int .u8 1)) (fp : f1 726 = .int .i64 p) (hp : 0 ≤ p) (hp2 : p ≤ 1000)
    (HA : Hid (Calls Yba.prog 24 #[.pointer (some ⟨Wb, 9, none⟩), .pointer (some ⟨Tb, 0, none⟩)] w fun e w' => e = .returned (.tuple #[]) ∧ RowF w' Wb 55 729 f1 ∧ RowF w' Tb 59 12 t1 ∧ G w')) (HG : Hid (∀ W v, G W → G (W.setCell ⟨Wb, 726, none⟩ v))) (HGt : Hid (∀ W v, G W → G (W.setCell ⟨Tb, 10, none⟩ v))) :
    Calls Yba.prog 18 #[.pointer (some ⟨Wb, 0, none⟩), .pointer (some ⟨Tb, 0, none⟩)] w fun e w' => e = .returned (.bool true) ∧ RowF w' Wb 55 729 (upd f1 726 (.int .i64 (p - 1))) ∧ RowF w' Tb 59 12 (upd t1 10 (.int .u8 0)) ∧ G w' := by
  have hne' : ¬ Tb = Wb := fun e => hne e.symm
  go_enter Yba.func18, Yba.ntmps18
  go_wp2_with fail
  refine Calls.mono HA.out ?_
  rintro e w2 ⟨rfl, r2, s2, hg⟩
  have GG : Hid (G w2) := hg
  have R2 : Hid (RowF w2 Wb 55 729 f1) := r2
  have S2 : Hid (RowF w2 Tb 59 12 t1) := s2
  have k := (r2.cell (i := 726) (by omega)).trans (congrArg some fp)
  have gk := r2.free 726
  have k10 := s2.cell (i := 10) (by omega)
  have g10 := s2.free 10
  clear hg HA c c10 r2 s2 fp
  go_wp2
  go_ret
  exact ⟨rfl, (R2.out.other (fun e => hne' e) _).set 726 _, (S2.out.set 10 _).other (fun e => hne e) _, HG.out _ _ (HGt.out _ _ GG.out)⟩

set_option maxHeartbeats 400000 in
/-- A timer that is due. -/
theorem disarm_due (Wb Tb : Nat) (p : Int) (w : World) (f1 t1 : Nat → Value) (G : World → Prop) (hne : ¬ Wb = Tb) (c : w.cell? ⟨Wb, 727, none⟩ = some (.bool false)) (c10 : w.cell? ⟨Tb, 10, none⟩ = some (.int .u8 2)) (c9 : w.cell? ⟨Tb, 9, none⟩ = some (.int .i32 0)) (fp : f1 726 = .int .i64 p) (hp : 0 ≤ p) (hp2 : p ≤ 1000)
    (HA : Hid (Calls Yba.prog 25 #[.pointer (some ⟨Wb, 725, none⟩), .int .i64 0] w.drew fun e w' => e = .returned (.tuple #[]) ∧ RowF w' Wb 55 729 f1 ∧ RowF w' Tb 59 12 t1 ∧ G w')) (HG : Hid (∀ W v, G W → G (W.setCell ⟨Wb, 726, none⟩ v))) (HGt : Hid (∀ W v, G W → G (W.setCell ⟨Tb, 10, none⟩ v))) :
    Calls Yba.prog 18 #[.pointer (some ⟨Wb, 0, none⟩), .pointer (some ⟨Tb, 0, none⟩)] w fun e w' => e = .returned (.bool true) ∧ RowF w' Wb 55 729 (upd f1 726 (.int .i64 (p - 1))) ∧ RowF w' Tb 59 12 (upd t1 10 (.int .u8 0)) ∧ G w' := by
  have hne' : ¬ Tb = Wb := fun e => hne e.symm
  go_enter Yba.func18, Yba.ntmps18
  go_wp2_with fail
  go_region_with (first | (go_at_call 25; refine Calls.mono HA.out ?_; rintro e w2 ⟨rfl, r2, s2, hg⟩))
  have GG : Hid (G w2) := hg
  have R2 : Hid (RowF w2 Wb 55 729 f1) := r2
  have S2 : Hid (RowF w2 Tb 59 12 t1) := s2
  have k := (r2.cell (i := 726) (by omega)).trans (congrArg some fp)
  have gk := r2.free 726
  have k10 := s2.cell (i := 10) (by omega)
  have g10 := s2.free 10
  clear hg HA c c10 c9 r2 s2 fp
  go_wp2
  go_ret
  exact ⟨rfl, (R2.out.other (fun e => hne' e) _).set 726 _, (S2.out.set 10 _).other (fun e => hne e) _, HG.out _ _ (HGt.out _ _ GG.out)⟩
end Go.Proofs.Ybulkdgza
