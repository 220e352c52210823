/-
  Timer.Reset (8): the lock is taken, the timer disarmed and armed, the lock given back.
-/
import Derived.Test.YbulkdgzaDisarm
import Derived.Test.YbulkdgzaArm2
import Derived.Test.YbulkdgzaWithdraw
import Derived.Test.YbulkdgzaLocks
import Derived.Conc.MuLone
namespace Go.Proofs.Ybulkdgza
open Go.RowKit B Go.MuLone
set_option linter.unusedVariables false
set_option linter.unusedSimpArgs false

set_option maxHeartbeats 400000 in
theorem reset_core (Wb Tb : Nat) (d : Int) (b : Bool) (w : World) (G1 G2 : World → Prop) (hne : ¬ Wb = Tb) (c1 : w.cell? ⟨Tb, 1, none⟩ = some (PT Wb)) (c7 : w.cell? ⟨Wb, 7, none⟩ = some (.int .i32 0)) (f7 : w.frozen? ⟨Wb, 7, none⟩ = false)
    (h1 : ∀ W, G1 W → W.cell? ⟨Tb, 1, none⟩ = some (PT Wb)) (h2 : ∀ W, G2 W → W.cell? ⟨Wb, 7, none⟩ = some (.int .i32 1) ∧ W.frozen? ⟨Wb, 7, none⟩ = false)
    (HD : Hid (Calls Yba.prog 18 #[.pointer (some ⟨Wb, 0, none⟩), .pointer (some ⟨Tb, 0, none⟩)] (w.setCell ⟨Wb, 7, none⟩ (.int .i32 1)) fun e w' => e = .returned (.bool b) ∧ G1 w'))
    (HA : Hid (∀ W, G1 W → Calls Yba.prog 19 #[.pointer (some ⟨Wb, 0, none⟩), .pointer (some ⟨Tb, 0, none⟩), .int .i64 d] W fun e w' => e = .returned (.tuple #[]) ∧ G2 w')) :
    Calls Yba.prog 8 #[.pointer (some ⟨Tb, 0, none⟩), .int .i64 d] w fun e w' => e = .returned (.bool b) ∧ ∃ W, G2 W ∧ w' = W.setCell ⟨Wb, 7, none⟩ (.int .i32 0) := by
  have hne' : ¬ Tb = Wb := fun e => hne e.symm
  have H1 : Hid (∀ W, G1 W → W.cell? ⟨Tb, 1, none⟩ = some (PT Wb)) := h1
  have H2 : Hid (∀ W, G2 W → W.cell? ⟨Wb, 7, none⟩ = some (.int .i32 1) ∧ W.frozen? ⟨Wb, 7, none⟩ = false) := h2
  clear h1 h2
  go_enter_defers Yba.func8, Yba.ntmps8
  go_wp2_with (first | (go_at_call 16; refine (lock_free Yba.muLib ⟨Wb, 7, none⟩ _ c7 f7).mono ?_; rintro e w' ⟨rfl, rfl⟩))
  refine Calls.mono HD.out ?_
  rintro e w2 ⟨rfl, hg1⟩
  have k1 := H1.out _ hg1
  have HA2 : Hid _ := HA.out _ hg1
  clear HD HA H1 hg1 c1 c7 f7
  go_wp2_with fail
  refine Calls.mono HA2.out ?_
  rintro e w3 ⟨rfl, hg2⟩
  obtain ⟨k7, g7⟩ := H2.out _ hg2
  have G3 : Hid (G2 w3) := hg2
  clear HA2 H2 hg2 k1
  go_wp2_with fail
  refine leaves_cons (f := 17) (args := #[.pointer (some ⟨Wb, 7, none⟩)]) (by simp) (by simp [go_sem]) ?_
  refine (unlock_deferred Yba.muLib ⟨Wb, 7, none⟩ .returning _ k7 g7).mono ?_
  rintro e u' w'' ⟨rfl, rfl, rfl⟩
  exact ⟨_, results_tmp rfl _ _ _, rfl, _, G3.out, rfl⟩
end Go.Proofs.Ybulkdgza
