/-
  Wheel.arm (19) on an open wheel.
-/
import Derived.Test.YbulkdgzaArm
namespace Go.Proofs.Ybulkdgza
open Go.RowKit B
set_option linter.unusedVariables false
set_option linter.unusedSimpArgs false

theorem inv70 (x : Value) (w : World) : (invoke (.fn (.method "example.com/kalachakra/kalachakra.stamp") #[]) #[.iface 25 x]).run Yba.prog w = .ok (.enter 70 #[x]) w := by kernel_rfl

set_option maxRecDepth 100000 in
/-- The call through the interface. -/
theorem wl_stamp {w : World} {ops : Array Oper} {rest : List Oper} {d : Option Tmp} {ty : TypeId} {pos : String} {aft : Array Edge} {r : Operand} {a : Act} {Q : Exit → Act → World → Prop} (x : Value) (hr : a.eval r = .iface 25 x)
    (h : Calls Yba.prog 70 #[x] w fun e w' => ∃ v, e = .returned v ∧ wpList Yba.prog ops Q rest (a.put d v) w') :
    wpList Yba.prog ops Q ({ dst := d, op := .call { callee := .invoke r "example.com/kalachakra/kalachakra.stamp", args := #[], argTypes := #[] }, type := ty, pos := pos, after := aft, guard := none } :: rest) a w :=
  wpList_plain rfl fun K hK => by
    unfold Oper.wp
    have e : (execOp a.eval { dst := d, op := .call { callee := .invoke r "example.com/kalachakra/kalachakra.stamp", args := #[], argTypes := #[] }, type := ty, pos := pos, after := aft, guard := none }).run Yba.prog w = .ok (.enter 70 #[x]) w := by
      have h1 := inv70 x w
      generalize hI : invoke (.fn (.method "example.com/kalachakra/kalachakra.stamp") #[]) #[.iface 25 x] = I at h1
      simp only [execOp, resolve, hr]
      simp [hI]
      exact h1
    rw [e, Oper.upon_enter]
    refine h.mono ?_
    rintro e w' ⟨v, rfl, hw⟩
    exact hK _ _ hw

set_option maxRecDepth 100000 in
set_option maxHeartbeats 400000 in
theorem arm_core (Wb Tb Cb n s : Nat) (seq d off dl : Int) (w : World) (k0 : w.cell? ⟨Wb, 0, none⟩ = some (.iface 25 (.pointer (some ⟨Cb, 0, none⟩)))) (c : w.cell? ⟨Wb, 727, none⟩ = some (.bool false))
    (Kp G : World → Prop) (ko : ∀ W, Kp W → W.cell? ⟨Wb, 1, none⟩ = some (.int .u64 0) ∧ W.cell? ⟨Wb, 2, none⟩ = some (.int .i64 0) ∧ W.cell? ⟨Wb, 3, none⟩ = some (.pointer none)) (ka : ∀ W o, Kp W → Kp (W.alloc o)) (kd : ∀ W, Kp W → Kp W.drew)
    (HS : Hid (Calls Yba.prog 70 #[.pointer (some ⟨Cb, 0, none⟩)] w fun e w' => e = .returned (.tuple #[.agg #[.int .u64 n, .int .i64 s, .pointer none], .int .u64 seq]) ∧ Kp w'))
    (HSub : Hid (∀ (b : Nat) (W : World), (W.cell? ⟨b, 0, none⟩ = some (.int .u64 n) ∧ W.cell? ⟨b, 1, none⟩ = some (.int .i64 s) ∧ W.cell? ⟨b, 2, none⟩ = some (.pointer none) ∧ W.cell? ⟨Wb, 1, none⟩ = some (.int .u64 0) ∧ W.cell? ⟨Wb, 2, none⟩ = some (.int .i64 0) ∧ W.cell? ⟨Wb, 3, none⟩ = some (.pointer none) ∧ Kp W) → Calls Yba.prog 26 #[.agg #[.int .u64 n, .int .i64 s, .pointer none], .agg #[.int .u64 0, .int .i64 0, .pointer none]] W (fun e W' => e = .returned (.int .i64 off) ∧ (W'.cell? ⟨b, 0, none⟩ = some (.int .u64 n) ∧ W'.cell? ⟨b, 1, none⟩ = some (.int .i64 s) ∧ W'.cell? ⟨b, 2, none⟩ = some (.pointer none) ∧ W'.cell? ⟨Wb, 1, none⟩ = some (.int .u64 0) ∧ W'.cell? ⟨Wb, 2, none⟩ = some (.int .i64 0) ∧ W'.cell? ⟨Wb, 3, none⟩ = some (.pointer none) ∧ Kp W'))))
    (HD : Hid (∀ W, Calls Yba.prog 28 #[.int .i64 off, .int .i64 d] W fun e w' => e = .returned (.int .i64 dl) ∧ w' = W))
    (HQ : Hid (∀ W, Kp W → Calls Yba.prog 27 #[.pointer (some ⟨Wb, 0, none⟩), .pointer (some ⟨Tb, 0, none⟩), .int .i64 off, .int .i64 dl, .int .u64 seq] W fun e w' => e = .returned (.tuple #[]) ∧ G w')) :
    Calls Yba.prog 19 #[.pointer (some ⟨Wb, 0, none⟩), .pointer (some ⟨Tb, 0, none⟩), .int .i64 d] w fun e w' => e = .returned (.tuple #[]) ∧ G w' := by
  have KO : Hid (∀ W, Kp W → W.cell? ⟨Wb, 1, none⟩ = some (.int .u64 0) ∧ W.cell? ⟨Wb, 2, none⟩ = some (.int .i64 0) ∧ W.cell? ⟨Wb, 3, none⟩ = some (.pointer none)) := ko
  have KA : Hid (∀ W o, Kp W → Kp (W.alloc o)) := ka
  have KD : Hid (∀ W, Kp W → Kp W.drew) := kd
  clear ko ka kd
  go_enter Yba.func19, Yba.ntmps19
  go_wp2_with (refine wl_stamp _ rfl ?_)
  refine Calls.mono HS.out ?_
  rintro e w2 ⟨rfl, hk⟩
  refine ⟨_, rfl, ?_⟩
  have K2 : Hid (Kp w2) := hk
  clear hk HS k0 c
  go_wp2_with fail
  have z0 : (w2.alloc (.cells #[.int .u64 n, .int .i64 s, .pointer none] 28)).cell? ⟨w2.heap.size, 0, none⟩ = some (.int .u64 n) := by simp
  have z1 : (w2.alloc (.cells #[.int .u64 n, .int .i64 s, .pointer none] 28)).cell? ⟨w2.heap.size, 1, none⟩ = some (.int .i64 s) := by simp
  have z2 : (w2.alloc (.cells #[.int .u64 n, .int .i64 s, .pointer none] 28)).cell? ⟨w2.heap.size, 2, none⟩ = some (.pointer none) := by simp
  have z6 : Kp (w2.alloc (.cells #[.int .u64 n, .int .i64 s, .pointer none] 28)) := KA.out _ _ K2.out
  obtain ⟨z3, z4, z5⟩ := KO.out _ z6
  generalize (w2.alloc (.cells #[.int .u64 n, .int .i64 s, .pointer none] 28)) = w3 at *
  generalize w2.heap.size = g at *
  have z7 := KD.out _ z6
  clear KA KO K2
  go_region_held3 (fun W => W.cell? ⟨g, 0, none⟩ = some (.int .u64 n) ∧ W.cell? ⟨g, 1, none⟩ = some (.int .i64 s) ∧ W.cell? ⟨g, 2, none⟩ = some (.pointer none) ∧ W.cell? ⟨Wb, 1, none⟩ = some (.int .u64 0) ∧ W.cell? ⟨Wb, 2, none⟩ = some (.int .i64 0) ∧ W.cell? ⟨Wb, 3, none⟩ = some (.pointer none) ∧ Kp W) (first | exact ⟨z0, z1, z2, z3, z4, z5, z7⟩ | assumption) (first | (go_at_call 26; refine Calls.mono (HSub.out _ _ (by assumption)) ?_; rintro e W1 ⟨rfl, d1⟩))
  rename_i d1
  have KK : Hid (Kp _) := d1.2.2.2.2.2.2
  clear d1 z0 z1 z2 z3 z4 z5 z6 z7 HSub KD
  go_wp2_with fail
  refine Calls.mono (HD.out _) ?_
  rintro e w4 ⟨rfl, rfl⟩
  go_wp2_with fail
  refine Calls.mono (HQ.out _ KK.out) ?_
  rintro e w5 ⟨rfl, hg⟩
  have GG : Hid (G w5) := hg
  clear hg HQ HD KK
  go_wp2
  go_end0
  exact ⟨rfl, GG.out⟩
end Go.Proofs.Ybulkdgza
