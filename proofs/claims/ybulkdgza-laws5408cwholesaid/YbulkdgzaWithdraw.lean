/-
  Timer.withdraw (23): a select with a default, alone.
-/
import Derived.Test.YbulkdgzaProg
import Derived.Test.YbulkdgzaHeap
import Derived.Conc.LoneCalls
import Derived.Conc.LoneSelect
import Derived.KernelRfl
import Derived.Laws.Rows
namespace Go.Proofs.Ybulkdgza
open Go.Conc Go.RowKit
set_option linter.unusedVariables false
set_option linter.unusedSimpArgs false

set_option maxRecDepth 100000 in
set_option maxHeartbeats 400000 in
theorem withdraw_nil (Tb : Nat)  (w : World) (c3 : w.cell? ⟨Tb, 3, none⟩ = some (.chan none))  :
    Calls Yba.prog 23 #[.pointer (some ⟨Tb, 0, none⟩)] w fun e w' => e = .returned (.bool false) ∧ w' = w := by
  refine calls_of_loneTo fun cs => ?_
  have e : Frame.enter Yba.prog 23 #[.pointer (some ⟨Tb, 0, none⟩)] .normal = (base 23).at ⟨#[.pointer (some ⟨Tb, 0, none⟩), undef, undef, undef, undef, undef, undef, undef, undef, undef], []⟩ [.code (Yba.f23.body.getD .skip)] := by
    simp [Frame.enter, Frame.at, Yba.func23, base, Yba.f23]
    try rfl
  rw [e]
  refine LoneTo.goes (n := 13) ?_
  simp only [Yba.f23, Option.getD_some]
  s_c stepG_seq
  s_reg
  s_op
  s_c stepG_region_end
  s_c stepG_seq
  s_reg
  s_op
  s_op
  s_op
  s_op
  s_c stepG_region_end
  s_c stepG_seq
  s_reg
  s_stop
  refine LoneTo.step (step_lone_select_recv_nil (z := (.agg #[.int .u64 0, .int .i64 0, .pointer none])) (stepG_comm (cases := #[rcaseNil (.agg #[.int .u64 0, .int .i64 0, .pointer none])]) (blocking := false) (shape := .select) (w' := w) rfl rfl (by decide) (by simp [go_sem, execOp, rcaseNil, Act.eval]))) ?_
  rw [Frame.finish_at]
  walk_nrm
  refine LoneTo.goes (n := 10) ?_
  s_op
  s_op
  s_c stepG_region_end
  s_c stepG_block
  s_cond false
  s_c stepG_seq
  s_reg
  s_op
  s_c stepG_region_end
  s_c stepG_ret'
  s_stop
  refine LoneTo.done ⟨.returned (.bool false), _, rfl, ⟨rfl, rfl⟩, rfl, rfl, rfl, rfl, _, Yba.func23, by simp [results, Yba.f23, Frame.at]⟩

set_option maxRecDepth 100000 in
set_option maxHeartbeats 400000 in
theorem withdraw_empty (Tb : Nat) (c cap s r : Nat) (tm : Bool) (w : World) (c3 : w.cell? ⟨Tb, 3, none⟩ = some (.chan (some c))) (hc : w.heap[c]? = some (.chan cap #[] false s r tm)) :
    Calls Yba.prog 23 #[.pointer (some ⟨Tb, 0, none⟩)] w fun e w' => e = .returned (.bool false) ∧ w' = w := by
  refine calls_of_loneTo fun cs => ?_
  have e : Frame.enter Yba.prog 23 #[.pointer (some ⟨Tb, 0, none⟩)] .normal = (base 23).at ⟨#[.pointer (some ⟨Tb, 0, none⟩), undef, undef, undef, undef, undef, undef, undef, undef, undef], []⟩ [.code (Yba.f23.body.getD .skip)] := by
    simp [Frame.enter, Frame.at, Yba.func23, base, Yba.f23]
    try rfl
  rw [e]
  refine LoneTo.goes (n := 13) ?_
  simp only [Yba.f23, Option.getD_some]
  s_c stepG_seq
  s_reg
  s_op
  s_c stepG_region_end
  s_c stepG_seq
  s_reg
  s_op
  s_op
  s_op
  s_op
  s_c stepG_region_end
  s_c stepG_seq
  s_reg
  s_stop
  refine LoneTo.step (step_lone_select_default (c := c) (z := (.agg #[.int .u64 0, .int .i64 0, .pointer none])) (cap := cap) (s := s) (r := r) (tm := tm) (stepG_comm (cases := #[rcase c (.agg #[.int .u64 0, .int .i64 0, .pointer none])]) (blocking := false) (shape := .select) (w' := w) rfl rfl (by decide) (by simp [go_sem, execOp, rcase, Act.eval])) hc) ?_
  rw [Frame.finish_at]
  walk_nrm
  refine LoneTo.goes (n := 10) ?_
  s_op
  s_op
  s_c stepG_region_end
  s_c stepG_block
  s_cond false
  s_c stepG_seq
  s_reg
  s_op
  s_c stepG_region_end
  s_c stepG_ret'
  s_stop
  refine LoneTo.done ⟨.returned (.bool false), _, rfl, ⟨rfl, rfl⟩, rfl, rfl, rfl, rfl, _, Yba.func23, by simp [results, Yba.f23, Frame.at]⟩

set_option maxRecDepth 100000 in
set_option maxHeartbeats 400000 in
theorem withdraw_full (Tb : Nat) (c cap s r : Nat) (tm : Bool) (v : Value) (w : World) (c3 : w.cell? ⟨Tb, 3, none⟩ = some (.chan (some c))) (hc : w.heap[c]? = some (.chan cap #[v] false s r tm)) :
    Calls Yba.prog 23 #[.pointer (some ⟨Tb, 0, none⟩)] w fun e w' => e = .returned (.bool true) ∧ w' = w.setChan c cap (#[v].extract 1 #[v].size) false s (r + 1) tm := by
  refine calls_of_loneTo fun cs => ?_
  have e : Frame.enter Yba.prog 23 #[.pointer (some ⟨Tb, 0, none⟩)] .normal = (base 23).at ⟨#[.pointer (some ⟨Tb, 0, none⟩), undef, undef, undef, undef, undef, undef, undef, undef, undef], []⟩ [.code (Yba.f23.body.getD .skip)] := by
    simp [Frame.enter, Frame.at, Yba.func23, base, Yba.f23]
    try rfl
  rw [e]
  refine LoneTo.goes (n := 13) ?_
  simp only [Yba.f23, Option.getD_some]
  s_c stepG_seq
  s_reg
  s_op
  s_c stepG_region_end
  s_c stepG_seq
  s_reg
  s_op
  s_op
  s_op
  s_op
  s_c stepG_region_end
  s_c stepG_seq
  s_reg
  s_stop
  refine LoneTo.step (step_lone_select_recv_buf (c := c) (z := (.agg #[.int .u64 0, .int .i64 0, .pointer none])) (stepG_comm (cases := #[rcase c (.agg #[.int .u64 0, .int .i64 0, .pointer none])]) (blocking := false) (shape := .select) (w' := w) rfl rfl (by decide) (by simp [go_sem, execOp, rcase, Act.eval])) hc (by simp)) ?_
  rw [Frame.finish_at]
  walk_nrm
  refine LoneTo.goes (n := 10) ?_
  s_op
  s_op
  s_c stepG_region_end
  s_c stepG_block
  s_cond true
  s_c stepG_seq
  s_reg
  s_op
  s_c stepG_region_end
  s_c stepG_ret'
  s_stop
  refine LoneTo.done ⟨.returned (.bool true), _, rfl, ⟨rfl, rfl⟩, rfl, rfl, rfl, rfl, _, Yba.func23, by simp [results, Yba.f23, Frame.at]⟩
end Go.Proofs.Ybulkdgza
