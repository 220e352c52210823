/-
  stamp (70), Wheel.arm (19).
-/
import Derived.Test.YbulkdgzaQueue
import Derived.Laws.ResultCell
namespace Go.Proofs.Ybulkdgza
open Go.RowKit B
set_option linter.unusedVariables false
set_option linter.unusedSimpArgs false

set_option maxHeartbeats 400000 in
theorem stamp_any (Cb : Nat) (n s calls : Nat) (seq : Int) (fc : Nat → Value) (w : World) (hcl : calls ≤ 1000) (hC : RowF w Cb 31 5 fc) (f0 : fc 0 = .int .u64 n) (f1 : fc 1 = .int .i64 s) (f2 : fc 2 = .pointer none) (f3 : fc 3 = .int .u64 seq) (f4 : fc 4 = .int .i64 calls) :
    Calls Yba.prog 70 #[.pointer (some ⟨Cb, 0, none⟩)] w fun e w' => e = .returned (.tuple #[.agg #[.int .u64 n, .int .i64 s, .pointer none], .int .u64 seq]) ∧ RowF w' Cb 31 5 (upd fc 4 (.int .i64 ((calls : Int) + 1))) ∧ Chg w w' (fun j => j = Cb) := by
  have hlt := hC.lt
  have hlt' : ¬ Cb = w.heap.size := by omega
  have c0 := (hC.cell (i := 0) (by omega)).trans (congrArg some f0)
  have c1 := (hC.cell (i := 1) (by omega)).trans (congrArg some f1)
  have c2 := (hC.cell (i := 2) (by omega)).trans (congrArg some f2)
  have c3 := (hC.cell (i := 3) (by omega)).trans (congrArg some f3)
  have c4 := (hC.cell (i := 4) (by omega)).trans (congrArg some f4)
  have g4 := hC.free 4
  have HC : Hid (RowF w Cb 31 5 fc) := hC
  clear hC f0 f1 f2 f3 f4
  go_enter Yba.func70, Yba.ntmps70
  go_wp2
  go_region
  go_wp2
  refine bodyPost_ret (v := .tuple #[.agg #[.int .u64 n, .int .i64 s, .pointer none], .int .u64 seq]) (by simp [results, Yba.results70, go_sem]) rfl ?_
  exact ⟨rfl, ((HC.out.set 4 _).alloc _).drew, (((Chg.refl w (fun j => j = Cb)).setCell (.inl rfl) _).alloc _).drew⟩

set_option maxHeartbeats 400000 in
/-- A closed wheel: nothing. -/
theorem arm_closed (Wb Tb : Nat) (d : Int) (w : World) (c : w.cell? ⟨Wb, 727, none⟩ = some (.bool true)) :
    Calls Yba.prog 19 #[.pointer (some ⟨Wb, 0, none⟩), .pointer (some ⟨Tb, 0, none⟩), .int .i64 d] w fun e w' => e = .returned (.tuple #[]) ∧ w' = w := by
  go_enter Yba.func19, Yba.ntmps19
  go_wp2
  first | go_end0 | (refine bodyPost_ret (v := .tuple #[]) (by simp [results, Yba.results19, go_sem]) rfl ?_)
  exact ⟨rfl, rfl⟩

end Go.Proofs.Ybulkdgza
