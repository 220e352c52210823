/-
  Two pointers that are one.
-/
import Derived.Test.YbulkdgzaDoorFr
import Derived.LaidEql
namespace Go.Proofs.YbulkdgzaDoor
open Go.RowKit B

theorem info75 : (Ybad.prog.info? 75).map (fun i => i.size) = some 12 := by kernel_rfl
theorem und45 : Ybad.prog.underlying 45 = some (.pointer 75) := by kernel_rfl
theorem und45' : Ybad.prog.underlying 45 = some (.pointer (Ybad.prog.pointee 45)) := by kernel_rfl
theorem eqIn_same (d : Nat) (a : Addr) (w : World) : (Op.equalIn (d + 1) 45 (.pointer (some a)) (.pointer (some a))).run Ybad.prog w = .ok true w := by
  cases hi : Ybad.prog.info? 75 with
  | none => have := info75; rw [hi] at this; cases this
  | some j => simp [Op.equalIn, run_underlying und45, sizeOf, run_sameAddr_same, hi, typeInfo]
theorem equal_same (a : Addr) (w : World) : (Op.equal 45 (.pointer (some a)) (.pointer (some a))).run Ybad.prog w = .ok true w := eqIn_same 9999 a w
theorem neq_same (p : Option Addr) (w : World) : (binOp .neq 45 (.pointer p) (.pointer p)).run Ybad.prog w = .ok (.bool false) w := by
  cases p with
  | none => rw [run_neq_pointer_nil w 45 none und45']; rfl
  | some a =>
    simp only [binOp]
    simp [equal_same]
end Go.Proofs.YbulkdgzaDoor
