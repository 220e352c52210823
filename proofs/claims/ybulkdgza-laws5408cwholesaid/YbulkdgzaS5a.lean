/-
  Region 39 of LawS5408CWhole: its operations; every order of them may be walked as the text's.
-/
import Derived.Test.YbulkdgzaFr
import Derived.Deep.QuietTactic
namespace Go.Proofs.Ybulkdgza
/-- The operations of a region. -/
def opsOf : Code → List Oper
  | .region _ o _ => o.toList
  | _ => []
theorem lex39 : Region.lexB .any (opsOf (nav [1, 1, 1, 1, 1, 1, 1, 1, 1, 1, 1, 1, 1, 1, 1, 1, 1, 1, 1, 1, 1, 1, 0, 1, 3, 0] (Yba.f3.body.getD .skip))).toArray = true := by kernel_rfl
end Go.Proofs.Ybulkdgza
