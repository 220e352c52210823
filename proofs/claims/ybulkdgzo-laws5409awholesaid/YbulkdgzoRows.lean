/-
  No cell of these rows narrows 'for every input' (looked for: loops, veiled, ifaces, maps, wideKeys, modest, calm, conditions, laid).
  DERIVED. THE GIVEN ROWS OF THIS SEAT. 2 by the template 'for every input the law returns true; each argument reads behind the call as it read before'; 0 by the template 'total and deterministic' (their statements: YbulkdgzoTotals.lean).
  GIVEN WITH THE SEED: the statements are not yours to turn. If you find one false, say at which input.
  Laid BY PROGRAM, IN A SANDBOX (cutbox-rows.mjs): the forced cells as the released guide's own fill.sh prints them over the translation 111827c12da6ca08… (all of the seat's roots in one cut). By AI agents, Wed Nov 11 2026. No macro, syntax, notation, axiom, sorry.
-/
import Derived.Test.YbulkdgzoChecked
import GoSem.Claim
import GoSem.ClaimJoined
import GoSem.ClaimMapViews
import Derived.JoinedTies
import Derived.KernelRfl
namespace Go.Proofs.Ybulkdgzo
/- THE CELL 'sum', in the pinned program and in every row, IS THE sha256 OF THE DUMP (.gsa) THAT YbulkdgzoProg.lean LOADS. Nothing in Lean hashes anything: it is a label: what it is worth is what the hold of that sum in a sandbox is worth. -/
noncomputable def Yba.pinned : Pinned := { name := "ybulkdgzo", sum := "111827c12da6ca08d6f7fba2e4be074bb7edfdeddfbbff5b0fc6168afe0071be", checked := Yba.checked }
namespace Rows
def none {H : Type} : Left H := { results := [], args := [] }

/-- 'nestlock.LawS5409AWhole': WHATEVER THE INPUT: true; the input reads as it did. -/
def lawS5409AWholeSpec : ChangeSpec := { name := "lawS5409AWhole", fn := fun _ => fun
  | [d] => { results := [.lit (.bool true)], args := [d] }
  | _ => none }
def lawS5409AWholeRow : OpenClaim := { program := "ybulkdgzo", sum := "111827c12da6ca08d6f7fba2e4be074bb7edfdeddfbbff5b0fc6168afe0071be", func := "example.com/nestlock/nestlock.LawS5409AWhole", spec := "lawS5409AWhole", apart := false }
def LawS5409AWholeSaid : Prop := lawS5409AWholeRow.holds Yba.pinned (OpenSpec.ofChange lawS5409AWholeSpec)

/-- ITS FALSE NEIGHBOUR: 'it returns false'. Refute it at one input. -/
def lawS5409AWholeWrong : ChangeSpec := { name := "lawS5409AWhole", fn := fun _ => fun
  | [d] => { results := [.lit (.bool false)], args := [d] }
  | _ => none }
def LawS5409AWholeWrongFalsely : Prop := lawS5409AWholeRow.holds Yba.pinned (OpenSpec.ofChange lawS5409AWholeWrong)

/-- 'nestlock.LawS5409CWhole': WHATEVER THE INPUT: true; the input reads as it did. -/
def lawS5409CWholeSpec : ChangeSpec := { name := "lawS5409CWhole", fn := fun _ => fun
  | [d1, d2, d3] => { results := [.lit (.bool true)], args := [d1, d2, d3] }
  | _ => none }
def lawS5409CWholeRow : OpenClaim := { program := "ybulkdgzo", sum := "111827c12da6ca08d6f7fba2e4be074bb7edfdeddfbbff5b0fc6168afe0071be", func := "example.com/nestlock/nestlock.LawS5409CWhole", spec := "lawS5409CWhole", unfollowed := true, recurses := true, apart := false }
def LawS5409CWholeSaid : Prop := lawS5409CWholeRow.holds Yba.pinned (OpenSpec.ofChange lawS5409CWholeSpec)

/-- ITS FALSE NEIGHBOUR: 'it returns false'. Refute it at one input. -/
def lawS5409CWholeWrong : ChangeSpec := { name := "lawS5409CWhole", fn := fun _ => fun
  | [d1, d2, d3] => { results := [.lit (.bool false)], args := [d1, d2, d3] }
  | _ => none }
def LawS5409CWholeWrongFalsely : Prop := lawS5409CWholeRow.holds Yba.pinned (OpenSpec.ofChange lawS5409CWholeWrong)

end Rows
end Go.Proofs.Ybulkdgzo
