/-
  No cell of these rows narrows 'for every input' (looked for: loops, veiled, ifaces, maps, wideKeys, modest, calm, conditions, laid).
  DERIVED. THE GIVEN ROWS OF THIS SEAT. 1 by the template 'for every input the law returns true; each argument reads behind the call as it read before'; 0 by the template 'total and deterministic' (their statements: YbulkdgwwFmtTotals.lean).
  GIVEN WITH THE SEED: the statements are not yours to turn. If you find one false, say at which input.
  Laid BY PROGRAM, IN A SANDBOX (cutbox-rows.mjs): the forced cells as the released guide's own fill.sh prints them over the translation 37a3793c0fc3de34… (all of the seat's roots in one cut). By AI agents, Wed Nov 11 2026. No macro, syntax, notation, axiom, sorry.
-/
import Derived.Test.YbulkdgwwFmtChecked
import GoSem.Claim
import GoSem.ClaimJoined
import GoSem.ClaimMapViews
import Derived.JoinedTies
import Derived.KernelRfl
namespace Go.Proofs.YbulkdgwwFmt
/- THE CELL 'sum', in the pinned program and in every row, IS THE sha256 OF THE DUMP (.gsa) THAT YbulkdgwwFmtProg.lean LOADS. Nothing in Lean hashes anything: it is a label: what it is worth is what the hold of that sum in a sandbox is worth. -/
noncomputable def Ybaf.pinned : Pinned := { name := "ybulkdgwwfmt", sum := "37a3793c0fc3de34cf15279b1ae9dec328e6e452c1f1e317379e69ebc23d4e53", checked := Ybaf.checked }
namespace Rows
def none {H : Type} : Left H := { results := [], args := [] }

/-- 'registry.LawS5404AWhole': WHATEVER THE INPUT: true; the input reads as it did. -/
def lawS5404AWholeSpec : ChangeSpec := { name := "lawS5404AWhole", fn := fun _ => fun
  | [d1, d2, d3] => { results := [.lit (.bool true)], args := [d1, d2, d3] }
  | _ => none }
def lawS5404AWholeRow : OpenClaim := { program := "ybulkdgwwfmt", sum := "37a3793c0fc3de34cf15279b1ae9dec328e6e452c1f1e317379e69ebc23d4e53", func := "example.com/berthkeeper/berthkeeper/registry.LawS5404AWhole", spec := "lawS5404AWhole", stops := ["fmt.errorf"], inPlace := ["fmt.errorf"], apart := false }
/-- NO THEOREM (fmt's text is open here; it may be false): for the released tool's asking of the row's closed facts alone. THE STATEMENT IS 'LawS5404AWholeToldSaid' (YbulkdgwwFmtCards.lean). -/
def LawS5404AWholeFormAsk : Prop := lawS5404AWholeRow.holds Ybaf.pinned (OpenSpec.ofChange lawS5404AWholeSpec)

/-- ITS FALSE NEIGHBOUR: 'it returns false'. Refute it at one input. -/
def lawS5404AWholeWrong : ChangeSpec := { name := "lawS5404AWhole", fn := fun _ => fun
  | [d1, d2, d3] => { results := [.lit (.bool false)], args := [d1, d2, d3] }
  | _ => none }
def LawS5404AWholeWrongFormAsk : Prop := lawS5404AWholeRow.holds Ybaf.pinned (OpenSpec.ofChange lawS5404AWholeWrong)

end Rows
end Go.Proofs.YbulkdgwwFmt
