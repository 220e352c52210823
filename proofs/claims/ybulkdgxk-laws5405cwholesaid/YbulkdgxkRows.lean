/-
  No cell of these rows narrows 'for every input' (looked for: loops, veiled, ifaces, maps, wideKeys, modest, calm, conditions, laid).
  DERIVED. THE GIVEN ROWS OF THIS SEAT. 2 by the template 'for every input the law returns true; each argument reads behind the call as it read before'; 0 by the template 'total and deterministic' (their statements: YbulkdgxkTotals.lean).
  GIVEN WITH THE SEED: the statements are not yours to turn. If you find one false, say at which input.
  Laid BY PROGRAM, IN A SANDBOX (cutbox-rows.mjs): the forced cells as the released guide's own fill.sh prints them over the translation dfade0d4c1d40eb1… (all of the seat's roots in one cut). By AI agents, Wed Nov 11 2026. No macro, syntax, notation, axiom, sorry.
-/
import Derived.Test.YbulkdgxkChecked
import GoSem.Claim
import GoSem.ClaimJoined
import GoSem.ClaimMapViews
import Derived.JoinedTies
import Derived.KernelRfl
namespace Go.Proofs.Ybulkdgxk
/- THE CELL 'sum', in the pinned program and in every row, IS THE sha256 OF THE DUMP (.gsa) THAT YbulkdgxkProg.lean LOADS. Nothing in Lean hashes anything: it is a label: what it is worth is what the hold of that sum in a sandbox is worth. -/
noncomputable def Yba.pinned : Pinned := { name := "ybulkdgxk", sum := "dfade0d4c1d40eb140ba1feaaaede25b448301df97e89b0d57264cfcced618e6", checked := Yba.checked }
namespace Rows
def none {H : Type} : Left H := { results := [], args := [] }

/-- 'strictjson.LawS5405AWhole': WHATEVER THE INPUT: true; the input reads as it did. -/
def lawS5405AWholeSpec : ChangeSpec := { name := "lawS5405AWhole", fn := fun _ => fun
  | [d] => { results := [.lit (.bool true)], args := [d] }
  | _ => none }
def lawS5405AWholeRow : OpenClaim := { program := "ybulkdgxk", sum := "dfade0d4c1d40eb140ba1feaaaede25b448301df97e89b0d57264cfcced618e6", func := "example.com/fairswarm/fairswarm/internal/strictjson.LawS5405AWhole", spec := "lawS5405AWhole", apart := false }
def LawS5405AWholeSaid : Prop := lawS5405AWholeRow.holds Yba.pinned (OpenSpec.ofChange lawS5405AWholeSpec)

/-- ITS FALSE NEIGHBOUR: 'it returns false'. Refute it at one input. -/
def lawS5405AWholeWrong : ChangeSpec := { name := "lawS5405AWhole", fn := fun _ => fun
  | [d] => { results := [.lit (.bool false)], args := [d] }
  | _ => none }
def LawS5405AWholeWrongFalsely : Prop := lawS5405AWholeRow.holds Yba.pinned (OpenSpec.ofChange lawS5405AWholeWrong)

/-- 'fairswarm.LawS5405CWhole': WHATEVER THE INPUT: true; the input reads as it did. -/
def lawS5405CWholeSpec : ChangeSpec := { name := "lawS5405CWhole", fn := fun _ => fun
  | [d1, d2, d3, d4, d5] => { results := [.lit (.bool true)], args := [d1, d2, d3, d4, d5] }
  | _ => none }
def lawS5405CWholeRow : OpenClaim := { program := "ybulkdgxk", sum := "dfade0d4c1d40eb140ba1feaaaede25b448301df97e89b0d57264cfcced618e6", func := "example.com/fairswarm/fairswarm.LawS5405CWhole", spec := "lawS5405CWhole", apart := false }
def LawS5405CWholeSaid : Prop := lawS5405CWholeRow.holds Yba.pinned (OpenSpec.ofChange lawS5405CWholeSpec)

/-- ITS FALSE NEIGHBOUR: 'it returns false'. Refute it at one input. -/
def lawS5405CWholeWrong : ChangeSpec := { name := "lawS5405CWhole", fn := fun _ => fun
  | [d1, d2, d3, d4, d5] => { results := [.lit (.bool false)], args := [d1, d2, d3, d4, d5] }
  | _ => none }
def LawS5405CWholeWrongFalsely : Prop := lawS5405CWholeRow.holds Yba.pinned (OpenSpec.ofChange lawS5405CWholeWrong)

end Rows
end Go.Proofs.Ybulkdgxk
