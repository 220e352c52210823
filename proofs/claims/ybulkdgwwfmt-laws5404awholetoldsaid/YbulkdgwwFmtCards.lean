/-
  DERIVED. GIVEN WITH THE SEED: THE CARDS: each row of YbulkdgwwFmtRows.lean that lists a variable, with what it lists TIED to the program's text (the seventh form; the later family's looks); each row that meets fmt, with fmt's text TOLD by the authors' own Lean function (tested against real Go, not proved from fmt's source: count such statements apart). THE CARD IS WHAT COUNTS. Prove the row's statement (the work); the ties are given (YbulkdgwwFmtTie.lean); close each card by the builder's one call (the guide's Derived/Test/ToyasCard.lean, 'card_holds'). Laid BY PROGRAM, IN A SANDBOX (cutbox-door.mjs). By AI agents, Wed Nov 11 2026. No macro, syntax, notation, axiom, sorry.
-/
import Derived.Test.YbulkdgwwFmtRows
import GoSem.ClaimSeven
namespace Go.Proofs.YbulkdgwwFmt
namespace Rows

/-- THE TOLD CARD OF 'registry.LawS5404AWhole'. -/
def lawS5404AWholeCard : Claim7 := { stood := { row := lawS5404AWholeRow, standIns := [], harness := (true, "a5451b2977b1933ff7d6bccafc5802cf7d299069fddb0c3887b64fe9ccf713ad"), looks := false }, told := true, goes := false }
def LawS5404AWholeToldSaid : Prop := Claim7.holds Ybaf.pinned (.plain (OpenSpec.ofChange lawS5404AWholeSpec)) lawS5404AWholeCard
/-- ITS FALSE NEIGHBOUR. Refute it at one input. -/
def LawS5404AWholeToldWrongFalsely : Prop := Claim7.holds Ybaf.pinned (.plain (OpenSpec.ofChange lawS5404AWholeWrong)) lawS5404AWholeCard
end Rows
end Go.Proofs.YbulkdgwwFmt
