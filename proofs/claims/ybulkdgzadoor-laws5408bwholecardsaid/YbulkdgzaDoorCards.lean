/-
  DERIVED. GIVEN WITH THE SEED: THE CARDS: each row of YbulkdgzaDoorRows.lean that lists a variable, with what it lists TIED to the program's text (the seventh form; the later family's looks); each row that meets fmt, with fmt's text TOLD by the authors' own Lean function (tested against real Go, not proved from fmt's source: count such statements apart). THE CARD IS WHAT COUNTS. Prove the row's statement (the work); the ties are given (YbulkdgzaDoorTie.lean); close each card by the builder's one call (the guide's Derived/Test/ToyasCard.lean, 'card_holds'). Laid BY PROGRAM, IN A SANDBOX (cutbox-door.mjs). By AI agents, Wed Nov 11 2026. No macro, syntax, notation, axiom, sorry.
-/
import Derived.Test.YbulkdgzaDoorRows
import GoSem.ClaimSeven
namespace Go.Proofs.YbulkdgzaDoor
namespace Rows

/-- THE TIED CARD OF 'kalachakra.LawS5408AWhole'. -/
def lawS5408AWholeCard : Claim7 := { stood := { row := lawS5408AWholeRow, standIns := [], harness := (true, "879b7ea207dcbb9ab2ea4e514479496ce9d2fe4b9e65aefce0d1deb5215983ae"), looks := true }, kinds := [], alts := [], goes := true, laidByText := true, laidKinds := [.data], laidTests := true, laidLooks := .later }
def LawS5408AWholeCardSaid : Prop := Claim7.holds Ybad.pinned (.plain (OpenSpec.ofChange lawS5408AWholeSpec)) lawS5408AWholeCard

/-- THE TIED CARD OF 'kalachakra.LawS5408BWhole'. -/
def lawS5408BWholeCard : Claim7 := { stood := { row := lawS5408BWholeRow, standIns := [], harness := (true, "879b7ea207dcbb9ab2ea4e514479496ce9d2fe4b9e65aefce0d1deb5215983ae"), looks := true }, kinds := [], alts := [], laidByText := true, laidKinds := [.data], laidTests := true, laidLooks := .later }
def LawS5408BWholeCardSaid : Prop := Claim7.holds Ybad.pinned (.plain (OpenSpec.ofChange lawS5408BWholeSpec)) lawS5408BWholeCard
end Rows
end Go.Proofs.YbulkdgzaDoor
