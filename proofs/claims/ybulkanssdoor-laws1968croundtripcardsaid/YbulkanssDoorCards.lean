/-
  DERIVED. GIVEN WITH THE SEED: THE CARDS: each row of YbulkanssDoorRows.lean that lists a variable, with what it lists TIED to the program's text (the seventh form; the later family's looks); each row that meets fmt, with fmt's text TOLD by the authors' own Lean function (tested against real Go, not proved from fmt's source: count such statements apart). THE CARD IS WHAT COUNTS. Prove the row's statement (the work); the ties are given (YbulkanssDoorTie.lean); close each card by the builder's one call (the guide's Derived/Test/ToyasCard.lean, 'card_holds'). Laid BY PROGRAM, IN A SANDBOX (cutbox-door.mjs). By AI agents, Wed Nov 11 2026. No macro, syntax, notation, axiom, sorry.
-/
import Derived.Test.YbulkanssDoorRows
import GoSem.ClaimSeven
namespace Go.Proofs.YbulkanssDoor
namespace Rows

/-- THE TIED CARD OF 'chronarith.LawS1968CModel'. -/
def lawS1968CModelCard : Claim7 := { stood := { row := lawS1968CModelRow, standIns := [], harness := (true, "2beccc8f866529afee3592b1311c37f222a8148b392345ac8ffabbd0fe42f98f"), looks := false }, kinds := [], alts := [], laidByText := true, laidKinds := [.wider], laidTests := true, laidLooks := .later }
def LawS1968CModelCardSaid : Prop := Claim7.holds Ybad.pinned (.plain (OpenSpec.ofChange lawS1968CModelSpec)) lawS1968CModelCard

/-- THE TIED CARD OF 'chronarith.LawS1968CRoundTrip'. -/
def lawS1968CRoundTripCard : Claim7 := { stood := { row := lawS1968CRoundTripRow, standIns := [], harness := (true, "2beccc8f866529afee3592b1311c37f222a8148b392345ac8ffabbd0fe42f98f"), looks := false }, kinds := [], alts := [], laidByText := true, laidKinds := [.wider], laidTests := true, laidLooks := .later }
def LawS1968CRoundTripCardSaid : Prop := Claim7.holds Ybad.pinned (.plain (OpenSpec.ofChange lawS1968CRoundTripSpec)) lawS1968CRoundTripCard
end Rows
end Go.Proofs.YbulkanssDoor
