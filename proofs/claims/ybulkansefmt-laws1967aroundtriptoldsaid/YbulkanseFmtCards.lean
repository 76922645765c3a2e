/-
  DERIVED. GIVEN WITH THE SEED: THE CARDS: each row of YbulkanseFmtRows.lean that lists a variable, with what it lists TIED to the program's text (the seventh form; the later family's looks); each row that meets fmt, with fmt's text TOLD by the authors' own Lean function (tested against real Go, not proved from fmt's source: count such statements apart). THE CARD IS WHAT COUNTS. Prove the row's statement (the work); the ties are given (YbulkanseFmtTie.lean); close each card by the builder's one call (the guide's Derived/Test/ToyasCard.lean, 'card_holds'). Laid BY PROGRAM, IN A SANDBOX (cutbox-door.mjs). By AI agents, Wed Nov 11 2026. No macro, syntax, notation, axiom, sorry.
-/
import Derived.Test.YbulkanseFmtRows
import GoSem.ClaimSeven
namespace Go.Proofs.YbulkanseFmt
namespace Rows

/-- THE TOLD CARD OF 'bier.LawS1967AExact'. -/
def lawS1967AExactCard : Claim7 := { stood := { row := lawS1967AExactRow, standIns := [], harness := (true, "45a9495e1186bfd3bd2bff885913939ad5f8eb4ed6f9d7d0b51e7e35306529ef"), looks := true }, told := true, goes := false }
def LawS1967AExactToldSaid : Prop := Claim7.holds Ybaf.pinned (.plain (OpenSpec.ofChange lawS1967AExactSpec)) lawS1967AExactCard
/-- ITS FALSE NEIGHBOUR. Refute it at one input. -/
def LawS1967AExactToldWrongFalsely : Prop := Claim7.holds Ybaf.pinned (.plain (OpenSpec.ofChange lawS1967AExactWrong)) lawS1967AExactCard

/-- THE TOLD AND TIED CARD OF 'bier.LawS1967ARoundTrip'. -/
def lawS1967ARoundTripCard : Claim7 := { stood := { row := lawS1967ARoundTripRow, standIns := [], harness := (true, "45a9495e1186bfd3bd2bff885913939ad5f8eb4ed6f9d7d0b51e7e35306529ef"), looks := true }, told := true, laidByText := true, laidKinds := [.data, .data, .data, .sentinel, .sentinel], laidTests := true, laidLooks := .later, goes := false }
def LawS1967ARoundTripToldSaid : Prop := Claim7.holds Ybaf.pinned (.plain (OpenSpec.ofChange lawS1967ARoundTripSpec)) lawS1967ARoundTripCard
/-- ITS FALSE NEIGHBOUR. Refute it at one input. -/
def LawS1967ARoundTripToldWrongFalsely : Prop := Claim7.holds Ybaf.pinned (.plain (OpenSpec.ofChange lawS1967ARoundTripWrong)) lawS1967ARoundTripCard

/-- THE TOLD AND TIED CARD OF 'bier.LawS1967BDecode'. -/
def lawS1967BDecodeCard : Claim7 := { stood := { row := lawS1967BDecodeRow, standIns := [], harness := (true, "45a9495e1186bfd3bd2bff885913939ad5f8eb4ed6f9d7d0b51e7e35306529ef"), looks := true }, told := true, laidByText := true, laidKinds := [.data, .data, .data, .sentinel], laidTests := true, laidLooks := .later, goes := false }
def LawS1967BDecodeToldSaid : Prop := Claim7.holds Ybaf.pinned (.plain (OpenSpec.ofChange lawS1967BDecodeSpec)) lawS1967BDecodeCard
/-- ITS FALSE NEIGHBOUR. Refute it at one input. -/
def LawS1967BDecodeToldWrongFalsely : Prop := Claim7.holds Ybaf.pinned (.plain (OpenSpec.ofChange lawS1967BDecodeWrong)) lawS1967BDecodeCard

/-- THE TOLD AND TIED CARD OF 'bier.LawS1967BShort'. -/
def lawS1967BShortCard : Claim7 := { stood := { row := lawS1967BShortRow, standIns := [], harness := (true, "45a9495e1186bfd3bd2bff885913939ad5f8eb4ed6f9d7d0b51e7e35306529ef"), looks := true }, told := true, laidByText := true, laidKinds := [.data, .data, .data, .sentinel], laidTests := true, laidLooks := .later, goes := false }
def LawS1967BShortToldSaid : Prop := Claim7.holds Ybaf.pinned (.plain (OpenSpec.ofChange lawS1967BShortSpec)) lawS1967BShortCard
/-- ITS FALSE NEIGHBOUR. Refute it at one input. -/
def LawS1967BShortToldWrongFalsely : Prop := Claim7.holds Ybaf.pinned (.plain (OpenSpec.ofChange lawS1967BShortWrong)) lawS1967BShortCard
end Rows
end Go.Proofs.YbulkanseFmt
