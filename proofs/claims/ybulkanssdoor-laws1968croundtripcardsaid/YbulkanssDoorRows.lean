/-
  NARROWER THAN 'FOR EVERY INPUT', by the rows' own cells (each row's printed sentence says how): LawS1968CModel: laid · LawS1968CRoundTrip: laid.
  DERIVED. THE GIVEN ROWS OF THIS SEAT. 2 by the template 'for every input the law returns true; each argument reads behind the call as it read before'; 0 by the template 'total and deterministic' (their statements: YbulkanssDoorTotals.lean).
  GIVEN WITH THE SEED: the statements are not yours to turn. If you find one false, say at which input.
  Laid BY PROGRAM, IN A SANDBOX (cutbox-rows.mjs): the forced cells as the released guide's own fill.sh prints them over the translation 1aceac332b4533e2… (all of the seat's roots in one cut). By AI agents, Wed Nov 11 2026. No macro, syntax, notation, axiom, sorry.
-/
import Derived.Test.YbulkanssDoorChecked
import GoSem.Claim
import GoSem.ClaimJoined
import GoSem.ClaimMapViews
import Derived.JoinedTies
import Derived.KernelRfl
namespace Go.Proofs.YbulkanssDoor
/- THE CELL 'sum', in the pinned program and in every row, IS THE sha256 OF THE DUMP (.gsa) THAT YbulkanssDoorProg.lean LOADS. Nothing in Lean hashes anything: it is a label: what it is worth is what the hold of that sum in a sandbox is worth. -/
noncomputable def Ybad.pinned : Pinned := { name := "ybulkanssdoor", sum := "1aceac332b4533e21b11133f1b5e3da0ec8754cf7e0f4be799e32e749a1e7ee7", checked := Ybad.checked }
namespace Rows
def none {H : Type} : Left H := { results := [], args := [] }

/- WHAT THE LISTED PACKAGE-LEVEL VARIABLES READ AS WHEN THE CALL BEGINS. Each datum BY PROGRAM (the guide's laid-datum.mjs) off the statement by which the dump's own 'gosem.cut.vars' lays the variable. In a bare row this is a premise. The card (YbulkanssDoorCards.lean) ties it to the program's text. -/
def laid_example_com_chronarith_chronarith_daysBeforeMonth {H : Type} : DataW H := .agg [.lit (.int .i64 0), .lit (.int .i64 0), .lit (.int .i64 31), .lit (.int .i64 59), .lit (.int .i64 90), .lit (.int .i64 120), .lit (.int .i64 151), .lit (.int .i64 181), .lit (.int .i64 212), .lit (.int .i64 243), .lit (.int .i64 273), .lit (.int .i64 304), .lit (.int .i64 334), .lit (.int .i64 365)]

/-- 'chronarith.LawS1968CModel': WHATEVER THE INPUT: true; the input reads as it did. -/
def lawS1968CModelSpec : ChangeSpec := { name := "lawS1968CModel", vars := ["example.com/chronarith/chronarith.daysBeforeMonth"], fn := fun _ => fun
  | [d1, d2, d3, d4, d5, d6, d7, g1] => { results := [.lit (.bool true)], args := [d1, d2, d3, d4, d5, d6, d7], vars := [g1] }
  | _ => none }
def lawS1968CModelRow : OpenClaim := { program := "ybulkanssdoor", sum := "1aceac332b4533e21b11133f1b5e3da0ec8754cf7e0f4be799e32e749a1e7ee7", func := "example.com/chronarith/chronarith.LawS1968CModel", spec := "lawS1968CModel", named := ["example.com/chronarith/chronarith.daysBeforeMonth"], apart := false, laid := [("example.com/chronarith/chronarith.daysBeforeMonth", laid_example_com_chronarith_chronarith_daysBeforeMonth)] }
def LawS1968CModelSaid : Prop := lawS1968CModelRow.holds Ybad.pinned (OpenSpec.ofChange lawS1968CModelSpec)

/-- ITS FALSE NEIGHBOUR: 'it returns false'. Refute it at one input. -/
def lawS1968CModelWrong : ChangeSpec := { name := "lawS1968CModel", vars := ["example.com/chronarith/chronarith.daysBeforeMonth"], fn := fun _ => fun
  | [d1, d2, d3, d4, d5, d6, d7, g1] => { results := [.lit (.bool false)], args := [d1, d2, d3, d4, d5, d6, d7], vars := [g1] }
  | _ => none }
def LawS1968CModelWrongFalsely : Prop := lawS1968CModelRow.holds Ybad.pinned (OpenSpec.ofChange lawS1968CModelWrong)

/-- 'chronarith.LawS1968CRoundTrip': WHATEVER THE INPUT: true; the input reads as it did. -/
def lawS1968CRoundTripSpec : ChangeSpec := { name := "lawS1968CRoundTrip", vars := ["example.com/chronarith/chronarith.daysBeforeMonth"], fn := fun _ => fun
  | [d1, d2, d3, d4, d5, d6, d7, g1] => { results := [.lit (.bool true)], args := [d1, d2, d3, d4, d5, d6, d7], vars := [g1] }
  | _ => none }
def lawS1968CRoundTripRow : OpenClaim := { program := "ybulkanssdoor", sum := "1aceac332b4533e21b11133f1b5e3da0ec8754cf7e0f4be799e32e749a1e7ee7", func := "example.com/chronarith/chronarith.LawS1968CRoundTrip", spec := "lawS1968CRoundTrip", named := ["example.com/chronarith/chronarith.daysBeforeMonth"], apart := false, laid := [("example.com/chronarith/chronarith.daysBeforeMonth", laid_example_com_chronarith_chronarith_daysBeforeMonth)] }
def LawS1968CRoundTripSaid : Prop := lawS1968CRoundTripRow.holds Ybad.pinned (OpenSpec.ofChange lawS1968CRoundTripSpec)

/-- ITS FALSE NEIGHBOUR: 'it returns false'. Refute it at one input. -/
def lawS1968CRoundTripWrong : ChangeSpec := { name := "lawS1968CRoundTrip", vars := ["example.com/chronarith/chronarith.daysBeforeMonth"], fn := fun _ => fun
  | [d1, d2, d3, d4, d5, d6, d7, g1] => { results := [.lit (.bool false)], args := [d1, d2, d3, d4, d5, d6, d7], vars := [g1] }
  | _ => none }
def LawS1968CRoundTripWrongFalsely : Prop := lawS1968CRoundTripRow.holds Ybad.pinned (OpenSpec.ofChange lawS1968CRoundTripWrong)

end Rows
end Go.Proofs.YbulkanssDoor
