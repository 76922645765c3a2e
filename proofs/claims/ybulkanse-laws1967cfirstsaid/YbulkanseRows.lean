/-
  No cell of these rows narrows 'for every input' (looked for: loops, veiled, ifaces, maps, wideKeys, modest, calm, conditions, laid).
  DERIVED. THE GIVEN ROWS OF THIS SEAT. 1 by the template 'for every input the law returns true; each argument reads behind the call as it read before'; 0 by the template 'total and deterministic' (their statements: YbulkanseTotals.lean).
  GIVEN WITH THE SEED: the statements are not yours to turn. If you find one false, say at which input.
  Laid BY PROGRAM, IN A SANDBOX (cutbox-rows.mjs): the forced cells as the released guide's own fill.sh prints them over the translation 8f57fbe90c3eef59… (all of the seat's roots in one cut). By AI agents, Wed Nov 11 2026. No macro, syntax, notation, axiom, sorry.
-/
import Derived.Test.YbulkanseChecked
import GoSem.Claim
import GoSem.ClaimJoined
import GoSem.ClaimMapViews
import Derived.JoinedTies
import Derived.KernelRfl
namespace Go.Proofs.Ybulkanse
/- THE CELL 'sum', in the pinned program and in every row, IS THE sha256 OF THE DUMP (.gsa) THAT YbulkanseProg.lean LOADS. Nothing in Lean hashes anything: it is a label: what it is worth is what the hold of that sum in a sandbox is worth. -/
noncomputable def Yba.pinned : Pinned := { name := "ybulkanse", sum := "8f57fbe90c3eef59b6d9084f74a62d6d618a6cfff33e68cf7d27e6f205b3c397", checked := Yba.checked }
namespace Rows
def none {H : Type} : Left H := { results := [], args := [] }

/-- 'bier.LawS1967CFirst': WHATEVER THE INPUT: true; the input reads as it did. -/
def lawS1967CFirstSpec : ChangeSpec := { name := "lawS1967CFirst", fn := fun _ => fun
  | [d1, d2] => { results := [.lit (.bool true)], args := [d1, d2] }
  | _ => none }
def lawS1967CFirstRow : OpenClaim := { program := "ybulkanse", sum := "8f57fbe90c3eef59b6d9084f74a62d6d618a6cfff33e68cf7d27e6f205b3c397", func := "example.com/bitsounder/bitsounder/bier.LawS1967CFirst", spec := "lawS1967CFirst", apart := false }
def LawS1967CFirstSaid : Prop := lawS1967CFirstRow.holds Yba.pinned (OpenSpec.ofChange lawS1967CFirstSpec)

/-- ITS FALSE NEIGHBOUR: 'it returns false'. Refute it at one input. -/
def lawS1967CFirstWrong : ChangeSpec := { name := "lawS1967CFirst", fn := fun _ => fun
  | [d1, d2] => { results := [.lit (.bool false)], args := [d1, d2] }
  | _ => none }
def LawS1967CFirstWrongFalsely : Prop := lawS1967CFirstRow.holds Yba.pinned (OpenSpec.ofChange lawS1967CFirstWrong)

end Rows
end Go.Proofs.Ybulkanse
