/- A start that is shown to be there: a world in which the table of the days before each month holds what the program's text lays; and what that table gives the walks. -/
import Derived.Test.YbulkanssDoorRows
import Derived.Test.YbulkanssDoorDates
import Derived.Deep.DeepLaidRun
import Derived.Lib.LaidTab
import Derived.MakeChecks
import Derived.ProofKit
import Derived.Stop.JoinedAt
namespace Go.Proofs.YbulkanssDoor.Laid

def put (h : Array Obj) (g : Nat) (cs : Array Value) : Array Obj := h.modify g fun
  | .cells _ t frozen => .cells cs t frozen
  | o => o

def days : List Int := [0, 0, 31, 59, 90, 120, 151, 181, 212, 243, 273, 304, 334, 365]

/-- The program is a variable here, so that this is a plain function. -/
def world (P : Program) (os : Os) : World :=
  { World.holding P os ⟨#[], #[], []⟩ with heap := put (World.holding P os ⟨#[], #[], []⟩).heap 0 (days.map (Value.int .i64)).toArray }

theorem met (os : Os) (args : Array Value) : laidMetH Ybad.prog Rows.lawS1968CModelRow.laid ((world Ybad.prog os).forCall (fun _ _ => 0) ⟨#[], args, []⟩).memory := by
  rw [MakeChecks.laidMetH_plain _ _ _ (by kernel_rfl)]
  exact laidMet_of_run3 8 (by kernel_rfl) (by kernel_rfl) (by kernel_rfl)

/-- The variable's name, off the row. -/
def name : String := Rows.lawS1968CModelRow.named.headD ""
theorem g0 : Ybad.prog.globalNamed name = some 0 := by kernel_rfl
theorem g0Type : (Ybad.prog.globals[0]?).map (·.type) = some 40 := by kernel_rfl

/-- What the row's condition gives the walks: the table's fourteen cells. -/
theorem tab_of_laid {W : World} (h : laidMetH Ybad.prog Rows.lawS1968CModelRow.laid W) : Wk.Tab W := by
  rw [MakeChecks.laidMetH_plain _ _ _ (by kernel_rfl)] at h
  have ht : Lib.TabIs Ybad.prog W name .i64 days := Lib.tabIs_of_head g0 g0Type Ybad.underlying40 Ybad.underlying2 (by kernel_rfl) (by kernel_rfl) h
  intro j hj
  have := ht.cell g0 j (by simpa [days] using hj)
  simpa [days, Wk.tab] using this
end Go.Proofs.YbulkanssDoor.Laid
