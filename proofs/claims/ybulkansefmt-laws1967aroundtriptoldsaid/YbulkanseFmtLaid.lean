/- A start that is shown to be there: a world in which the five listed variables hold what the program's text lays. -/
import Derived.Test.YbulkanseFmtRows
import Derived.Deep.DeepLaidRun
import Derived.ProofKit
import Derived.Stop.JoinedAt
namespace Go.Proofs.YbulkanseFmt.Laid

def put (h : Array Obj) (g : Nat) (cs : Array Value) : Array Obj := h.modify g fun
  | .cells _ t frozen => .cells cs t frozen
  | o => o

def tab32 : Array Value := (#[0, 1, 28, 2, 29, 14, 24, 3, 30, 22, 20, 15, 25, 17, 4, 8, 31, 27, 13, 23, 21, 19, 16, 7, 26, 12, 18, 6, 11, 5, 10, 9] : Array Int).map (Value.int .u8)
def tab64 : Array Value := (#[0, 1, 56, 2, 57, 49, 28, 3, 61, 58, 42, 50, 38, 29, 17, 4, 62, 47, 59, 36, 45, 43, 51, 22, 53, 39, 33, 30, 24, 18, 12, 5, 63, 55, 48, 27, 60, 41, 37, 16, 46, 35, 44, 21, 52, 32, 23, 11, 54, 26, 40, 15, 34, 20, 31, 10, 25, 14, 19, 9, 13, 8, 7, 6] : Array Int).map (Value.int .u8)
def pow10 : Array Value := (#[1, 10, 100, 1000, 10000, 100000, 1000000, 10000000, 100000000, 1000000000, 10000000000, 100000000000, 1000000000000, 10000000000000, 100000000000000, 1000000000000000, 10000000000000000, 100000000000000000, 1000000000000000000, 10000000000000000000] : Array Int).map (Value.int .u64)

/-- The program is a variable here, so that this is a plain function. -/
def world (P : Program) (os : Os) : World :=
  { World.holding P os ⟨#[.cells #[.string ⟨#[116, 114, 117, 110, 99, 97, 116, 101, 100]⟩] 90, .cells #[.string ⟨#[98, 97, 100, 32, 108, 101, 110, 103, 116, 104]⟩] 90], #[], []⟩ with
    heap := put (put (put (put (put (World.holding P os ⟨#[.cells #[.string ⟨#[116, 114, 117, 110, 99, 97, 116, 101, 100]⟩] 90, .cells #[.string ⟨#[98, 97, 100, 32, 108, 101, 110, 103, 116, 104]⟩] 90], #[], []⟩).heap
      0 #[.iface 88 (.pointer (some ⟨(World.settled P default).heap.size, 0, none⟩))]) 1 #[.iface 88 (.pointer (some ⟨(World.settled P default).heap.size + 1, 0, none⟩))]) 2 pow10) 3 tab32) 4 tab64 }

theorem met_two (os : Os) (args : Array Value) : laidMet Ybaf.prog Rows.lawS1967ARoundTripRow.laid ((world Ybaf.prog os).forCall (fun _ _ => 0) ⟨#[], args, []⟩).memory :=
  laidMet_of_run3 8 (by kernel_rfl) (by kernel_rfl) (by kernel_rfl)
theorem met_one (os : Os) (args : Array Value) : laidMet Ybaf.prog Rows.lawS1967BDecodeRow.laid ((world Ybaf.prog os).forCall (fun _ _ => 0) ⟨#[], args, []⟩).memory :=
  laidMet_of_run3 8 (by kernel_rfl) (by kernel_rfl) (by kernel_rfl)
end Go.Proofs.YbulkanseFmt.Laid
