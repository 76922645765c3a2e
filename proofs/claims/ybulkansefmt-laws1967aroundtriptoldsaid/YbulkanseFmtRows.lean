/-
  NARROWER THAN 'FOR EVERY INPUT', by the rows' own cells (each row's printed sentence says how): LawS1967ARoundTrip: ifaces, laid · LawS1967BDecode: ifaces, laid · LawS1967BShort: ifaces, laid.
  DERIVED. THE GIVEN ROWS OF THIS SEAT. 4 by the template 'for every input the law returns true; each argument reads behind the call as it read before'; 0 by the template 'total and deterministic' (their statements: YbulkanseFmtTotals.lean).
  GIVEN WITH THE SEED: the statements are not yours to turn. If you find one false, say at which input.
  Laid BY PROGRAM, IN A SANDBOX (cutbox-rows.mjs): the forced cells as the released guide's own fill.sh prints them over the translation eec5febd273c216a… (all of the seat's roots in one cut). By AI agents, Wed Nov 11 2026. No macro, syntax, notation, axiom, sorry.
-/
import Derived.Test.YbulkanseFmtChecked
import GoSem.Claim
import GoSem.ClaimJoined
import GoSem.ClaimMapViews
import Derived.JoinedTies
import Derived.KernelRfl
namespace Go.Proofs.YbulkanseFmt
/- THE CELL 'sum', in the pinned program and in every row, IS THE sha256 OF THE DUMP (.gsa) THAT YbulkanseFmtProg.lean LOADS. Nothing in Lean hashes anything: it is a label: what it is worth is what the hold of that sum in a sandbox is worth. -/
noncomputable def Ybaf.pinned : Pinned := { name := "ybulkansefmt", sum := "eec5febd273c216aa24d2f827edfd13caea90a2657d048e8a252fc1ae5c34bd0", checked := Ybaf.checked }
namespace Rows
def none {H : Type} : Left H := { results := [], args := [] }

/- WHAT THE LISTED PACKAGE-LEVEL VARIABLES READ AS WHEN THE CALL BEGINS. Each datum BY PROGRAM (the guide's laid-datum.mjs) off the statement by which the dump's own 'gosem.cut.vars' lays the variable. In a bare row this is a premise. The card (YbulkanseFmtCards.lean) ties it to the program's text. -/
def laid_math_bits_deBruijn32tab {H : Type} : DataW H := .agg [.lit (.int .u8 0), .lit (.int .u8 1), .lit (.int .u8 28), .lit (.int .u8 2), .lit (.int .u8 29), .lit (.int .u8 14), .lit (.int .u8 24), .lit (.int .u8 3), .lit (.int .u8 30), .lit (.int .u8 22), .lit (.int .u8 20), .lit (.int .u8 15), .lit (.int .u8 25), .lit (.int .u8 17), .lit (.int .u8 4), .lit (.int .u8 8), .lit (.int .u8 31), .lit (.int .u8 27), .lit (.int .u8 13), .lit (.int .u8 23), .lit (.int .u8 21), .lit (.int .u8 19), .lit (.int .u8 16), .lit (.int .u8 7), .lit (.int .u8 26), .lit (.int .u8 12), .lit (.int .u8 18), .lit (.int .u8 6), .lit (.int .u8 11), .lit (.int .u8 5), .lit (.int .u8 10), .lit (.int .u8 9)]
def laid_math_bits_deBruijn64tab {H : Type} : DataW H := .agg [.lit (.int .u8 0), .lit (.int .u8 1), .lit (.int .u8 56), .lit (.int .u8 2), .lit (.int .u8 57), .lit (.int .u8 49), .lit (.int .u8 28), .lit (.int .u8 3), .lit (.int .u8 61), .lit (.int .u8 58), .lit (.int .u8 42), .lit (.int .u8 50), .lit (.int .u8 38), .lit (.int .u8 29), .lit (.int .u8 17), .lit (.int .u8 4), .lit (.int .u8 62), .lit (.int .u8 47), .lit (.int .u8 59), .lit (.int .u8 36), .lit (.int .u8 45), .lit (.int .u8 43), .lit (.int .u8 51), .lit (.int .u8 22), .lit (.int .u8 53), .lit (.int .u8 39), .lit (.int .u8 33), .lit (.int .u8 30), .lit (.int .u8 24), .lit (.int .u8 18), .lit (.int .u8 12), .lit (.int .u8 5), .lit (.int .u8 63), .lit (.int .u8 55), .lit (.int .u8 48), .lit (.int .u8 27), .lit (.int .u8 60), .lit (.int .u8 41), .lit (.int .u8 37), .lit (.int .u8 16), .lit (.int .u8 46), .lit (.int .u8 35), .lit (.int .u8 44), .lit (.int .u8 21), .lit (.int .u8 52), .lit (.int .u8 32), .lit (.int .u8 23), .lit (.int .u8 11), .lit (.int .u8 54), .lit (.int .u8 26), .lit (.int .u8 40), .lit (.int .u8 15), .lit (.int .u8 34), .lit (.int .u8 20), .lit (.int .u8 31), .lit (.int .u8 10), .lit (.int .u8 25), .lit (.int .u8 14), .lit (.int .u8 19), .lit (.int .u8 9), .lit (.int .u8 13), .lit (.int .u8 8), .lit (.int .u8 7), .lit (.int .u8 6)]
def laid_internal_strconv_uint64pow10 {H : Type} : DataW H := .agg [.lit (.int .u64 1), .lit (.int .u64 10), .lit (.int .u64 100), .lit (.int .u64 1000), .lit (.int .u64 10000), .lit (.int .u64 100000), .lit (.int .u64 1000000), .lit (.int .u64 10000000), .lit (.int .u64 100000000), .lit (.int .u64 1000000000), .lit (.int .u64 10000000000), .lit (.int .u64 100000000000), .lit (.int .u64 1000000000000), .lit (.int .u64 10000000000000), .lit (.int .u64 100000000000000), .lit (.int .u64 1000000000000000), .lit (.int .u64 10000000000000000), .lit (.int .u64 100000000000000000), .lit (.int .u64 1000000000000000000), .lit (.int .u64 10000000000000000000)]
def laid_example_com_bitsounder_bitsounder_bier_ErrTruncated {H : Type} : DataW H := .iface "*errors.errorString" (.ptr (.agg [.lit (.string [116, 114, 117, 110, 99, 97, 116, 101, 100])]))
def laid_example_com_bitsounder_bitsounder_bier_ErrBadLength {H : Type} : DataW H := .iface "*errors.errorString" (.ptr (.agg [.lit (.string [98, 97, 100, 32, 108, 101, 110, 103, 116, 104])]))

/-- 'bier.LawS1967AExact': WHATEVER THE INPUT: true; the input reads as it did. -/
def lawS1967AExactSpec : ChangeSpec := { name := "lawS1967AExact", fn := fun _ => fun
  | [d1, d2, d3] => { results := [.lit (.bool true)], args := [d1, d2, d3] }
  | _ => none }
def lawS1967AExactRow : OpenClaim := { program := "ybulkansefmt", sum := "eec5febd273c216aa24d2f827edfd13caea90a2657d048e8a252fc1ae5c34bd0", func := "example.com/bitsounder/bitsounder/bier.LawS1967AExact", spec := "lawS1967AExact", stops := ["fmt.errorf"], inPlace := ["fmt.errorf"], apart := false }
/-- NO THEOREM (fmt's text is open here; it may be false): for the released tool's asking of the row's closed facts alone. THE STATEMENT IS 'LawS1967AExactToldSaid' (YbulkanseFmtCards.lean). -/
def LawS1967AExactFormAsk : Prop := lawS1967AExactRow.holds Ybaf.pinned (OpenSpec.ofChange lawS1967AExactSpec)

/-- ITS FALSE NEIGHBOUR: 'it returns false'. Refute it at one input. -/
def lawS1967AExactWrong : ChangeSpec := { name := "lawS1967AExact", fn := fun _ => fun
  | [d1, d2, d3] => { results := [.lit (.bool false)], args := [d1, d2, d3] }
  | _ => none }
def LawS1967AExactWrongFormAsk : Prop := lawS1967AExactRow.holds Ybaf.pinned (OpenSpec.ofChange lawS1967AExactWrong)

/-- 'bier.LawS1967ARoundTrip': WHATEVER THE INPUT: true; the input reads as it did. -/
def lawS1967ARoundTripSpec : ChangeSpec := { name := "lawS1967ARoundTrip", vars := ["example.com/bitsounder/bitsounder/bier.ErrTruncated", "example.com/bitsounder/bitsounder/bier.ErrBadLength"], fn := fun _ => fun
  | [d1, d2, d3, g1, g2] => { results := [.lit (.bool true)], args := [d1, d2, d3], vars := [g1, g2] }
  | _ => none }
def lawS1967ARoundTripRow : OpenClaim := { program := "ybulkansefmt", sum := "eec5febd273c216aa24d2f827edfd13caea90a2657d048e8a252fc1ae5c34bd0", func := "example.com/bitsounder/bitsounder/bier.LawS1967ARoundTrip", spec := "lawS1967ARoundTrip", stops := ["fmt.errorf"], inPlace := ["fmt.errorf"], unfollowed := true, recurses := true, named := ["example.com/bitsounder/bitsounder/bier.ErrTruncated", "example.com/bitsounder/bitsounder/bier.ErrBadLength", "internal/strconv.uint64pow10", "math/bits.deBruijn32tab", "math/bits.deBruijn64tab"], ifaces := true, apart := false, laid := [("math/bits.deBruijn32tab", laid_math_bits_deBruijn32tab), ("math/bits.deBruijn64tab", laid_math_bits_deBruijn64tab), ("internal/strconv.uint64pow10", laid_internal_strconv_uint64pow10), ("example.com/bitsounder/bitsounder/bier.ErrTruncated", laid_example_com_bitsounder_bitsounder_bier_ErrTruncated), ("example.com/bitsounder/bitsounder/bier.ErrBadLength", laid_example_com_bitsounder_bitsounder_bier_ErrBadLength)] }
/-- NO THEOREM (fmt's text is open here; it may be false): for the released tool's asking of the row's closed facts alone. THE STATEMENT IS 'LawS1967ARoundTripToldSaid' (YbulkanseFmtCards.lean). -/
def LawS1967ARoundTripFormAsk : Prop := lawS1967ARoundTripRow.holds Ybaf.pinned (OpenSpec.ofChange lawS1967ARoundTripSpec)

/-- ITS FALSE NEIGHBOUR: 'it returns false'. Refute it at one input. -/
def lawS1967ARoundTripWrong : ChangeSpec := { name := "lawS1967ARoundTrip", vars := ["example.com/bitsounder/bitsounder/bier.ErrTruncated", "example.com/bitsounder/bitsounder/bier.ErrBadLength"], fn := fun _ => fun
  | [d1, d2, d3, g1, g2] => { results := [.lit (.bool false)], args := [d1, d2, d3], vars := [g1, g2] }
  | _ => none }
def LawS1967ARoundTripWrongFormAsk : Prop := lawS1967ARoundTripRow.holds Ybaf.pinned (OpenSpec.ofChange lawS1967ARoundTripWrong)

/-- 'bier.LawS1967BDecode': WHATEVER THE INPUT: true; the input reads as it did. -/
def lawS1967BDecodeSpec : ChangeSpec := { name := "lawS1967BDecode", vars := ["example.com/bitsounder/bitsounder/bier.ErrTruncated"], fn := fun _ => fun
  | [d, g1] => { results := [.lit (.bool true)], args := [d], vars := [g1] }
  | _ => none }
def lawS1967BDecodeRow : OpenClaim := { program := "ybulkansefmt", sum := "eec5febd273c216aa24d2f827edfd13caea90a2657d048e8a252fc1ae5c34bd0", func := "example.com/bitsounder/bitsounder/bier.LawS1967BDecode", spec := "lawS1967BDecode", stops := ["fmt.errorf"], inPlace := ["fmt.errorf"], unfollowed := true, recurses := true, named := ["example.com/bitsounder/bitsounder/bier.ErrTruncated", "internal/strconv.uint64pow10", "math/bits.deBruijn32tab", "math/bits.deBruijn64tab"], ifaces := true, apart := false, laid := [("math/bits.deBruijn32tab", laid_math_bits_deBruijn32tab), ("math/bits.deBruijn64tab", laid_math_bits_deBruijn64tab), ("internal/strconv.uint64pow10", laid_internal_strconv_uint64pow10), ("example.com/bitsounder/bitsounder/bier.ErrTruncated", laid_example_com_bitsounder_bitsounder_bier_ErrTruncated)] }
/-- NO THEOREM (fmt's text is open here; it may be false): for the released tool's asking of the row's closed facts alone. THE STATEMENT IS 'LawS1967BDecodeToldSaid' (YbulkanseFmtCards.lean). -/
def LawS1967BDecodeFormAsk : Prop := lawS1967BDecodeRow.holds Ybaf.pinned (OpenSpec.ofChange lawS1967BDecodeSpec)

/-- ITS FALSE NEIGHBOUR: 'it returns false'. Refute it at one input. -/
def lawS1967BDecodeWrong : ChangeSpec := { name := "lawS1967BDecode", vars := ["example.com/bitsounder/bitsounder/bier.ErrTruncated"], fn := fun _ => fun
  | [d, g1] => { results := [.lit (.bool false)], args := [d], vars := [g1] }
  | _ => none }
def LawS1967BDecodeWrongFormAsk : Prop := lawS1967BDecodeRow.holds Ybaf.pinned (OpenSpec.ofChange lawS1967BDecodeWrong)

/-- 'bier.LawS1967BShort': WHATEVER THE INPUT: true; the input reads as it did. -/
def lawS1967BShortSpec : ChangeSpec := { name := "lawS1967BShort", vars := ["example.com/bitsounder/bitsounder/bier.ErrTruncated"], fn := fun _ => fun
  | [d, g1] => { results := [.lit (.bool true)], args := [d], vars := [g1] }
  | _ => none }
def lawS1967BShortRow : OpenClaim := { program := "ybulkansefmt", sum := "eec5febd273c216aa24d2f827edfd13caea90a2657d048e8a252fc1ae5c34bd0", func := "example.com/bitsounder/bitsounder/bier.LawS1967BShort", spec := "lawS1967BShort", stops := ["fmt.errorf"], inPlace := ["fmt.errorf", "internal/reflectlite.TypeOf"], unfollowed := true, recurses := true, named := ["example.com/bitsounder/bitsounder/bier.ErrTruncated", "internal/strconv.uint64pow10", "math/bits.deBruijn32tab", "math/bits.deBruijn64tab"], ifaces := true, apart := false, laid := [("math/bits.deBruijn32tab", laid_math_bits_deBruijn32tab), ("math/bits.deBruijn64tab", laid_math_bits_deBruijn64tab), ("internal/strconv.uint64pow10", laid_internal_strconv_uint64pow10), ("example.com/bitsounder/bitsounder/bier.ErrTruncated", laid_example_com_bitsounder_bitsounder_bier_ErrTruncated)] }
/-- NO THEOREM (fmt's text is open here; it may be false): for the released tool's asking of the row's closed facts alone. THE STATEMENT IS 'LawS1967BShortToldSaid' (YbulkanseFmtCards.lean). -/
def LawS1967BShortFormAsk : Prop := lawS1967BShortRow.holds Ybaf.pinned (OpenSpec.ofChange lawS1967BShortSpec)

/-- ITS FALSE NEIGHBOUR: 'it returns false'. Refute it at one input. -/
def lawS1967BShortWrong : ChangeSpec := { name := "lawS1967BShort", vars := ["example.com/bitsounder/bitsounder/bier.ErrTruncated"], fn := fun _ => fun
  | [d, g1] => { results := [.lit (.bool false)], args := [d], vars := [g1] }
  | _ => none }
def LawS1967BShortWrongFormAsk : Prop := lawS1967BShortRow.holds Ybaf.pinned (OpenSpec.ofChange lawS1967BShortWrong)

end Rows
end Go.Proofs.YbulkanseFmt
