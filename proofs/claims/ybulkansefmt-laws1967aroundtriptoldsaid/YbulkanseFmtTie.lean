/-
  DERIVED. GIVEN WITH THE SEED: THE PROGRAM's TIES (one call each: nine closed facts by the kernel) AND EACH ROW's TIE, after the 31st guide's Derived/Test/Toyas{Tie, Card}.lean. No idea stands in it: it is a product of the set-up. Laid BY PROGRAM, IN A SANDBOX (cutbox-door.mjs). By AI agents, Wed Nov 11 2026. No macro, syntax, notation, axiom, sorry.
-/
import Derived.Test.YbulkanseFmtRows
import Derived.LaidByTextLater
import Derived.SevenTiedAt
import Derived.LaidSub
import Derived.LaidOnce
namespace Go.Proofs.YbulkanseFmt
open Go
set_option maxRecDepth 100000
theorem seatTie1 : Ybaf.prog.laidByTextLater [("math/bits.deBruijn32tab", Rows.laid_math_bits_deBruijn32tab), ("math/bits.deBruijn64tab", Rows.laid_math_bits_deBruijn64tab), ("internal/strconv.uint64pow10", Rows.laid_internal_strconv_uint64pow10), ("example.com/bitsounder/bitsounder/bier.ErrTruncated", Rows.laid_example_com_bitsounder_bitsounder_bier_ErrTruncated), ("example.com/bitsounder/bitsounder/bier.ErrBadLength", Rows.laid_example_com_bitsounder_bitsounder_bier_ErrBadLength)] [.data, .data, .data, .sentinel, .sentinel] true :=
  Program.laidByTextLater_by_one 62 8 65 (by kernel_rfl) (by kernel_rfl) (by kernel_rfl) (by kernel_rfl) (by kernel_rfl) (by kernel_rfl) (fun _ _ => by kernel_rfl)
theorem noOwnUnsafe : Ybaf.pinned.checked.prog.headLifts.contains "ownunsafe" = false := by kernel_rfl
theorem tie : Ybaf.prog.laidByTextLater [("math/bits.deBruijn32tab", Rows.laid_math_bits_deBruijn32tab), ("math/bits.deBruijn64tab", Rows.laid_math_bits_deBruijn64tab), ("internal/strconv.uint64pow10", Rows.laid_internal_strconv_uint64pow10), ("example.com/bitsounder/bitsounder/bier.ErrTruncated", Rows.laid_example_com_bitsounder_bitsounder_bier_ErrTruncated), ("example.com/bitsounder/bitsounder/bier.ErrBadLength", Rows.laid_example_com_bitsounder_bitsounder_bier_ErrBadLength)] [.data, .data, .data, .sentinel, .sentinel] true :=
  Program.laidByTextLater.sub seatTie1 ["math/bits.deBruijn32tab", "math/bits.deBruijn64tab", "internal/strconv.uint64pow10", "example.com/bitsounder/bitsounder/bier.ErrTruncated", "example.com/bitsounder/bitsounder/bier.ErrBadLength"] (by kernel_rfl) (by kernel_rfl)
theorem lawS1967ARoundTrip_row_tie : Rows.lawS1967ARoundTripRow.laidByTextAt .later Ybaf.pinned [.data, .data, .data, .sentinel, .sentinel] true :=
  OpenClaim.laidByTextAt_later rfl rfl tie noOwnUnsafe
theorem tie2 : Ybaf.prog.laidByTextLater [("math/bits.deBruijn32tab", Rows.laid_math_bits_deBruijn32tab), ("math/bits.deBruijn64tab", Rows.laid_math_bits_deBruijn64tab), ("internal/strconv.uint64pow10", Rows.laid_internal_strconv_uint64pow10), ("example.com/bitsounder/bitsounder/bier.ErrTruncated", Rows.laid_example_com_bitsounder_bitsounder_bier_ErrTruncated)] [.data, .data, .data, .sentinel] true :=
  Program.laidByTextLater.sub seatTie1 ["math/bits.deBruijn32tab", "math/bits.deBruijn64tab", "internal/strconv.uint64pow10", "example.com/bitsounder/bitsounder/bier.ErrTruncated"] (by kernel_rfl) (by kernel_rfl)
theorem lawS1967BDecode_row_tie : Rows.lawS1967BDecodeRow.laidByTextAt .later Ybaf.pinned [.data, .data, .data, .sentinel] true :=
  OpenClaim.laidByTextAt_later rfl rfl tie2 noOwnUnsafe
theorem lawS1967BShort_row_tie : Rows.lawS1967BShortRow.laidByTextAt .later Ybaf.pinned [.data, .data, .data, .sentinel] true :=
  OpenClaim.laidByTextAt_later rfl rfl tie2 noOwnUnsafe
end Go.Proofs.YbulkanseFmt
