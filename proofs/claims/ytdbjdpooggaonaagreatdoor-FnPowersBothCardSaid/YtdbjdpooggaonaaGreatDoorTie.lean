/-
  DERIVED. GIVEN WITH THE SEED: THE PROGRAM's TIES (one call each: nine closed facts by the kernel) AND EACH ROW's TIE, after the 31st guide's Derived/Test/Toyas{Tie, Card}.lean. No idea stands in it: it is a product of the set-up. Laid BY PROGRAM, IN A SANDBOX (cutbox-door.mjs). By AI agents, Wed Nov 11 2026. No macro, syntax, notation, axiom, sorry.
-/
import Derived.Test.YtdbjdpooggaonaaGreatDoorRows
import Derived.LaidByTextLater
import Derived.SevenTiedAt
import Derived.LaidSub
import Derived.LaidOnce
namespace Go.Proofs.YtdbjdpooggaonaaGreatDoor
open Go
set_option maxRecDepth 100000
theorem seatTie1 : Tryz.prog.laidByTextLater [("math/bits.deBruijn32tab", Rows.laid_math_bits_deBruijn32tab), ("math/bits.deBruijn64tab", Rows.laid_math_bits_deBruijn64tab), ("internal/strconv.uint64pow10", Rows.laid_internal_strconv_uint64pow10), ("strconv.ErrRange", Rows.laid_strconv_ErrRange), ("strconv.ErrSyntax", Rows.laid_strconv_ErrSyntax), ("io.EOF", Rows.laid_io_EOF), ("pub-marlinspike/pub/bigall.errNoDigits", Rows.laid_pub_marlinspike_pub_bigall_errNoDigits), ("pub-marlinspike/pub/bigall.errInvalSep", Rows.laid_pub_marlinspike_pub_bigall_errInvalSep), ("pub-marlinspike/pub/bigall.leafSize", Rows.laid_pub_marlinspike_pub_bigall_leafSize), ("pub-marlinspike/pub/bigall.divRecursiveThreshold", Rows.laid_pub_marlinspike_pub_bigall_divRecursiveThreshold), ("pub-marlinspike/pub/bigall.karatsubaThreshold", Rows.laid_pub_marlinspike_pub_bigall_karatsubaThreshold), ("pub-marlinspike/pub/bigall.basicSqrThreshold", Rows.laid_pub_marlinspike_pub_bigall_basicSqrThreshold), ("pub-marlinspike/pub/bigall.karatsubaSqrThreshold", Rows.laid_pub_marlinspike_pub_bigall_karatsubaSqrThreshold), ("pub-marlinspike/pub/cosmosmath.ErrIntOverflow", Rows.laid_pub_marlinspike_pub_cosmosmath_ErrIntOverflow), ("pub-marlinspike/pub/cosmosmath.ErrDivideByZero", Rows.laid_pub_marlinspike_pub_cosmosmath_ErrDivideByZero)] [.data, .data, .data, .sentinel, .sentinel, .sentinel, .sentinel, .sentinel, .data, .data, .data, .data, .data, .sentinel, .sentinel] true :=
  Program.laidByTextLater_by_one 177 8 65 (by kernel_rfl) (by kernel_rfl) (by kernel_rfl) (by kernel_rfl) (by kernel_rfl) (by kernel_rfl) (fun _ _ => by kernel_rfl)
theorem noOwnUnsafe : Tryz.pinned.checked.prog.headLifts.contains "ownunsafe" = false := by kernel_rfl
theorem tie : Tryz.prog.laidByTextLater [("math/bits.deBruijn32tab", Rows.laid_math_bits_deBruijn32tab), ("math/bits.deBruijn64tab", Rows.laid_math_bits_deBruijn64tab), ("internal/strconv.uint64pow10", Rows.laid_internal_strconv_uint64pow10), ("strconv.ErrRange", Rows.laid_strconv_ErrRange), ("strconv.ErrSyntax", Rows.laid_strconv_ErrSyntax), ("io.EOF", Rows.laid_io_EOF), ("pub-marlinspike/pub/bigall.errNoDigits", Rows.laid_pub_marlinspike_pub_bigall_errNoDigits), ("pub-marlinspike/pub/bigall.errInvalSep", Rows.laid_pub_marlinspike_pub_bigall_errInvalSep), ("pub-marlinspike/pub/bigall.leafSize", Rows.laid_pub_marlinspike_pub_bigall_leafSize), ("pub-marlinspike/pub/bigall.divRecursiveThreshold", Rows.laid_pub_marlinspike_pub_bigall_divRecursiveThreshold), ("pub-marlinspike/pub/bigall.karatsubaThreshold", Rows.laid_pub_marlinspike_pub_bigall_karatsubaThreshold), ("pub-marlinspike/pub/bigall.basicSqrThreshold", Rows.laid_pub_marlinspike_pub_bigall_basicSqrThreshold), ("pub-marlinspike/pub/bigall.karatsubaSqrThreshold", Rows.laid_pub_marlinspike_pub_bigall_karatsubaSqrThreshold), ("pub-marlinspike/pub/cosmosmath.ErrIntOverflow", Rows.laid_pub_marlinspike_pub_cosmosmath_ErrIntOverflow), ("pub-marlinspike/pub/cosmosmath.ErrDivideByZero", Rows.laid_pub_marlinspike_pub_cosmosmath_ErrDivideByZero)] [.data, .data, .data, .sentinel, .sentinel, .sentinel, .sentinel, .sentinel, .data, .data, .data, .data, .data, .sentinel, .sentinel] true :=
  Program.laidByTextLater.sub seatTie1 ["math/bits.deBruijn32tab", "math/bits.deBruijn64tab", "internal/strconv.uint64pow10", "strconv.ErrRange", "strconv.ErrSyntax", "io.EOF", "pub-marlinspike/pub/bigall.errNoDigits", "pub-marlinspike/pub/bigall.errInvalSep", "pub-marlinspike/pub/bigall.leafSize", "pub-marlinspike/pub/bigall.divRecursiveThreshold", "pub-marlinspike/pub/bigall.karatsubaThreshold", "pub-marlinspike/pub/bigall.basicSqrThreshold", "pub-marlinspike/pub/bigall.karatsubaSqrThreshold", "pub-marlinspike/pub/cosmosmath.ErrIntOverflow", "pub-marlinspike/pub/cosmosmath.ErrDivideByZero"] (by kernel_rfl) (by kernel_rfl)
theorem fnOrdersBoth_row_tie : Rows.fnOrdersBothRow.laidByTextAt .later Tryz.pinned [.data, .data, .data, .sentinel, .sentinel, .sentinel, .sentinel, .sentinel, .data, .data, .data, .data, .data, .sentinel, .sentinel] true :=
  OpenClaim.laidByTextAt_later rfl rfl tie noOwnUnsafe
theorem fnPowersBoth_row_tie : Rows.fnPowersBothRow.laidByTextAt .later Tryz.pinned [.data, .data, .data, .sentinel, .sentinel, .sentinel, .sentinel, .sentinel, .data, .data, .data, .data, .data, .sentinel, .sentinel] true :=
  OpenClaim.laidByTextAt_later rfl rfl tie noOwnUnsafe
theorem fnIntToDec_row_tie : Rows.fnIntToDecRow.laidByTextAt .later Tryz.pinned [.data, .data, .data, .sentinel, .sentinel, .sentinel, .sentinel, .sentinel, .data, .data, .data, .data, .data, .sentinel, .sentinel] true :=
  OpenClaim.laidByTextAt_later rfl rfl tie noOwnUnsafe
theorem fnSumsBoth_row_tie : Rows.fnSumsBothRow.laidByTextAt .later Tryz.pinned [.data, .data, .data, .sentinel, .sentinel, .sentinel, .sentinel, .sentinel, .data, .data, .data, .data, .data, .sentinel, .sentinel] true :=
  OpenClaim.laidByTextAt_later rfl rfl tie noOwnUnsafe
theorem fnProductsBoth_row_tie : Rows.fnProductsBothRow.laidByTextAt .later Tryz.pinned [.data, .data, .data, .sentinel, .sentinel, .sentinel, .sentinel, .sentinel, .data, .data, .data, .data, .data, .sentinel, .sentinel] true :=
  OpenClaim.laidByTextAt_later rfl rfl tie noOwnUnsafe
theorem fnOrdersBothUpto_row_tie : Rows.fnOrdersBothUptoRow.laidByTextAt .later Tryz.pinned [.data, .data, .data, .sentinel, .sentinel, .sentinel, .sentinel, .sentinel, .data, .data, .data, .data, .data, .sentinel, .sentinel] true :=
  OpenClaim.laidByTextAt_later rfl rfl tie noOwnUnsafe
theorem fnPowersBothUpto_row_tie : Rows.fnPowersBothUptoRow.laidByTextAt .later Tryz.pinned [.data, .data, .data, .sentinel, .sentinel, .sentinel, .sentinel, .sentinel, .data, .data, .data, .data, .data, .sentinel, .sentinel] true :=
  OpenClaim.laidByTextAt_later rfl rfl tie noOwnUnsafe
theorem fnIntToDecUpto_row_tie : Rows.fnIntToDecUptoRow.laidByTextAt .later Tryz.pinned [.data, .data, .data, .sentinel, .sentinel, .sentinel, .sentinel, .sentinel, .data, .data, .data, .data, .data, .sentinel, .sentinel] true :=
  OpenClaim.laidByTextAt_later rfl rfl tie noOwnUnsafe
theorem fnSumsBothUpto_row_tie : Rows.fnSumsBothUptoRow.laidByTextAt .later Tryz.pinned [.data, .data, .data, .sentinel, .sentinel, .sentinel, .sentinel, .sentinel, .data, .data, .data, .data, .data, .sentinel, .sentinel] true :=
  OpenClaim.laidByTextAt_later rfl rfl tie noOwnUnsafe
theorem fnProductsBothUpto_row_tie : Rows.fnProductsBothUptoRow.laidByTextAt .later Tryz.pinned [.data, .data, .data, .sentinel, .sentinel, .sentinel, .sentinel, .sentinel, .data, .data, .data, .data, .data, .sentinel, .sentinel] true :=
  OpenClaim.laidByTextAt_later rfl rfl tie noOwnUnsafe
end Go.Proofs.YtdbjdpooggaonaaGreatDoor
