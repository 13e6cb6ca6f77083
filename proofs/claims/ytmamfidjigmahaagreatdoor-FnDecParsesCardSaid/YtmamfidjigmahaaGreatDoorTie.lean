/-
  DERIVED. GIVEN WITH THE SEED: THE PROGRAM's TIES (one call each: nine closed facts by the kernel) AND EACH ROW's TIE, after the 31st guide's Derived/Test/Toyas{Tie, Card}.lean. No idea stands in it: it is a product of the set-up. Laid BY PROGRAM, IN A SANDBOX (cutbox-door.mjs). By AI agents, Wed Nov 11 2026. No macro, syntax, notation, axiom, sorry.
-/
import Derived.Test.YtmamfidjigmahaaGreatDoorRows
import Derived.LaidByTextLater
import Derived.SevenTiedAt
import Derived.LaidSub
import Derived.LaidOnce
namespace Go.Proofs.YtmamfidjigmahaaGreatDoor
open Go
set_option maxRecDepth 100000
theorem seatTie1 : Tryz.prog.laidByTextLater [("math/bits.deBruijn32tab", Rows.laid_math_bits_deBruijn32tab), ("math/bits.deBruijn64tab", Rows.laid_math_bits_deBruijn64tab), ("io.EOF", Rows.laid_io_EOF), ("pub-marlinspike/pub/bigall.errNoDigits", Rows.laid_pub_marlinspike_pub_bigall_errNoDigits), ("pub-marlinspike/pub/bigall.errInvalSep", Rows.laid_pub_marlinspike_pub_bigall_errInvalSep), ("pub-marlinspike/pub/bigall.leafSize", Rows.laid_pub_marlinspike_pub_bigall_leafSize), ("pub-marlinspike/pub/bigall.divRecursiveThreshold", Rows.laid_pub_marlinspike_pub_bigall_divRecursiveThreshold), ("pub-marlinspike/pub/bigall.karatsubaThreshold", Rows.laid_pub_marlinspike_pub_bigall_karatsubaThreshold), ("pub-marlinspike/pub/bigall.basicSqrThreshold", Rows.laid_pub_marlinspike_pub_bigall_basicSqrThreshold), ("pub-marlinspike/pub/bigall.karatsubaSqrThreshold", Rows.laid_pub_marlinspike_pub_bigall_karatsubaSqrThreshold), ("pub-marlinspike/pub/cosmosmath.ErrLegacyEmptyDecimalStr", Rows.laid_pub_marlinspike_pub_cosmosmath_ErrLegacyEmptyDecimalStr), ("pub-marlinspike/pub/cosmosmath.ErrLegacyInvalidDecimalLength", Rows.laid_pub_marlinspike_pub_cosmosmath_ErrLegacyInvalidDecimalLength), ("pub-marlinspike/pub/cosmosmath.ErrLegacyInvalidDecimalStr", Rows.laid_pub_marlinspike_pub_cosmosmath_ErrLegacyInvalidDecimalStr)] [.data, .data, .sentinel, .sentinel, .sentinel, .data, .data, .data, .data, .data, .sentinel, .sentinel, .sentinel] true :=
  Program.laidByTextLater_by_one 153 8 65 (by kernel_rfl) (by kernel_rfl) (by kernel_rfl) (by kernel_rfl) (by kernel_rfl) (by kernel_rfl) (fun _ _ => by kernel_rfl)
theorem noOwnUnsafe : Tryz.pinned.checked.prog.headLifts.contains "ownunsafe" = false := by kernel_rfl
theorem tie : Tryz.prog.laidByTextLater [("math/bits.deBruijn32tab", Rows.laid_math_bits_deBruijn32tab), ("math/bits.deBruijn64tab", Rows.laid_math_bits_deBruijn64tab), ("io.EOF", Rows.laid_io_EOF), ("pub-marlinspike/pub/bigall.errNoDigits", Rows.laid_pub_marlinspike_pub_bigall_errNoDigits), ("pub-marlinspike/pub/bigall.errInvalSep", Rows.laid_pub_marlinspike_pub_bigall_errInvalSep), ("pub-marlinspike/pub/bigall.leafSize", Rows.laid_pub_marlinspike_pub_bigall_leafSize), ("pub-marlinspike/pub/bigall.divRecursiveThreshold", Rows.laid_pub_marlinspike_pub_bigall_divRecursiveThreshold), ("pub-marlinspike/pub/bigall.karatsubaThreshold", Rows.laid_pub_marlinspike_pub_bigall_karatsubaThreshold), ("pub-marlinspike/pub/bigall.basicSqrThreshold", Rows.laid_pub_marlinspike_pub_bigall_basicSqrThreshold), ("pub-marlinspike/pub/bigall.karatsubaSqrThreshold", Rows.laid_pub_marlinspike_pub_bigall_karatsubaSqrThreshold), ("pub-marlinspike/pub/cosmosmath.ErrLegacyEmptyDecimalStr", Rows.laid_pub_marlinspike_pub_cosmosmath_ErrLegacyEmptyDecimalStr), ("pub-marlinspike/pub/cosmosmath.ErrLegacyInvalidDecimalLength", Rows.laid_pub_marlinspike_pub_cosmosmath_ErrLegacyInvalidDecimalLength), ("pub-marlinspike/pub/cosmosmath.ErrLegacyInvalidDecimalStr", Rows.laid_pub_marlinspike_pub_cosmosmath_ErrLegacyInvalidDecimalStr)] [.data, .data, .sentinel, .sentinel, .sentinel, .data, .data, .data, .data, .data, .sentinel, .sentinel, .sentinel] true :=
  Program.laidByTextLater.sub seatTie1 ["math/bits.deBruijn32tab", "math/bits.deBruijn64tab", "io.EOF", "pub-marlinspike/pub/bigall.errNoDigits", "pub-marlinspike/pub/bigall.errInvalSep", "pub-marlinspike/pub/bigall.leafSize", "pub-marlinspike/pub/bigall.divRecursiveThreshold", "pub-marlinspike/pub/bigall.karatsubaThreshold", "pub-marlinspike/pub/bigall.basicSqrThreshold", "pub-marlinspike/pub/bigall.karatsubaSqrThreshold", "pub-marlinspike/pub/cosmosmath.ErrLegacyEmptyDecimalStr", "pub-marlinspike/pub/cosmosmath.ErrLegacyInvalidDecimalLength", "pub-marlinspike/pub/cosmosmath.ErrLegacyInvalidDecimalStr"] (by kernel_rfl) (by kernel_rfl)
theorem fnDecBack_row_tie : Rows.fnDecBackRow.laidByTextAt .later Tryz.pinned [.data, .data, .sentinel, .sentinel, .sentinel, .data, .data, .data, .data, .data, .sentinel, .sentinel, .sentinel] true :=
  OpenClaim.laidByTextAt_later rfl rfl tie noOwnUnsafe
theorem fnDecParses_row_tie : Rows.fnDecParsesRow.laidByTextAt .later Tryz.pinned [.data, .data, .sentinel, .sentinel, .sentinel, .data, .data, .data, .data, .data, .sentinel, .sentinel, .sentinel] true :=
  OpenClaim.laidByTextAt_later rfl rfl tie noOwnUnsafe
theorem fnDecSums_row_tie : Rows.fnDecSumsRow.laidByTextAt .later Tryz.pinned [.data, .data, .sentinel, .sentinel, .sentinel, .data, .data, .data, .data, .data, .sentinel, .sentinel, .sentinel] true :=
  OpenClaim.laidByTextAt_later rfl rfl tie noOwnUnsafe
theorem fnDecTells_row_tie : Rows.fnDecTellsRow.laidByTextAt .later Tryz.pinned [.data, .data, .sentinel, .sentinel, .sentinel, .data, .data, .data, .data, .data, .sentinel, .sentinel, .sentinel] true :=
  OpenClaim.laidByTextAt_later rfl rfl tie noOwnUnsafe
theorem fnDecBackUpto_row_tie : Rows.fnDecBackUptoRow.laidByTextAt .later Tryz.pinned [.data, .data, .sentinel, .sentinel, .sentinel, .data, .data, .data, .data, .data, .sentinel, .sentinel, .sentinel] true :=
  OpenClaim.laidByTextAt_later rfl rfl tie noOwnUnsafe
theorem fnDecParsesUpto_row_tie : Rows.fnDecParsesUptoRow.laidByTextAt .later Tryz.pinned [.data, .data, .sentinel, .sentinel, .sentinel, .data, .data, .data, .data, .data, .sentinel, .sentinel, .sentinel] true :=
  OpenClaim.laidByTextAt_later rfl rfl tie noOwnUnsafe
theorem fnDecSumsUpto_row_tie : Rows.fnDecSumsUptoRow.laidByTextAt .later Tryz.pinned [.data, .data, .sentinel, .sentinel, .sentinel, .data, .data, .data, .data, .data, .sentinel, .sentinel, .sentinel] true :=
  OpenClaim.laidByTextAt_later rfl rfl tie noOwnUnsafe
theorem fnDecTellsUpto_row_tie : Rows.fnDecTellsUptoRow.laidByTextAt .later Tryz.pinned [.data, .data, .sentinel, .sentinel, .sentinel, .data, .data, .data, .data, .data, .sentinel, .sentinel, .sentinel] true :=
  OpenClaim.laidByTextAt_later rfl rfl tie noOwnUnsafe
end Go.Proofs.YtmamfidjigmahaaGreatDoor
