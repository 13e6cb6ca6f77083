/- What a row that lists strconv's variables besides gives; a world that meets it. Conditions: those that each theorem states. -/
import Derived.Test.YtpabbnogfflgpaaGreatDoorBase29
set_option linter.all false

namespace Go.Proofs.YtpabbnogfflgpaaGreatDoor
open Go.ChangeShapes Go.WideShapes Go.ChangeAt Go.RowKit
set_option maxRecDepth 100000
/-- What the walks ask of the world, out of the row's list. -/
theorem start_okM {W : World} (h : laidMetH Tryz.prog Rows.fnDecMakesRow.laid W) (hs : W.ShapedOpen Tryz.prog) : Ok W ∧ Er W := by
  have h : laidMet Tryz.prog Rows.fnDecMakesRow.laid W := h
  have e3 := laid_err h (n := "io.EOF") (g := 3) (List.mem_of_getElem? (i := 5) rfl) (by kernel_rfl) (by kernel_rfl)
  have e4 := laid_err h (n := "pub-marlinspike/pub/bigall.errNoDigits") (g := 11) (List.mem_of_getElem? (i := 6) rfl) (by kernel_rfl) (by kernel_rfl)
  refine ⟨⟨⟨?_, ?_, ?_, ?_, ?_, e3, e4⟩, sized hs⟩, ⟨e3, e4, ?_, ?_, ?_⟩⟩
  · exact laid_int h (n := "pub-marlinspike/pub/bigall.karatsubaThreshold") (List.mem_of_getElem? (i := 10) rfl) (by kernel_rfl) (by kernel_rfl)
  · exact laid_int h (n := "pub-marlinspike/pub/bigall.basicSqrThreshold") (List.mem_of_getElem? (i := 11) rfl) (by kernel_rfl) (by kernel_rfl)
  · exact laid_int h (n := "pub-marlinspike/pub/bigall.karatsubaSqrThreshold") (List.mem_of_getElem? (i := 12) rfl) (by kernel_rfl) (by kernel_rfl)
  · exact laid_int h (n := "pub-marlinspike/pub/bigall.divRecursiveThreshold") (List.mem_of_getElem? (i := 9) rfl) (by kernel_rfl) (by kernel_rfl)
  · exact laid_int h (n := "pub-marlinspike/pub/bigall.leafSize") (List.mem_of_getElem? (i := 8) rfl) (by kernel_rfl) (by kernel_rfl)
  · exact laid_err h (n := "pub-marlinspike/pub/cosmosmath.ErrLegacyEmptyDecimalStr") (List.mem_of_getElem? (i := 13) rfl) (by kernel_rfl) (by kernel_rfl)
  · exact laid_err h (n := "pub-marlinspike/pub/cosmosmath.ErrLegacyInvalidDecimalLength") (List.mem_of_getElem? (i := 14) rfl) (by kernel_rfl) (by kernel_rfl)
  · exact laid_err h (n := "pub-marlinspike/pub/cosmosmath.ErrLegacyInvalidDecimalStr") (List.mem_of_getElem? (i := 15) rfl) (by kernel_rfl) (by kernel_rfl)
def errTextsM : Array Obj := #[.cells #[.string (ByteArray.mk #[69, 79, 70])] 150, .cells #[.string (ByteArray.mk #[110, 117, 109, 98, 101, 114, 32, 104, 97, 115, 32, 110, 111, 32, 100, 105, 103, 105, 116, 115])] 150, .cells #[.string (ByteArray.mk #[39, 95, 39, 32, 109, 117, 115, 116, 32, 115, 101, 112, 97, 114, 97, 116, 101, 32, 115, 117, 99, 99, 101, 115, 115, 105, 118, 101, 32, 100, 105, 103, 105, 116, 115])] 150, .cells #[.string (ByteArray.mk #[100, 101, 99, 105, 109, 97, 108, 32, 115, 116, 114, 105, 110, 103, 32, 99, 97, 110, 110, 111, 116, 32, 98, 101, 32, 101, 109, 112, 116, 121])] 150, .cells #[.string (ByteArray.mk #[105, 110, 118, 97, 108, 105, 100, 32, 100, 101, 99, 105, 109, 97, 108, 32, 108, 101, 110, 103, 116, 104])] 150, .cells #[.string (ByteArray.mk #[105, 110, 118, 97, 108, 105, 100, 32, 100, 101, 99, 105, 109, 97, 108, 32, 115, 116, 114, 105, 110, 103])] 150, .cells #[.string (ByteArray.mk #[118, 97, 108, 117, 101, 32, 111, 117, 116, 32, 111, 102, 32, 114, 97, 110, 103, 101])] 150, .cells #[.string (ByteArray.mk #[105, 110, 118, 97, 108, 105, 100, 32, 115, 121, 110, 116, 97, 120])] 150]
def pow10M : Array Value := #[.int .u64 1, .int .u64 10, .int .u64 100, .int .u64 1000, .int .u64 10000, .int .u64 100000, .int .u64 1000000, .int .u64 10000000, .int .u64 100000000, .int .u64 1000000000, .int .u64 10000000000, .int .u64 100000000000, .int .u64 1000000000000, .int .u64 10000000000000, .int .u64 100000000000000, .int .u64 1000000000000000, .int .u64 10000000000000000, .int .u64 100000000000000000, .int .u64 1000000000000000000, .int .u64 10000000000000000000]
/-- A world for the witness. -/
noncomputable def laidWorldM (os : Os) : World :=
  { World.holding Tryz.prog os ⟨errTextsM, #[], []⟩ with heap := (((((((((((((((((World.holding Tryz.prog os ⟨errTextsM, #[], []⟩).heap.modify 13 (setC #[.int .i64 8])).modify 9 (setC #[.int .i64 40])).modify 8 (setC #[.int .i64 40])).modify 6 (setC #[.int .i64 12])).modify 7 (setC #[.int .i64 80])).modify 3 (setC #[.iface 148 (.pointer (some ⟨low + 0, 0, none⟩))])).modify 11 (setC #[.iface 148 (.pointer (some ⟨low + 1, 0, none⟩))])).modify 10 (setC #[.iface 148 (.pointer (some ⟨low + 2, 0, none⟩))])).modify 0 (setC #[.iface 148 (.pointer (some ⟨low + 3, 0, none⟩))])).modify 1 (setC #[.iface 148 (.pointer (some ⟨low + 4, 0, none⟩))])).modify 2 (setC #[.iface 148 (.pointer (some ⟨low + 5, 0, none⟩))])).modify 15 (setC tab32)).modify 16 (setC tab64))).modify 5 (setC #[.iface 148 (.pointer (some ⟨low + 6, 0, none⟩))])).modify 4 (setC #[.iface 148 (.pointer (some ⟨low + 7, 0, none⟩))])).modify 17 (setC pow10M) }
end Go.Proofs.YtpabbnogfflgpaaGreatDoor
