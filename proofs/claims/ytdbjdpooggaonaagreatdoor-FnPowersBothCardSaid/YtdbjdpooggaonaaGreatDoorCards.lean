/-
  DERIVED. GIVEN WITH THE SEED: THE CARDS: each row of YtdbjdpooggaonaaGreatDoorRows.lean that lists a variable, with what it lists TIED to the program's text (the seventh form; the later family's looks); each row that meets fmt, with fmt's text TOLD by the authors' own Lean function (tested against real Go, not proved from fmt's source: count such statements apart). THE CARD IS WHAT COUNTS. Prove the row's statement (the work); the ties are given (YtdbjdpooggaonaaGreatDoorTie.lean); close each card by the builder's one call (the guide's Derived/Test/ToyasCard.lean, 'card_holds'). Laid BY PROGRAM, IN A SANDBOX (cutbox-door.mjs). By AI agents, Wed Nov 11 2026. No macro, syntax, notation, axiom, sorry.
-/
import Derived.Test.YtdbjdpooggaonaaGreatDoorRows
import GoSem.ClaimSeven
namespace Go.Proofs.YtdbjdpooggaonaaGreatDoor
namespace Rows

/-- THE TIED CARD OF 'laws.FnOrdersBoth'. -/
def fnOrdersBothCard : Claim7 := { stood := { row := fnOrdersBothRow, standIns := [], harness := (true, "3c2d44f206cd04d9a88ac05cff8a686cd14775630b7f347db702f2eca7adfa25"), looks := true }, kinds := [], alts := [], laidByText := true, laidKinds := [.data, .data, .data, .sentinel, .sentinel, .sentinel, .sentinel, .sentinel, .data, .data, .data, .data, .data, .sentinel, .sentinel], laidTests := true, laidLooks := .later }
def FnOrdersBothCardSaid : Prop := Claim7.holds Tryz.pinned (.plain (OpenSpec.ofChange fnOrdersBothSpec)) fnOrdersBothCard

/-- THE TIED CARD OF 'laws.FnPowersBoth'. -/
def fnPowersBothCard : Claim7 := { stood := { row := fnPowersBothRow, standIns := [], harness := (true, "3c2d44f206cd04d9a88ac05cff8a686cd14775630b7f347db702f2eca7adfa25"), looks := true }, kinds := [], alts := [], laidByText := true, laidKinds := [.data, .data, .data, .sentinel, .sentinel, .sentinel, .sentinel, .sentinel, .data, .data, .data, .data, .data, .sentinel, .sentinel], laidTests := true, laidLooks := .later }
def FnPowersBothCardSaid : Prop := Claim7.holds Tryz.pinned (.plain (OpenSpec.ofChange fnPowersBothSpec)) fnPowersBothCard

/-- THE TIED CARD OF 'laws.FnIntToDec'. -/
def fnIntToDecCard : Claim7 := { stood := { row := fnIntToDecRow, standIns := [], harness := (true, "3c2d44f206cd04d9a88ac05cff8a686cd14775630b7f347db702f2eca7adfa25"), looks := true }, kinds := [], alts := [], laidByText := true, laidKinds := [.data, .data, .data, .sentinel, .sentinel, .sentinel, .sentinel, .sentinel, .data, .data, .data, .data, .data, .sentinel, .sentinel], laidTests := true, laidLooks := .later }
def FnIntToDecCardSaid : Prop := Claim7.holds Tryz.pinned (.plain (OpenSpec.ofChange fnIntToDecSpec)) fnIntToDecCard

/-- THE TIED CARD OF 'laws.FnSumsBoth'. -/
def fnSumsBothCard : Claim7 := { stood := { row := fnSumsBothRow, standIns := [], harness := (true, "3c2d44f206cd04d9a88ac05cff8a686cd14775630b7f347db702f2eca7adfa25"), looks := true }, kinds := [], alts := [], laidByText := true, laidKinds := [.data, .data, .data, .sentinel, .sentinel, .sentinel, .sentinel, .sentinel, .data, .data, .data, .data, .data, .sentinel, .sentinel], laidTests := true, laidLooks := .later }
def FnSumsBothCardSaid : Prop := Claim7.holds Tryz.pinned (.plain (OpenSpec.ofChange fnSumsBothSpec)) fnSumsBothCard

/-- THE TIED CARD OF 'laws.FnProductsBoth'. -/
def fnProductsBothCard : Claim7 := { stood := { row := fnProductsBothRow, standIns := [], harness := (true, "3c2d44f206cd04d9a88ac05cff8a686cd14775630b7f347db702f2eca7adfa25"), looks := true }, kinds := [], alts := [], laidByText := true, laidKinds := [.data, .data, .data, .sentinel, .sentinel, .sentinel, .sentinel, .sentinel, .data, .data, .data, .data, .data, .sentinel, .sentinel], laidTests := true, laidLooks := .later }
def FnProductsBothCardSaid : Prop := Claim7.holds Tryz.pinned (.plain (OpenSpec.ofChange fnProductsBothSpec)) fnProductsBothCard

/-- THE SECOND FORM's CARD OF 'laws.FnOrdersBoth'. -/
def fnOrdersBothUptoCard : Claim7 := { stood := { row := fnOrdersBothUptoRow, standIns := [], harness := (true, "3c2d44f206cd04d9a88ac05cff8a686cd14775630b7f347db702f2eca7adfa25"), looks := true }, kinds := [], alts := [], laidByText := true, laidKinds := [.data, .data, .data, .sentinel, .sentinel, .sentinel, .sentinel, .sentinel, .data, .data, .data, .data, .data, .sentinel, .sentinel], laidTests := true, laidLooks := .later }
def FnOrdersBothUptoCardSaid : Prop := Claim7.holds Tryz.pinned (.plain (OpenSpec.upto fnOrdersBothSpec)) fnOrdersBothUptoCard

/-- THE SECOND FORM's CARD OF 'laws.FnPowersBoth'. -/
def fnPowersBothUptoCard : Claim7 := { stood := { row := fnPowersBothUptoRow, standIns := [], harness := (true, "3c2d44f206cd04d9a88ac05cff8a686cd14775630b7f347db702f2eca7adfa25"), looks := true }, kinds := [], alts := [], laidByText := true, laidKinds := [.data, .data, .data, .sentinel, .sentinel, .sentinel, .sentinel, .sentinel, .data, .data, .data, .data, .data, .sentinel, .sentinel], laidTests := true, laidLooks := .later }
def FnPowersBothUptoCardSaid : Prop := Claim7.holds Tryz.pinned (.plain (OpenSpec.upto fnPowersBothSpec)) fnPowersBothUptoCard

/-- THE SECOND FORM's CARD OF 'laws.FnIntToDec'. -/
def fnIntToDecUptoCard : Claim7 := { stood := { row := fnIntToDecUptoRow, standIns := [], harness := (true, "3c2d44f206cd04d9a88ac05cff8a686cd14775630b7f347db702f2eca7adfa25"), looks := true }, kinds := [], alts := [], laidByText := true, laidKinds := [.data, .data, .data, .sentinel, .sentinel, .sentinel, .sentinel, .sentinel, .data, .data, .data, .data, .data, .sentinel, .sentinel], laidTests := true, laidLooks := .later }
def FnIntToDecUptoCardSaid : Prop := Claim7.holds Tryz.pinned (.plain (OpenSpec.upto fnIntToDecSpec)) fnIntToDecUptoCard

/-- THE SECOND FORM's CARD OF 'laws.FnSumsBoth'. -/
def fnSumsBothUptoCard : Claim7 := { stood := { row := fnSumsBothUptoRow, standIns := [], harness := (true, "3c2d44f206cd04d9a88ac05cff8a686cd14775630b7f347db702f2eca7adfa25"), looks := true }, kinds := [], alts := [], laidByText := true, laidKinds := [.data, .data, .data, .sentinel, .sentinel, .sentinel, .sentinel, .sentinel, .data, .data, .data, .data, .data, .sentinel, .sentinel], laidTests := true, laidLooks := .later }
def FnSumsBothUptoCardSaid : Prop := Claim7.holds Tryz.pinned (.plain (OpenSpec.upto fnSumsBothSpec)) fnSumsBothUptoCard

/-- THE SECOND FORM's CARD OF 'laws.FnProductsBoth'. -/
def fnProductsBothUptoCard : Claim7 := { stood := { row := fnProductsBothUptoRow, standIns := [], harness := (true, "3c2d44f206cd04d9a88ac05cff8a686cd14775630b7f347db702f2eca7adfa25"), looks := true }, kinds := [], alts := [], laidByText := true, laidKinds := [.data, .data, .data, .sentinel, .sentinel, .sentinel, .sentinel, .sentinel, .data, .data, .data, .data, .data, .sentinel, .sentinel], laidTests := true, laidLooks := .later }
def FnProductsBothUptoCardSaid : Prop := Claim7.holds Tryz.pinned (.plain (OpenSpec.upto fnProductsBothSpec)) fnProductsBothUptoCard
end Rows
end Go.Proofs.YtdbjdpooggaonaaGreatDoor
