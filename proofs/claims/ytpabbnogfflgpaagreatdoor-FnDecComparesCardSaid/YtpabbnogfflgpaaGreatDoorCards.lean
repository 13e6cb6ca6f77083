/-
  DERIVED. GIVEN WITH THE SEED: THE CARDS: each row of YtpabbnogfflgpaaGreatDoorRows.lean that lists a variable, with what it lists TIED to the program's text (the seventh form; the later family's looks); each row that meets fmt, with fmt's text TOLD by the authors' own Lean function (tested against real Go, not proved from fmt's source: count such statements apart). THE CARD IS WHAT COUNTS. Prove the row's statement (the work); the ties are given (YtpabbnogfflgpaaGreatDoorTie.lean); close each card by the builder's one call (the guide's Derived/Test/ToyasCard.lean, 'card_holds'). Laid BY PROGRAM, IN A SANDBOX (cutbox-door.mjs). By AI agents, Wed Nov 11 2026. No macro, syntax, notation, axiom, sorry.
-/
import Derived.Test.YtpabbnogfflgpaaGreatDoorRows
import GoSem.ClaimSeven
namespace Go.Proofs.YtpabbnogfflgpaaGreatDoor
namespace Rows

/-- THE TIED CARD OF 'laws.FnDecMakes'. -/
def fnDecMakesCard : Claim7 := { stood := { row := fnDecMakesRow, standIns := [], harness := (true, "d3b7922b54807462f72fd0930d3ba105287a557609449aba60d927d6a3fe7478"), looks := true }, kinds := [], alts := [], laidByText := true, laidKinds := [.data, .data, .data, .sentinel, .sentinel, .sentinel, .sentinel, .sentinel, .data, .data, .data, .data, .data, .sentinel, .sentinel, .sentinel], laidTests := true, laidLooks := .later }
def FnDecMakesCardSaid : Prop := Claim7.holds Tryz.pinned (.plain (OpenSpec.ofChange fnDecMakesSpec)) fnDecMakesCard

/-- THE TIED CARD OF 'laws.FnDecCompares'. -/
def fnDecComparesCard : Claim7 := { stood := { row := fnDecComparesRow, standIns := [], harness := (true, "d3b7922b54807462f72fd0930d3ba105287a557609449aba60d927d6a3fe7478"), looks := true }, kinds := [], alts := [], laidByText := true, laidKinds := [.data, .data, .sentinel, .sentinel, .sentinel, .data, .data, .data, .data, .data, .sentinel, .sentinel, .sentinel], laidTests := true, laidLooks := .later }
def FnDecComparesCardSaid : Prop := Claim7.holds Tryz.pinned (.plain (OpenSpec.ofChange fnDecComparesSpec)) fnDecComparesCard

/-- THE TIED CARD OF 'laws.FnDecPower'. -/
def fnDecPowerCard : Claim7 := { stood := { row := fnDecPowerRow, standIns := [], harness := (true, "d3b7922b54807462f72fd0930d3ba105287a557609449aba60d927d6a3fe7478"), looks := true }, kinds := [], alts := [], laidByText := true, laidKinds := [.data, .data, .sentinel, .sentinel, .sentinel, .data, .data, .data, .data, .data, .sentinel, .sentinel, .sentinel], laidTests := true, laidLooks := .later }
def FnDecPowerCardSaid : Prop := Claim7.holds Tryz.pinned (.plain (OpenSpec.ofChange fnDecPowerSpec)) fnDecPowerCard

/-- THE TIED CARD OF 'laws.FnDecSorts'. -/
def fnDecSortsCard : Claim7 := { stood := { row := fnDecSortsRow, standIns := [], harness := (true, "d3b7922b54807462f72fd0930d3ba105287a557609449aba60d927d6a3fe7478"), looks := true }, kinds := [], alts := [], laidByText := true, laidKinds := [.data, .data, .sentinel, .sentinel, .sentinel, .data, .data, .data, .data, .data, .sentinel, .sentinel, .sentinel], laidTests := true, laidLooks := .later }
def FnDecSortsCardSaid : Prop := Claim7.holds Tryz.pinned (.plain (OpenSpec.ofChange fnDecSortsSpec)) fnDecSortsCard

/-- THE TIED CARD OF 'laws.FnDecOnes'. -/
def fnDecOnesCard : Claim7 := { stood := { row := fnDecOnesRow, standIns := [], harness := (true, "d3b7922b54807462f72fd0930d3ba105287a557609449aba60d927d6a3fe7478"), looks := true }, kinds := [], alts := [], laidByText := true, laidKinds := [.data, .data, .sentinel, .sentinel, .sentinel, .data, .data, .data, .data, .data, .sentinel, .sentinel, .sentinel], laidTests := true, laidLooks := .later }
def FnDecOnesCardSaid : Prop := Claim7.holds Tryz.pinned (.plain (OpenSpec.ofChange fnDecOnesSpec)) fnDecOnesCard

/-- THE SECOND FORM's CARD OF 'laws.FnDecMakes'. -/
def fnDecMakesUptoCard : Claim7 := { stood := { row := fnDecMakesUptoRow, standIns := [], harness := (true, "d3b7922b54807462f72fd0930d3ba105287a557609449aba60d927d6a3fe7478"), looks := true }, kinds := [], alts := [], laidByText := true, laidKinds := [.data, .data, .data, .sentinel, .sentinel, .sentinel, .sentinel, .sentinel, .data, .data, .data, .data, .data, .sentinel, .sentinel, .sentinel], laidTests := true, laidLooks := .later }
def FnDecMakesUptoCardSaid : Prop := Claim7.holds Tryz.pinned (.plain (OpenSpec.upto fnDecMakesSpec)) fnDecMakesUptoCard

/-- THE SECOND FORM's CARD OF 'laws.FnDecCompares'. -/
def fnDecComparesUptoCard : Claim7 := { stood := { row := fnDecComparesUptoRow, standIns := [], harness := (true, "d3b7922b54807462f72fd0930d3ba105287a557609449aba60d927d6a3fe7478"), looks := true }, kinds := [], alts := [], laidByText := true, laidKinds := [.data, .data, .sentinel, .sentinel, .sentinel, .data, .data, .data, .data, .data, .sentinel, .sentinel, .sentinel], laidTests := true, laidLooks := .later }
def FnDecComparesUptoCardSaid : Prop := Claim7.holds Tryz.pinned (.plain (OpenSpec.upto fnDecComparesSpec)) fnDecComparesUptoCard

/-- THE SECOND FORM's CARD OF 'laws.FnDecPower'. -/
def fnDecPowerUptoCard : Claim7 := { stood := { row := fnDecPowerUptoRow, standIns := [], harness := (true, "d3b7922b54807462f72fd0930d3ba105287a557609449aba60d927d6a3fe7478"), looks := true }, kinds := [], alts := [], laidByText := true, laidKinds := [.data, .data, .sentinel, .sentinel, .sentinel, .data, .data, .data, .data, .data, .sentinel, .sentinel, .sentinel], laidTests := true, laidLooks := .later }
def FnDecPowerUptoCardSaid : Prop := Claim7.holds Tryz.pinned (.plain (OpenSpec.upto fnDecPowerSpec)) fnDecPowerUptoCard

/-- THE SECOND FORM's CARD OF 'laws.FnDecSorts'. -/
def fnDecSortsUptoCard : Claim7 := { stood := { row := fnDecSortsUptoRow, standIns := [], harness := (true, "d3b7922b54807462f72fd0930d3ba105287a557609449aba60d927d6a3fe7478"), looks := true }, kinds := [], alts := [], laidByText := true, laidKinds := [.data, .data, .sentinel, .sentinel, .sentinel, .data, .data, .data, .data, .data, .sentinel, .sentinel, .sentinel], laidTests := true, laidLooks := .later }
def FnDecSortsUptoCardSaid : Prop := Claim7.holds Tryz.pinned (.plain (OpenSpec.upto fnDecSortsSpec)) fnDecSortsUptoCard

/-- THE SECOND FORM's CARD OF 'laws.FnDecOnes'. -/
def fnDecOnesUptoCard : Claim7 := { stood := { row := fnDecOnesUptoRow, standIns := [], harness := (true, "d3b7922b54807462f72fd0930d3ba105287a557609449aba60d927d6a3fe7478"), looks := true }, kinds := [], alts := [], laidByText := true, laidKinds := [.data, .data, .sentinel, .sentinel, .sentinel, .data, .data, .data, .data, .data, .sentinel, .sentinel, .sentinel], laidTests := true, laidLooks := .later }
def FnDecOnesUptoCardSaid : Prop := Claim7.holds Tryz.pinned (.plain (OpenSpec.upto fnDecOnesSpec)) fnDecOnesUptoCard
end Rows
end Go.Proofs.YtpabbnogfflgpaaGreatDoor
