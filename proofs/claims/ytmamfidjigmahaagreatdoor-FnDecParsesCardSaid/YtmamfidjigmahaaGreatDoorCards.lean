/-
  DERIVED. GIVEN WITH THE SEED: THE CARDS: each row of YtmamfidjigmahaaGreatDoorRows.lean that lists a variable, with what it lists TIED to the program's text (the seventh form; the later family's looks); each row that meets fmt, with fmt's text TOLD by the authors' own Lean function (tested against real Go, not proved from fmt's source: count such statements apart). THE CARD IS WHAT COUNTS. Prove the row's statement (the work); the ties are given (YtmamfidjigmahaaGreatDoorTie.lean); close each card by the builder's one call (the guide's Derived/Test/ToyasCard.lean, 'card_holds'). Laid BY PROGRAM, IN A SANDBOX (cutbox-door.mjs). By AI agents, Wed Nov 11 2026. No macro, syntax, notation, axiom, sorry.
-/
import Derived.Test.YtmamfidjigmahaaGreatDoorRows
import GoSem.ClaimSeven
namespace Go.Proofs.YtmamfidjigmahaaGreatDoor
namespace Rows

/-- THE TIED CARD OF 'laws.FnDecBack'. -/
def fnDecBackCard : Claim7 := { stood := { row := fnDecBackRow, standIns := [], harness := (true, "a224ca660b47f94bdad78f92646b31588aad721d0d26e321385bbe510c69e8f8"), looks := true }, kinds := [], alts := [], laidByText := true, laidKinds := [.data, .data, .sentinel, .sentinel, .sentinel, .data, .data, .data, .data, .data, .sentinel, .sentinel, .sentinel], laidTests := true, laidLooks := .later }
def FnDecBackCardSaid : Prop := Claim7.holds Tryz.pinned (.plain (OpenSpec.ofChange fnDecBackSpec)) fnDecBackCard

/-- THE TIED CARD OF 'laws.FnDecParses'. -/
def fnDecParsesCard : Claim7 := { stood := { row := fnDecParsesRow, standIns := [], harness := (true, "a224ca660b47f94bdad78f92646b31588aad721d0d26e321385bbe510c69e8f8"), looks := true }, kinds := [], alts := [], laidByText := true, laidKinds := [.data, .data, .sentinel, .sentinel, .sentinel, .data, .data, .data, .data, .data, .sentinel, .sentinel, .sentinel], laidTests := true, laidLooks := .later }
def FnDecParsesCardSaid : Prop := Claim7.holds Tryz.pinned (.plain (OpenSpec.ofChange fnDecParsesSpec)) fnDecParsesCard

/-- THE TIED CARD OF 'laws.FnDecSums'. -/
def fnDecSumsCard : Claim7 := { stood := { row := fnDecSumsRow, standIns := [], harness := (true, "a224ca660b47f94bdad78f92646b31588aad721d0d26e321385bbe510c69e8f8"), looks := true }, kinds := [], alts := [], laidByText := true, laidKinds := [.data, .data, .sentinel, .sentinel, .sentinel, .data, .data, .data, .data, .data, .sentinel, .sentinel, .sentinel], laidTests := true, laidLooks := .later }
def FnDecSumsCardSaid : Prop := Claim7.holds Tryz.pinned (.plain (OpenSpec.ofChange fnDecSumsSpec)) fnDecSumsCard

/-- THE TIED CARD OF 'laws.FnDecTells'. -/
def fnDecTellsCard : Claim7 := { stood := { row := fnDecTellsRow, standIns := [], harness := (true, "a224ca660b47f94bdad78f92646b31588aad721d0d26e321385bbe510c69e8f8"), looks := true }, kinds := [], alts := [], laidByText := true, laidKinds := [.data, .data, .sentinel, .sentinel, .sentinel, .data, .data, .data, .data, .data, .sentinel, .sentinel, .sentinel], laidTests := true, laidLooks := .later }
def FnDecTellsCardSaid : Prop := Claim7.holds Tryz.pinned (.plain (OpenSpec.ofChange fnDecTellsSpec)) fnDecTellsCard

/-- THE SECOND FORM's CARD OF 'laws.FnDecBack'. -/
def fnDecBackUptoCard : Claim7 := { stood := { row := fnDecBackUptoRow, standIns := [], harness := (true, "a224ca660b47f94bdad78f92646b31588aad721d0d26e321385bbe510c69e8f8"), looks := true }, kinds := [], alts := [], laidByText := true, laidKinds := [.data, .data, .sentinel, .sentinel, .sentinel, .data, .data, .data, .data, .data, .sentinel, .sentinel, .sentinel], laidTests := true, laidLooks := .later }
def FnDecBackUptoCardSaid : Prop := Claim7.holds Tryz.pinned (.plain (OpenSpec.upto fnDecBackSpec)) fnDecBackUptoCard

/-- THE SECOND FORM's CARD OF 'laws.FnDecParses'. -/
def fnDecParsesUptoCard : Claim7 := { stood := { row := fnDecParsesUptoRow, standIns := [], harness := (true, "a224ca660b47f94bdad78f92646b31588aad721d0d26e321385bbe510c69e8f8"), looks := true }, kinds := [], alts := [], laidByText := true, laidKinds := [.data, .data, .sentinel, .sentinel, .sentinel, .data, .data, .data, .data, .data, .sentinel, .sentinel, .sentinel], laidTests := true, laidLooks := .later }
def FnDecParsesUptoCardSaid : Prop := Claim7.holds Tryz.pinned (.plain (OpenSpec.upto fnDecParsesSpec)) fnDecParsesUptoCard

/-- THE SECOND FORM's CARD OF 'laws.FnDecSums'. -/
def fnDecSumsUptoCard : Claim7 := { stood := { row := fnDecSumsUptoRow, standIns := [], harness := (true, "a224ca660b47f94bdad78f92646b31588aad721d0d26e321385bbe510c69e8f8"), looks := true }, kinds := [], alts := [], laidByText := true, laidKinds := [.data, .data, .sentinel, .sentinel, .sentinel, .data, .data, .data, .data, .data, .sentinel, .sentinel, .sentinel], laidTests := true, laidLooks := .later }
def FnDecSumsUptoCardSaid : Prop := Claim7.holds Tryz.pinned (.plain (OpenSpec.upto fnDecSumsSpec)) fnDecSumsUptoCard

/-- THE SECOND FORM's CARD OF 'laws.FnDecTells'. -/
def fnDecTellsUptoCard : Claim7 := { stood := { row := fnDecTellsUptoRow, standIns := [], harness := (true, "a224ca660b47f94bdad78f92646b31588aad721d0d26e321385bbe510c69e8f8"), looks := true }, kinds := [], alts := [], laidByText := true, laidKinds := [.data, .data, .sentinel, .sentinel, .sentinel, .data, .data, .data, .data, .data, .sentinel, .sentinel, .sentinel], laidTests := true, laidLooks := .later }
def FnDecTellsUptoCardSaid : Prop := Claim7.holds Tryz.pinned (.plain (OpenSpec.upto fnDecTellsSpec)) fnDecTellsUptoCard
end Rows
end Go.Proofs.YtmamfidjigmahaaGreatDoor
