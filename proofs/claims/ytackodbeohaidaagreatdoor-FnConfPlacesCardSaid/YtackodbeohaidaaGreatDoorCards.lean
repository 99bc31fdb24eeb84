/-
  DERIVED. GIVEN WITH THE SEED: THE CARDS: each row of YtackodbeohaidaaGreatDoorRows.lean that lists a variable, with what it lists TIED to the program's text (the seventh form; the later family's looks); each row that meets fmt, with fmt's text TOLD by the authors' own Lean function (tested against real Go, not proved from fmt's source: count such statements apart). THE CARD IS WHAT COUNTS. Prove the row's statement (the work); the ties are given (YtackodbeohaidaaGreatDoorTie.lean); close each card by the builder's one call (the guide's Derived/Test/ToyasCard.lean, 'card_holds'). Laid BY PROGRAM, IN A SANDBOX (cutbox-door.mjs). By AI agents, Wed Nov 11 2026. No macro, syntax, notation, axiom, sorry.
-/
import Derived.Test.YtackodbeohaidaaGreatDoorRows
import GoSem.ClaimSeven
namespace Go.Proofs.YtackodbeohaidaaGreatDoor
namespace Rows

/-- THE TIED CARD OF 'laws.FnConf'. -/
def fnConfCard : Claim7 := { stood := { row := fnConfRow, standIns := [], harness := (true, "4005e839d41c92ae1201b68a9b88c84a918f1d9d4629ddead6b740cd10087b13"), looks := true }, kinds := [], alts := [], laidByText := true, laidKinds := [.data, .listed, .data, .pinned, .pinned, .pinned], laidTests := true, laidLooks := .later }
def FnConfCardSaid : Prop := Claim7.holds Tryz.pinned (.plain (OpenSpec.ofChange fnConfSpec)) fnConfCard

/-- THE TIED CARD OF 'laws.FnConfBehind'. -/
def fnConfBehindCard : Claim7 := { stood := { row := fnConfBehindRow, standIns := [], harness := (true, "4005e839d41c92ae1201b68a9b88c84a918f1d9d4629ddead6b740cd10087b13"), looks := true }, kinds := [], alts := [], laidByText := true, laidKinds := [.data, .listed, .data, .pinned, .pinned, .pinned], laidTests := true, laidLooks := .later }
def FnConfBehindCardSaid : Prop := Claim7.holds Tryz.pinned (.plain (OpenSpec.ofChange fnConfBehindSpec)) fnConfBehindCard

/-- THE TIED CARD OF 'laws.FnConfSize'. -/
def fnConfSizeCard : Claim7 := { stood := { row := fnConfSizeRow, standIns := [], harness := (true, "4005e839d41c92ae1201b68a9b88c84a918f1d9d4629ddead6b740cd10087b13"), looks := true }, kinds := [], alts := [], laidByText := true, laidKinds := [.data, .listed, .data, .pinned, .pinned, .pinned], laidTests := true, laidLooks := .later }
def FnConfSizeCardSaid : Prop := Claim7.holds Tryz.pinned (.plain (OpenSpec.ofChange fnConfSizeSpec)) fnConfSizeCard

/-- THE TIED CARD OF 'laws.FnConfStyles'. -/
def fnConfStylesCard : Claim7 := { stood := { row := fnConfStylesRow, standIns := [], harness := (true, "4005e839d41c92ae1201b68a9b88c84a918f1d9d4629ddead6b740cd10087b13"), looks := true }, kinds := [], alts := [], laidByText := true, laidKinds := [.data, .listed, .data, .pinned, .pinned, .pinned], laidTests := true, laidLooks := .later }
def FnConfStylesCardSaid : Prop := Claim7.holds Tryz.pinned (.plain (OpenSpec.ofChange fnConfStylesSpec)) fnConfStylesCard

/-- THE TIED CARD OF 'laws.FnConfVariable'. -/
def fnConfVariableCard : Claim7 := { stood := { row := fnConfVariableRow, standIns := [], harness := (true, "4005e839d41c92ae1201b68a9b88c84a918f1d9d4629ddead6b740cd10087b13"), looks := true }, kinds := [], alts := [], laidByText := true, laidKinds := [.data, .listed, .data, .pinned, .pinned, .pinned], laidTests := true, laidLooks := .later }
def FnConfVariableCardSaid : Prop := Claim7.holds Tryz.pinned (.plain (OpenSpec.ofChange fnConfVariableSpec)) fnConfVariableCard

/-- THE TIED CARD OF 'laws.FnConfWithin'. -/
def fnConfWithinCard : Claim7 := { stood := { row := fnConfWithinRow, standIns := [], harness := (true, "4005e839d41c92ae1201b68a9b88c84a918f1d9d4629ddead6b740cd10087b13"), looks := true }, kinds := [], alts := [], laidByText := true, laidKinds := [.data, .listed, .data, .pinned, .pinned, .pinned], laidTests := true, laidLooks := .later }
def FnConfWithinCardSaid : Prop := Claim7.holds Tryz.pinned (.plain (OpenSpec.ofChange fnConfWithinSpec)) fnConfWithinCard

/-- THE TIED CARD OF 'laws.FnConfPlaces'. -/
def fnConfPlacesCard : Claim7 := { stood := { row := fnConfPlacesRow, standIns := [], harness := (true, "4005e839d41c92ae1201b68a9b88c84a918f1d9d4629ddead6b740cd10087b13"), looks := true }, kinds := [], alts := [], laidByText := true, laidKinds := [.data, .listed, .data, .pinned, .pinned, .pinned], laidTests := true, laidLooks := .later }
def FnConfPlacesCardSaid : Prop := Claim7.holds Tryz.pinned (.plain (OpenSpec.ofChange fnConfPlacesSpec)) fnConfPlacesCard

/-- THE TIED CARD OF 'laws.FnConfRefused'. -/
def fnConfRefusedCard : Claim7 := { stood := { row := fnConfRefusedRow, standIns := [], harness := (true, "4005e839d41c92ae1201b68a9b88c84a918f1d9d4629ddead6b740cd10087b13"), looks := true }, kinds := [], alts := [], laidByText := true, laidKinds := [.data, .listed, .data, .pinned, .pinned, .pinned], laidTests := true, laidLooks := .later }
def FnConfRefusedCardSaid : Prop := Claim7.holds Tryz.pinned (.plain (OpenSpec.ofChange fnConfRefusedSpec)) fnConfRefusedCard

/-- THE SECOND FORM's CARD OF 'laws.FnConf'. -/
def fnConfUptoCard : Claim7 := { stood := { row := fnConfUptoRow, standIns := [], harness := (true, "4005e839d41c92ae1201b68a9b88c84a918f1d9d4629ddead6b740cd10087b13"), looks := true }, kinds := [], alts := [], laidByText := true, laidKinds := [.data, .listed, .data, .pinned, .pinned, .pinned], laidTests := true, laidLooks := .later }
def FnConfUptoCardSaid : Prop := Claim7.holds Tryz.pinned (.plain (OpenSpec.upto fnConfSpec)) fnConfUptoCard

/-- THE SECOND FORM's CARD OF 'laws.FnConfBehind'. -/
def fnConfBehindUptoCard : Claim7 := { stood := { row := fnConfBehindUptoRow, standIns := [], harness := (true, "4005e839d41c92ae1201b68a9b88c84a918f1d9d4629ddead6b740cd10087b13"), looks := true }, kinds := [], alts := [], laidByText := true, laidKinds := [.data, .listed, .data, .pinned, .pinned, .pinned], laidTests := true, laidLooks := .later }
def FnConfBehindUptoCardSaid : Prop := Claim7.holds Tryz.pinned (.plain (OpenSpec.upto fnConfBehindSpec)) fnConfBehindUptoCard

/-- THE SECOND FORM's CARD OF 'laws.FnConfSize'. -/
def fnConfSizeUptoCard : Claim7 := { stood := { row := fnConfSizeUptoRow, standIns := [], harness := (true, "4005e839d41c92ae1201b68a9b88c84a918f1d9d4629ddead6b740cd10087b13"), looks := true }, kinds := [], alts := [], laidByText := true, laidKinds := [.data, .listed, .data, .pinned, .pinned, .pinned], laidTests := true, laidLooks := .later }
def FnConfSizeUptoCardSaid : Prop := Claim7.holds Tryz.pinned (.plain (OpenSpec.upto fnConfSizeSpec)) fnConfSizeUptoCard

/-- THE SECOND FORM's CARD OF 'laws.FnConfStyles'. -/
def fnConfStylesUptoCard : Claim7 := { stood := { row := fnConfStylesUptoRow, standIns := [], harness := (true, "4005e839d41c92ae1201b68a9b88c84a918f1d9d4629ddead6b740cd10087b13"), looks := true }, kinds := [], alts := [], laidByText := true, laidKinds := [.data, .listed, .data, .pinned, .pinned, .pinned], laidTests := true, laidLooks := .later }
def FnConfStylesUptoCardSaid : Prop := Claim7.holds Tryz.pinned (.plain (OpenSpec.upto fnConfStylesSpec)) fnConfStylesUptoCard

/-- THE SECOND FORM's CARD OF 'laws.FnConfVariable'. -/
def fnConfVariableUptoCard : Claim7 := { stood := { row := fnConfVariableUptoRow, standIns := [], harness := (true, "4005e839d41c92ae1201b68a9b88c84a918f1d9d4629ddead6b740cd10087b13"), looks := true }, kinds := [], alts := [], laidByText := true, laidKinds := [.data, .listed, .data, .pinned, .pinned, .pinned], laidTests := true, laidLooks := .later }
def FnConfVariableUptoCardSaid : Prop := Claim7.holds Tryz.pinned (.plain (OpenSpec.upto fnConfVariableSpec)) fnConfVariableUptoCard

/-- THE SECOND FORM's CARD OF 'laws.FnConfWithin'. -/
def fnConfWithinUptoCard : Claim7 := { stood := { row := fnConfWithinUptoRow, standIns := [], harness := (true, "4005e839d41c92ae1201b68a9b88c84a918f1d9d4629ddead6b740cd10087b13"), looks := true }, kinds := [], alts := [], laidByText := true, laidKinds := [.data, .listed, .data, .pinned, .pinned, .pinned], laidTests := true, laidLooks := .later }
def FnConfWithinUptoCardSaid : Prop := Claim7.holds Tryz.pinned (.plain (OpenSpec.upto fnConfWithinSpec)) fnConfWithinUptoCard

/-- THE SECOND FORM's CARD OF 'laws.FnConfPlaces'. -/
def fnConfPlacesUptoCard : Claim7 := { stood := { row := fnConfPlacesUptoRow, standIns := [], harness := (true, "4005e839d41c92ae1201b68a9b88c84a918f1d9d4629ddead6b740cd10087b13"), looks := true }, kinds := [], alts := [], laidByText := true, laidKinds := [.data, .listed, .data, .pinned, .pinned, .pinned], laidTests := true, laidLooks := .later }
def FnConfPlacesUptoCardSaid : Prop := Claim7.holds Tryz.pinned (.plain (OpenSpec.upto fnConfPlacesSpec)) fnConfPlacesUptoCard

/-- THE SECOND FORM's CARD OF 'laws.FnConfRefused'. -/
def fnConfRefusedUptoCard : Claim7 := { stood := { row := fnConfRefusedUptoRow, standIns := [], harness := (true, "4005e839d41c92ae1201b68a9b88c84a918f1d9d4629ddead6b740cd10087b13"), looks := true }, kinds := [], alts := [], laidByText := true, laidKinds := [.data, .listed, .data, .pinned, .pinned, .pinned], laidTests := true, laidLooks := .later }
def FnConfRefusedUptoCardSaid : Prop := Claim7.holds Tryz.pinned (.plain (OpenSpec.upto fnConfRefusedSpec)) fnConfRefusedUptoCard
end Rows
end Go.Proofs.YtackodbeohaidaaGreatDoor
