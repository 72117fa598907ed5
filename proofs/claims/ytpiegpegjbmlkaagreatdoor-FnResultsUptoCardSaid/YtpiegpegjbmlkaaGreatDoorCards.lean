/-
  DERIVED. GIVEN WITH THE SEED: THE CARDS: each row of YtpiegpegjbmlkaaGreatDoorRows.lean that lists a variable, with what it lists TIED to the program's text (the seventh form; the later family's looks); each row that meets fmt, with fmt's text TOLD by the authors' own Lean function (tested against real Go, not proved from fmt's source: count such statements apart). THE CARD IS WHAT COUNTS. Prove the row's statement (the work); the ties are given (YtpiegpegjbmlkaaGreatDoorTie.lean); close each card by the builder's one call (the guide's Derived/Test/ToyasCard.lean, 'card_holds'). Laid BY PROGRAM, IN A SANDBOX (cutbox-door.mjs). By AI agents, Wed Nov 11 2026. No macro, syntax, notation, axiom, sorry.
-/
import Derived.Test.YtpiegpegjbmlkaaGreatDoorRows
import GoSem.ClaimSeven
namespace Go.Proofs.YtpiegpegjbmlkaaGreatDoor
namespace Rows

/-- THE TIED CARD OF 'laws.FnAlignParts'. -/
def fnAlignPartsCard : Claim7 := { stood := { row := fnAlignPartsRow, standIns := [], harness := (true, "88d7fe009a17453da4c4c58bb99e33704169aa715f9b850b8fc402edafe9b702"), looks := true }, kinds := [], alts := [], laidByText := true, laidKinds := [.data, .data, .data, .data, .data, .pinned, .pinned, .pinned], laidTests := true, laidLooks := .later }
def FnAlignPartsCardSaid : Prop := Claim7.holds Tryz.pinned (.plain (OpenSpec.ofChange fnAlignPartsSpec)) fnAlignPartsCard

/-- THE TIED CARD OF 'laws.FnAlignof'. -/
def fnAlignofCard : Claim7 := { stood := { row := fnAlignofRow, standIns := [], harness := (true, "88d7fe009a17453da4c4c58bb99e33704169aa715f9b850b8fc402edafe9b702"), looks := true }, kinds := [], alts := [], laidByText := true, laidKinds := [.data, .data, .data, .data, .data, .pinned, .pinned, .pinned], laidTests := true, laidLooks := .later }
def FnAlignofCardSaid : Prop := Claim7.holds Tryz.pinned (.plain (OpenSpec.ofChange fnAlignofSpec)) fnAlignofCard

/-- THE TIED CARD OF 'laws.FnAlignofAny'. -/
def fnAlignofAnyCard : Claim7 := { stood := { row := fnAlignofAnyRow, standIns := [], harness := (true, "88d7fe009a17453da4c4c58bb99e33704169aa715f9b850b8fc402edafe9b702"), looks := true }, kinds := [], alts := [], laidByText := true, laidKinds := [.data, .data, .data, .data, .data, .pinned, .pinned, .pinned], laidTests := true, laidLooks := .later }
def FnAlignofAnyCardSaid : Prop := Claim7.holds Tryz.pinned (.plain (OpenSpec.ofChange fnAlignofAnySpec)) fnAlignofAnyCard

/-- THE TIED CARD OF 'laws.FnArrayStruct'. -/
def fnArrayStructCard : Claim7 := { stood := { row := fnArrayStructRow, standIns := [], harness := (true, "88d7fe009a17453da4c4c58bb99e33704169aa715f9b850b8fc402edafe9b702"), looks := true }, kinds := [], alts := [], laidByText := true, laidKinds := [.data, .data, .data, .data, .data, .pinned, .pinned, .pinned], laidTests := true, laidLooks := .later }
def FnArrayStructCardSaid : Prop := Claim7.holds Tryz.pinned (.plain (OpenSpec.ofChange fnArrayStructSpec)) fnArrayStructCard

/-- THE TIED CARD OF 'laws.FnSizeof'. -/
def fnSizeofCard : Claim7 := { stood := { row := fnSizeofRow, standIns := [], harness := (true, "88d7fe009a17453da4c4c58bb99e33704169aa715f9b850b8fc402edafe9b702"), looks := true }, kinds := [], alts := [], laidByText := true, laidKinds := [.data, .data, .data, .data, .data, .pinned, .pinned, .pinned], laidTests := true, laidLooks := .later }
def FnSizeofCardSaid : Prop := Claim7.holds Tryz.pinned (.plain (OpenSpec.ofChange fnSizeofSpec)) fnSizeofCard

/-- THE TIED CARD OF 'laws.FnSizeofAny'. -/
def fnSizeofAnyCard : Claim7 := { stood := { row := fnSizeofAnyRow, standIns := [], harness := (true, "88d7fe009a17453da4c4c58bb99e33704169aa715f9b850b8fc402edafe9b702"), looks := true }, kinds := [], alts := [], laidByText := true, laidKinds := [.data, .data, .data, .data, .data, .pinned, .pinned, .pinned], laidTests := true, laidLooks := .later }
def FnSizeofAnyCardSaid : Prop := Claim7.holds Tryz.pinned (.plain (OpenSpec.ofChange fnSizeofAnySpec)) fnSizeofAnyCard

/-- THE TIED CARD OF 'laws.FnSizesGuaranteed'. -/
def fnSizesGuaranteedCard : Claim7 := { stood := { row := fnSizesGuaranteedRow, standIns := [], harness := (true, "88d7fe009a17453da4c4c58bb99e33704169aa715f9b850b8fc402edafe9b702"), looks := true }, kinds := [], alts := [], laidByText := true, laidKinds := [.data, .data, .data, .data, .data, .pinned, .pinned, .pinned], laidTests := true, laidLooks := .later }
def FnSizesGuaranteedCardSaid : Prop := Claim7.holds Tryz.pinned (.plain (OpenSpec.ofChange fnSizesGuaranteedSpec)) fnSizesGuaranteedCard

/-- THE TIED CARD OF 'laws.FnSizesDefined'. -/
def fnSizesDefinedCard : Claim7 := { stood := { row := fnSizesDefinedRow, standIns := [], harness := (true, "88d7fe009a17453da4c4c58bb99e33704169aa715f9b850b8fc402edafe9b702"), looks := true }, kinds := [], alts := [], laidByText := true, laidKinds := [.data, .data, .data, .data, .data, .pinned, .pinned, .pinned], laidTests := true, laidLooks := .later }
def FnSizesDefinedCardSaid : Prop := Claim7.holds Tryz.pinned (.plain (OpenSpec.ofChange fnSizesDefinedSpec)) fnSizesDefinedCard

/-- THE TIED CARD OF 'laws.FnOffsetsof'. -/
def fnOffsetsofCard : Claim7 := { stood := { row := fnOffsetsofRow, standIns := [], harness := (true, "88d7fe009a17453da4c4c58bb99e33704169aa715f9b850b8fc402edafe9b702"), looks := true }, kinds := [], alts := [], laidByText := true, laidKinds := [.data, .data, .data, .data, .data, .pinned, .pinned, .pinned], laidTests := true, laidLooks := .later }
def FnOffsetsofCardSaid : Prop := Claim7.holds Tryz.pinned (.plain (OpenSpec.ofChange fnOffsetsofSpec)) fnOffsetsofCard

/-- THE TIED CARD OF 'laws.FnOffsetsApart'. -/
def fnOffsetsApartCard : Claim7 := { stood := { row := fnOffsetsApartRow, standIns := [], harness := (true, "88d7fe009a17453da4c4c58bb99e33704169aa715f9b850b8fc402edafe9b702"), looks := true }, kinds := [], alts := [], laidByText := true, laidKinds := [.data, .data, .data, .data, .data, .pinned, .pinned, .pinned], laidTests := true, laidLooks := .later }
def FnOffsetsApartCardSaid : Prop := Claim7.holds Tryz.pinned (.plain (OpenSpec.ofChange fnOffsetsApartSpec)) fnOffsetsApartCard

/-- THE TIED CARD OF 'laws.FnFields'. -/
def fnFieldsCard : Claim7 := { stood := { row := fnFieldsRow, standIns := [], harness := (true, "88d7fe009a17453da4c4c58bb99e33704169aa715f9b850b8fc402edafe9b702"), looks := true }, kinds := [], alts := [], laidByText := true, laidKinds := [.data, .data, .data, .data, .pinned, .pinned, .pinned], laidTests := true, laidLooks := .later }
def FnFieldsCardSaid : Prop := Claim7.holds Tryz.pinned (.plain (OpenSpec.ofChange fnFieldsSpec)) fnFieldsCard

/-- THE TIED CARD OF 'laws.FnResults'. -/
def fnResultsCard : Claim7 := { stood := { row := fnResultsRow, standIns := [], harness := (true, "88d7fe009a17453da4c4c58bb99e33704169aa715f9b850b8fc402edafe9b702"), looks := true }, kinds := [], alts := [], laidByText := true, laidKinds := [.data, .data, .data, .data, .pinned, .pinned, .pinned], laidTests := true, laidLooks := .later }
def FnResultsCardSaid : Prop := Claim7.holds Tryz.pinned (.plain (OpenSpec.ofChange fnResultsSpec)) fnResultsCard

/-- THE SECOND FORM's CARD OF 'laws.FnAlignParts'. -/
def fnAlignPartsUptoCard : Claim7 := { stood := { row := fnAlignPartsUptoRow, standIns := [], harness := (true, "88d7fe009a17453da4c4c58bb99e33704169aa715f9b850b8fc402edafe9b702"), looks := true }, kinds := [], alts := [], laidByText := true, laidKinds := [.data, .data, .data, .data, .data, .pinned, .pinned, .pinned], laidTests := true, laidLooks := .later }
def FnAlignPartsUptoCardSaid : Prop := Claim7.holds Tryz.pinned (.plain (OpenSpec.upto fnAlignPartsSpec)) fnAlignPartsUptoCard

/-- THE SECOND FORM's CARD OF 'laws.FnAlignof'. -/
def fnAlignofUptoCard : Claim7 := { stood := { row := fnAlignofUptoRow, standIns := [], harness := (true, "88d7fe009a17453da4c4c58bb99e33704169aa715f9b850b8fc402edafe9b702"), looks := true }, kinds := [], alts := [], laidByText := true, laidKinds := [.data, .data, .data, .data, .data, .pinned, .pinned, .pinned], laidTests := true, laidLooks := .later }
def FnAlignofUptoCardSaid : Prop := Claim7.holds Tryz.pinned (.plain (OpenSpec.upto fnAlignofSpec)) fnAlignofUptoCard

/-- THE SECOND FORM's CARD OF 'laws.FnAlignofAny'. -/
def fnAlignofAnyUptoCard : Claim7 := { stood := { row := fnAlignofAnyUptoRow, standIns := [], harness := (true, "88d7fe009a17453da4c4c58bb99e33704169aa715f9b850b8fc402edafe9b702"), looks := true }, kinds := [], alts := [], laidByText := true, laidKinds := [.data, .data, .data, .data, .data, .pinned, .pinned, .pinned], laidTests := true, laidLooks := .later }
def FnAlignofAnyUptoCardSaid : Prop := Claim7.holds Tryz.pinned (.plain (OpenSpec.upto fnAlignofAnySpec)) fnAlignofAnyUptoCard

/-- THE SECOND FORM's CARD OF 'laws.FnArrayStruct'. -/
def fnArrayStructUptoCard : Claim7 := { stood := { row := fnArrayStructUptoRow, standIns := [], harness := (true, "88d7fe009a17453da4c4c58bb99e33704169aa715f9b850b8fc402edafe9b702"), looks := true }, kinds := [], alts := [], laidByText := true, laidKinds := [.data, .data, .data, .data, .data, .pinned, .pinned, .pinned], laidTests := true, laidLooks := .later }
def FnArrayStructUptoCardSaid : Prop := Claim7.holds Tryz.pinned (.plain (OpenSpec.upto fnArrayStructSpec)) fnArrayStructUptoCard

/-- THE SECOND FORM's CARD OF 'laws.FnSizeof'. -/
def fnSizeofUptoCard : Claim7 := { stood := { row := fnSizeofUptoRow, standIns := [], harness := (true, "88d7fe009a17453da4c4c58bb99e33704169aa715f9b850b8fc402edafe9b702"), looks := true }, kinds := [], alts := [], laidByText := true, laidKinds := [.data, .data, .data, .data, .data, .pinned, .pinned, .pinned], laidTests := true, laidLooks := .later }
def FnSizeofUptoCardSaid : Prop := Claim7.holds Tryz.pinned (.plain (OpenSpec.upto fnSizeofSpec)) fnSizeofUptoCard

/-- THE SECOND FORM's CARD OF 'laws.FnSizeofAny'. -/
def fnSizeofAnyUptoCard : Claim7 := { stood := { row := fnSizeofAnyUptoRow, standIns := [], harness := (true, "88d7fe009a17453da4c4c58bb99e33704169aa715f9b850b8fc402edafe9b702"), looks := true }, kinds := [], alts := [], laidByText := true, laidKinds := [.data, .data, .data, .data, .data, .pinned, .pinned, .pinned], laidTests := true, laidLooks := .later }
def FnSizeofAnyUptoCardSaid : Prop := Claim7.holds Tryz.pinned (.plain (OpenSpec.upto fnSizeofAnySpec)) fnSizeofAnyUptoCard

/-- THE SECOND FORM's CARD OF 'laws.FnSizesGuaranteed'. -/
def fnSizesGuaranteedUptoCard : Claim7 := { stood := { row := fnSizesGuaranteedUptoRow, standIns := [], harness := (true, "88d7fe009a17453da4c4c58bb99e33704169aa715f9b850b8fc402edafe9b702"), looks := true }, kinds := [], alts := [], laidByText := true, laidKinds := [.data, .data, .data, .data, .data, .pinned, .pinned, .pinned], laidTests := true, laidLooks := .later }
def FnSizesGuaranteedUptoCardSaid : Prop := Claim7.holds Tryz.pinned (.plain (OpenSpec.upto fnSizesGuaranteedSpec)) fnSizesGuaranteedUptoCard

/-- THE SECOND FORM's CARD OF 'laws.FnSizesDefined'. -/
def fnSizesDefinedUptoCard : Claim7 := { stood := { row := fnSizesDefinedUptoRow, standIns := [], harness := (true, "88d7fe009a17453da4c4c58bb99e33704169aa715f9b850b8fc402edafe9b702"), looks := true }, kinds := [], alts := [], laidByText := true, laidKinds := [.data, .data, .data, .data, .data, .pinned, .pinned, .pinned], laidTests := true, laidLooks := .later }
def FnSizesDefinedUptoCardSaid : Prop := Claim7.holds Tryz.pinned (.plain (OpenSpec.upto fnSizesDefinedSpec)) fnSizesDefinedUptoCard

/-- THE SECOND FORM's CARD OF 'laws.FnOffsetsof'. -/
def fnOffsetsofUptoCard : Claim7 := { stood := { row := fnOffsetsofUptoRow, standIns := [], harness := (true, "88d7fe009a17453da4c4c58bb99e33704169aa715f9b850b8fc402edafe9b702"), looks := true }, kinds := [], alts := [], laidByText := true, laidKinds := [.data, .data, .data, .data, .data, .pinned, .pinned, .pinned], laidTests := true, laidLooks := .later }
def FnOffsetsofUptoCardSaid : Prop := Claim7.holds Tryz.pinned (.plain (OpenSpec.upto fnOffsetsofSpec)) fnOffsetsofUptoCard

/-- THE SECOND FORM's CARD OF 'laws.FnOffsetsApart'. -/
def fnOffsetsApartUptoCard : Claim7 := { stood := { row := fnOffsetsApartUptoRow, standIns := [], harness := (true, "88d7fe009a17453da4c4c58bb99e33704169aa715f9b850b8fc402edafe9b702"), looks := true }, kinds := [], alts := [], laidByText := true, laidKinds := [.data, .data, .data, .data, .data, .pinned, .pinned, .pinned], laidTests := true, laidLooks := .later }
def FnOffsetsApartUptoCardSaid : Prop := Claim7.holds Tryz.pinned (.plain (OpenSpec.upto fnOffsetsApartSpec)) fnOffsetsApartUptoCard

/-- THE SECOND FORM's CARD OF 'laws.FnFields'. -/
def fnFieldsUptoCard : Claim7 := { stood := { row := fnFieldsUptoRow, standIns := [], harness := (true, "88d7fe009a17453da4c4c58bb99e33704169aa715f9b850b8fc402edafe9b702"), looks := true }, kinds := [], alts := [], laidByText := true, laidKinds := [.data, .data, .data, .data, .pinned, .pinned, .pinned], laidTests := true, laidLooks := .later }
def FnFieldsUptoCardSaid : Prop := Claim7.holds Tryz.pinned (.plain (OpenSpec.upto fnFieldsSpec)) fnFieldsUptoCard

/-- THE SECOND FORM's CARD OF 'laws.FnResults'. -/
def fnResultsUptoCard : Claim7 := { stood := { row := fnResultsUptoRow, standIns := [], harness := (true, "88d7fe009a17453da4c4c58bb99e33704169aa715f9b850b8fc402edafe9b702"), looks := true }, kinds := [], alts := [], laidByText := true, laidKinds := [.data, .data, .data, .data, .pinned, .pinned, .pinned], laidTests := true, laidLooks := .later }
def FnResultsUptoCardSaid : Prop := Claim7.holds Tryz.pinned (.plain (OpenSpec.upto fnResultsSpec)) fnResultsUptoCard
end Rows
end Go.Proofs.YtpiegpegjbmlkaaGreatDoor
