/-
  DERIVED. GIVEN WITH THE SEED: THE CARDS: each row of YtlemfkbhcleopaaGreatDoorRows.lean that lists a variable, with what it lists TIED to the program's text (the seventh form; the later family's looks); each row that meets fmt, with fmt's text TOLD by the authors' own Lean function (tested against real Go, not proved from fmt's source: count such statements apart). THE CARD IS WHAT COUNTS. Prove the row's statement (the work); the ties are given (YtlemfkbhcleopaaGreatDoorTie.lean); close each card by the builder's one call (the guide's Derived/Test/ToyasCard.lean, 'card_holds'). Laid BY PROGRAM, IN A SANDBOX (cutbox-door.mjs). By AI agents, Wed Nov 11 2026. No macro, syntax, notation, axiom, sorry.
-/
import Derived.Test.YtlemfkbhcleopaaGreatDoorRows
import GoSem.ClaimSeven
namespace Go.Proofs.YtlemfkbhcleopaaGreatDoor
namespace Rows

/-- THE TIED CARD OF 'laws.FnIdenticalIgnoreTags'. -/
def fnIdenticalIgnoreTagsCard : Claim7 := { stood := { row := fnIdenticalIgnoreTagsRow, standIns := [], harness := (true, "6b537319c700802cf541da9d4b424fcdf21974af871e0f52589223a0c557158a"), looks := true }, kinds := [], alts := [], laidByText := true, laidKinds := [.data, .data, .data, .data, .pinned, .pinned, .pinned], laidTests := true, laidLooks := .later }
def FnIdenticalIgnoreTagsCardSaid : Prop := Claim7.holds Tryz.pinned (.plain (OpenSpec.ofChange fnIdenticalIgnoreTagsSpec)) fnIdenticalIgnoreTagsCard

/-- THE TIED CARD OF 'laws.FnSymmetric'. -/
def fnSymmetricCard : Claim7 := { stood := { row := fnSymmetricRow, standIns := [], harness := (true, "6b537319c700802cf541da9d4b424fcdf21974af871e0f52589223a0c557158a"), looks := true }, kinds := [], alts := [], laidByText := true, laidKinds := [.data, .data, .data, .data, .pinned, .pinned, .pinned], laidTests := true, laidLooks := .later }
def FnSymmetricCardSaid : Prop := Claim7.holds Tryz.pinned (.plain (OpenSpec.ofChange fnSymmetricSpec)) fnSymmetricCard

/-- THE TIED CARD OF 'laws.FnTagsIgnored'. -/
def fnTagsIgnoredCard : Claim7 := { stood := { row := fnTagsIgnoredRow, standIns := [], harness := (true, "6b537319c700802cf541da9d4b424fcdf21974af871e0f52589223a0c557158a"), looks := true }, kinds := [], alts := [], laidByText := true, laidKinds := [.data, .data, .data, .data, .pinned, .pinned, .pinned], laidTests := true, laidLooks := .later }
def FnTagsIgnoredCardSaid : Prop := Claim7.holds Tryz.pinned (.plain (OpenSpec.ofChange fnTagsIgnoredSpec)) fnTagsIgnoredCard

/-- THE TIED CARD OF 'laws.FnTransitive'. -/
def fnTransitiveCard : Claim7 := { stood := { row := fnTransitiveRow, standIns := [], harness := (true, "6b537319c700802cf541da9d4b424fcdf21974af871e0f52589223a0c557158a"), looks := true }, kinds := [], alts := [], laidByText := true, laidKinds := [.data, .data, .data, .data, .pinned, .pinned, .pinned], laidTests := true, laidLooks := .later }
def FnTransitiveCardSaid : Prop := Claim7.holds Tryz.pinned (.plain (OpenSpec.ofChange fnTransitiveSpec)) fnTransitiveCard

/-- THE TIED CARD OF 'laws.FnTagsRemoved'. -/
def fnTagsRemovedCard : Claim7 := { stood := { row := fnTagsRemovedRow, standIns := [], harness := (true, "6b537319c700802cf541da9d4b424fcdf21974af871e0f52589223a0c557158a"), looks := true }, kinds := [], alts := [], laidByText := true, laidKinds := [.data, .data, .data, .data, .pinned, .pinned, .pinned], laidTests := true, laidLooks := .later }
def FnTagsRemovedCardSaid : Prop := Claim7.holds Tryz.pinned (.plain (OpenSpec.ofChange fnTagsRemovedSpec)) fnTagsRemovedCard

/-- THE TIED CARD OF 'laws.FnFields'. -/
def fnFieldsCard : Claim7 := { stood := { row := fnFieldsRow, standIns := [], harness := (true, "6b537319c700802cf541da9d4b424fcdf21974af871e0f52589223a0c557158a"), looks := true }, kinds := [], alts := [], laidByText := true, laidKinds := [.data, .data, .data, .data, .pinned, .pinned, .pinned], laidTests := true, laidLooks := .later }
def FnFieldsCardSaid : Prop := Claim7.holds Tryz.pinned (.plain (OpenSpec.ofChange fnFieldsSpec)) fnFieldsCard

/-- THE TIED CARD OF 'laws.FnComparableParts'. -/
def fnComparablePartsCard : Claim7 := { stood := { row := fnComparablePartsRow, standIns := [], harness := (true, "6b537319c700802cf541da9d4b424fcdf21974af871e0f52589223a0c557158a"), looks := true }, kinds := [], alts := [], laidByText := true, laidKinds := [.data, .data, .data, .data, .pinned, .pinned, .pinned], laidTests := true, laidLooks := .later }
def FnComparablePartsCardSaid : Prop := Claim7.holds Tryz.pinned (.plain (OpenSpec.ofChange fnComparablePartsSpec)) fnComparablePartsCard

/-- THE TIED CARD OF 'laws.FnMethods'. -/
def fnMethodsCard : Claim7 := { stood := { row := fnMethodsRow, standIns := [], harness := (true, "6b537319c700802cf541da9d4b424fcdf21974af871e0f52589223a0c557158a"), looks := true }, kinds := [], alts := [], laidByText := true, laidKinds := [.data, .data, .data, .data, .pinned, .pinned, .pinned], laidTests := true, laidLooks := .later }
def FnMethodsCardSaid : Prop := Claim7.holds Tryz.pinned (.plain (OpenSpec.ofChange fnMethodsSpec)) fnMethodsCard

/-- THE SECOND FORM's CARD OF 'laws.FnIdenticalIgnoreTags'. -/
def fnIdenticalIgnoreTagsUptoCard : Claim7 := { stood := { row := fnIdenticalIgnoreTagsUptoRow, standIns := [], harness := (true, "6b537319c700802cf541da9d4b424fcdf21974af871e0f52589223a0c557158a"), looks := true }, kinds := [], alts := [], laidByText := true, laidKinds := [.data, .data, .data, .data, .pinned, .pinned, .pinned], laidTests := true, laidLooks := .later }
def FnIdenticalIgnoreTagsUptoCardSaid : Prop := Claim7.holds Tryz.pinned (.plain (OpenSpec.upto fnIdenticalIgnoreTagsSpec)) fnIdenticalIgnoreTagsUptoCard

/-- THE SECOND FORM's CARD OF 'laws.FnSymmetric'. -/
def fnSymmetricUptoCard : Claim7 := { stood := { row := fnSymmetricUptoRow, standIns := [], harness := (true, "6b537319c700802cf541da9d4b424fcdf21974af871e0f52589223a0c557158a"), looks := true }, kinds := [], alts := [], laidByText := true, laidKinds := [.data, .data, .data, .data, .pinned, .pinned, .pinned], laidTests := true, laidLooks := .later }
def FnSymmetricUptoCardSaid : Prop := Claim7.holds Tryz.pinned (.plain (OpenSpec.upto fnSymmetricSpec)) fnSymmetricUptoCard

/-- THE SECOND FORM's CARD OF 'laws.FnTagsIgnored'. -/
def fnTagsIgnoredUptoCard : Claim7 := { stood := { row := fnTagsIgnoredUptoRow, standIns := [], harness := (true, "6b537319c700802cf541da9d4b424fcdf21974af871e0f52589223a0c557158a"), looks := true }, kinds := [], alts := [], laidByText := true, laidKinds := [.data, .data, .data, .data, .pinned, .pinned, .pinned], laidTests := true, laidLooks := .later }
def FnTagsIgnoredUptoCardSaid : Prop := Claim7.holds Tryz.pinned (.plain (OpenSpec.upto fnTagsIgnoredSpec)) fnTagsIgnoredUptoCard

/-- THE SECOND FORM's CARD OF 'laws.FnTransitive'. -/
def fnTransitiveUptoCard : Claim7 := { stood := { row := fnTransitiveUptoRow, standIns := [], harness := (true, "6b537319c700802cf541da9d4b424fcdf21974af871e0f52589223a0c557158a"), looks := true }, kinds := [], alts := [], laidByText := true, laidKinds := [.data, .data, .data, .data, .pinned, .pinned, .pinned], laidTests := true, laidLooks := .later }
def FnTransitiveUptoCardSaid : Prop := Claim7.holds Tryz.pinned (.plain (OpenSpec.upto fnTransitiveSpec)) fnTransitiveUptoCard

/-- THE SECOND FORM's CARD OF 'laws.FnTagsRemoved'. -/
def fnTagsRemovedUptoCard : Claim7 := { stood := { row := fnTagsRemovedUptoRow, standIns := [], harness := (true, "6b537319c700802cf541da9d4b424fcdf21974af871e0f52589223a0c557158a"), looks := true }, kinds := [], alts := [], laidByText := true, laidKinds := [.data, .data, .data, .data, .pinned, .pinned, .pinned], laidTests := true, laidLooks := .later }
def FnTagsRemovedUptoCardSaid : Prop := Claim7.holds Tryz.pinned (.plain (OpenSpec.upto fnTagsRemovedSpec)) fnTagsRemovedUptoCard

/-- THE SECOND FORM's CARD OF 'laws.FnFields'. -/
def fnFieldsUptoCard : Claim7 := { stood := { row := fnFieldsUptoRow, standIns := [], harness := (true, "6b537319c700802cf541da9d4b424fcdf21974af871e0f52589223a0c557158a"), looks := true }, kinds := [], alts := [], laidByText := true, laidKinds := [.data, .data, .data, .data, .pinned, .pinned, .pinned], laidTests := true, laidLooks := .later }
def FnFieldsUptoCardSaid : Prop := Claim7.holds Tryz.pinned (.plain (OpenSpec.upto fnFieldsSpec)) fnFieldsUptoCard

/-- THE SECOND FORM's CARD OF 'laws.FnComparableParts'. -/
def fnComparablePartsUptoCard : Claim7 := { stood := { row := fnComparablePartsUptoRow, standIns := [], harness := (true, "6b537319c700802cf541da9d4b424fcdf21974af871e0f52589223a0c557158a"), looks := true }, kinds := [], alts := [], laidByText := true, laidKinds := [.data, .data, .data, .data, .pinned, .pinned, .pinned], laidTests := true, laidLooks := .later }
def FnComparablePartsUptoCardSaid : Prop := Claim7.holds Tryz.pinned (.plain (OpenSpec.upto fnComparablePartsSpec)) fnComparablePartsUptoCard

/-- THE SECOND FORM's CARD OF 'laws.FnMethods'. -/
def fnMethodsUptoCard : Claim7 := { stood := { row := fnMethodsUptoRow, standIns := [], harness := (true, "6b537319c700802cf541da9d4b424fcdf21974af871e0f52589223a0c557158a"), looks := true }, kinds := [], alts := [], laidByText := true, laidKinds := [.data, .data, .data, .data, .pinned, .pinned, .pinned], laidTests := true, laidLooks := .later }
def FnMethodsUptoCardSaid : Prop := Claim7.holds Tryz.pinned (.plain (OpenSpec.upto fnMethodsSpec)) fnMethodsUptoCard
end Rows
end Go.Proofs.YtlemfkbhcleopaaGreatDoor
