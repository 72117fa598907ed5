/-
  DERIVED. GIVEN WITH THE SEED: THE CARDS: each row of YtelmnkfdpnkpoaaGreatDoorRows.lean that lists a variable, with what it lists TIED to the program's text (the seventh form; the later family's looks); each row that meets fmt, with fmt's text TOLD by the authors' own Lean function (tested against real Go, not proved from fmt's source: count such statements apart). THE CARD IS WHAT COUNTS. Prove the row's statement (the work); the ties are given (YtelmnkfdpnkpoaaGreatDoorTie.lean); close each card by the builder's one call (the guide's Derived/Test/ToyasCard.lean, 'card_holds'). Laid BY PROGRAM, IN A SANDBOX (cutbox-door.mjs). By AI agents, Wed Nov 11 2026. No macro, syntax, notation, axiom, sorry.
-/
import Derived.Test.YtelmnkfdpnkpoaaGreatDoorRows
import GoSem.ClaimSeven
namespace Go.Proofs.YtelmnkfdpnkpoaaGreatDoor
namespace Rows

/-- THE TIED CARD OF 'laws.FnIsInterface'. -/
def fnIsInterfaceCard : Claim7 := { stood := { row := fnIsInterfaceRow, standIns := [], harness := (true, "4f4399fdfeeef566874d96f7cbe9c77bec7af6eb744ede0a2c12b05a4414357f"), looks := true }, kinds := [], alts := [], laidByText := true, laidKinds := [.data, .data, .data, .data, .pinned, .pinned, .pinned], laidTests := true, laidLooks := .later }
def FnIsInterfaceCardSaid : Prop := Claim7.holds Tryz.pinned (.plain (OpenSpec.ofChange fnIsInterfaceSpec)) fnIsInterfaceCard

/-- THE TIED CARD OF 'laws.FnComparable'. -/
def fnComparableCard : Claim7 := { stood := { row := fnComparableRow, standIns := [], harness := (true, "4f4399fdfeeef566874d96f7cbe9c77bec7af6eb744ede0a2c12b05a4414357f"), looks := true }, kinds := [], alts := [], laidByText := true, laidKinds := [.data, .data, .data, .data, .pinned, .pinned, .pinned], laidTests := true, laidLooks := .later }
def FnComparableCardSaid : Prop := Claim7.holds Tryz.pinned (.plain (OpenSpec.ofChange fnComparableSpec)) fnComparableCard

/-- THE TIED CARD OF 'laws.FnUnderlying'. -/
def fnUnderlyingCard : Claim7 := { stood := { row := fnUnderlyingRow, standIns := [], harness := (true, "4f4399fdfeeef566874d96f7cbe9c77bec7af6eb744ede0a2c12b05a4414357f"), looks := true }, kinds := [], alts := [], laidByText := true, laidKinds := [.data, .data, .data, .data, .pinned, .pinned, .pinned], laidTests := true, laidLooks := .later }
def FnUnderlyingCardSaid : Prop := Claim7.holds Tryz.pinned (.plain (OpenSpec.ofChange fnUnderlyingSpec)) fnUnderlyingCard

/-- THE TIED CARD OF 'laws.FnIdentical'. -/
def fnIdenticalCard : Claim7 := { stood := { row := fnIdenticalRow, standIns := [], harness := (true, "4f4399fdfeeef566874d96f7cbe9c77bec7af6eb744ede0a2c12b05a4414357f"), looks := true }, kinds := [], alts := [], laidByText := true, laidKinds := [.data, .data, .data, .data, .pinned, .pinned, .pinned], laidTests := true, laidLooks := .later }
def FnIdenticalCardSaid : Prop := Claim7.holds Tryz.pinned (.plain (OpenSpec.ofChange fnIdenticalSpec)) fnIdenticalCard

/-- THE TIED CARD OF 'laws.FnElements'. -/
def fnElementsCard : Claim7 := { stood := { row := fnElementsRow, standIns := [], harness := (true, "4f4399fdfeeef566874d96f7cbe9c77bec7af6eb744ede0a2c12b05a4414357f"), looks := true }, kinds := [], alts := [], laidByText := true, laidKinds := [.data, .data, .data, .data, .pinned, .pinned, .pinned], laidTests := true, laidLooks := .later }
def FnElementsCardSaid : Prop := Claim7.holds Tryz.pinned (.plain (OpenSpec.ofChange fnElementsSpec)) fnElementsCard

/-- THE TIED CARD OF 'laws.FnKeys'. -/
def fnKeysCard : Claim7 := { stood := { row := fnKeysRow, standIns := [], harness := (true, "4f4399fdfeeef566874d96f7cbe9c77bec7af6eb744ede0a2c12b05a4414357f"), looks := true }, kinds := [], alts := [], laidByText := true, laidKinds := [.data, .data, .data, .data, .pinned, .pinned, .pinned], laidTests := true, laidLooks := .later }
def FnKeysCardSaid : Prop := Claim7.holds Tryz.pinned (.plain (OpenSpec.ofChange fnKeysSpec)) fnKeysCard

/-- THE TIED CARD OF 'laws.FnLengths'. -/
def fnLengthsCard : Claim7 := { stood := { row := fnLengthsRow, standIns := [], harness := (true, "4f4399fdfeeef566874d96f7cbe9c77bec7af6eb744ede0a2c12b05a4414357f"), looks := true }, kinds := [], alts := [], laidByText := true, laidKinds := [.data, .data, .data, .data, .pinned, .pinned, .pinned], laidTests := true, laidLooks := .later }
def FnLengthsCardSaid : Prop := Claim7.holds Tryz.pinned (.plain (OpenSpec.ofChange fnLengthsSpec)) fnLengthsCard

/-- THE TIED CARD OF 'laws.FnAliasWithin'. -/
def fnAliasWithinCard : Claim7 := { stood := { row := fnAliasWithinRow, standIns := [], harness := (true, "4f4399fdfeeef566874d96f7cbe9c77bec7af6eb744ede0a2c12b05a4414357f"), looks := true }, kinds := [], alts := [], laidByText := true, laidKinds := [.data, .data, .data, .data, .pinned, .pinned, .pinned], laidTests := true, laidLooks := .later }
def FnAliasWithinCardSaid : Prop := Claim7.holds Tryz.pinned (.plain (OpenSpec.ofChange fnAliasWithinSpec)) fnAliasWithinCard

/-- THE TIED CARD OF 'laws.FnFunctions'. -/
def fnFunctionsCard : Claim7 := { stood := { row := fnFunctionsRow, standIns := [], harness := (true, "4f4399fdfeeef566874d96f7cbe9c77bec7af6eb744ede0a2c12b05a4414357f"), looks := true }, kinds := [], alts := [], laidByText := true, laidKinds := [.data, .data, .data, .data, .pinned, .pinned, .pinned], laidTests := true, laidLooks := .later }
def FnFunctionsCardSaid : Prop := Claim7.holds Tryz.pinned (.plain (OpenSpec.ofChange fnFunctionsSpec)) fnFunctionsCard

/-- THE TIED CARD OF 'laws.FnResults'. -/
def fnResultsCard : Claim7 := { stood := { row := fnResultsRow, standIns := [], harness := (true, "4f4399fdfeeef566874d96f7cbe9c77bec7af6eb744ede0a2c12b05a4414357f"), looks := true }, kinds := [], alts := [], laidByText := true, laidKinds := [.data, .data, .data, .data, .pinned, .pinned, .pinned], laidTests := true, laidLooks := .later }
def FnResultsCardSaid : Prop := Claim7.holds Tryz.pinned (.plain (OpenSpec.ofChange fnResultsSpec)) fnResultsCard

/-- THE TIED CARD OF 'laws.FnParameterNames'. -/
def fnParameterNamesCard : Claim7 := { stood := { row := fnParameterNamesRow, standIns := [], harness := (true, "4f4399fdfeeef566874d96f7cbe9c77bec7af6eb744ede0a2c12b05a4414357f"), looks := true }, kinds := [], alts := [], laidByText := true, laidKinds := [.data, .data, .data, .data, .pinned, .pinned, .pinned], laidTests := true, laidLooks := .later }
def FnParameterNamesCardSaid : Prop := Claim7.holds Tryz.pinned (.plain (OpenSpec.ofChange fnParameterNamesSpec)) fnParameterNamesCard

/-- THE TIED CARD OF 'laws.FnEmbeddedTwice'. -/
def fnEmbeddedTwiceCard : Claim7 := { stood := { row := fnEmbeddedTwiceRow, standIns := [], harness := (true, "4f4399fdfeeef566874d96f7cbe9c77bec7af6eb744ede0a2c12b05a4414357f"), looks := true }, kinds := [], alts := [], laidByText := true, laidKinds := [.data, .data, .data, .data, .pinned, .pinned, .pinned], laidTests := true, laidLooks := .later }
def FnEmbeddedTwiceCardSaid : Prop := Claim7.holds Tryz.pinned (.plain (OpenSpec.ofChange fnEmbeddedTwiceSpec)) fnEmbeddedTwiceCard

/-- THE SECOND FORM's CARD OF 'laws.FnIsInterface'. -/
def fnIsInterfaceUptoCard : Claim7 := { stood := { row := fnIsInterfaceUptoRow, standIns := [], harness := (true, "4f4399fdfeeef566874d96f7cbe9c77bec7af6eb744ede0a2c12b05a4414357f"), looks := true }, kinds := [], alts := [], laidByText := true, laidKinds := [.data, .data, .data, .data, .pinned, .pinned, .pinned], laidTests := true, laidLooks := .later }
def FnIsInterfaceUptoCardSaid : Prop := Claim7.holds Tryz.pinned (.plain (OpenSpec.upto fnIsInterfaceSpec)) fnIsInterfaceUptoCard

/-- THE SECOND FORM's CARD OF 'laws.FnComparable'. -/
def fnComparableUptoCard : Claim7 := { stood := { row := fnComparableUptoRow, standIns := [], harness := (true, "4f4399fdfeeef566874d96f7cbe9c77bec7af6eb744ede0a2c12b05a4414357f"), looks := true }, kinds := [], alts := [], laidByText := true, laidKinds := [.data, .data, .data, .data, .pinned, .pinned, .pinned], laidTests := true, laidLooks := .later }
def FnComparableUptoCardSaid : Prop := Claim7.holds Tryz.pinned (.plain (OpenSpec.upto fnComparableSpec)) fnComparableUptoCard

/-- THE SECOND FORM's CARD OF 'laws.FnUnderlying'. -/
def fnUnderlyingUptoCard : Claim7 := { stood := { row := fnUnderlyingUptoRow, standIns := [], harness := (true, "4f4399fdfeeef566874d96f7cbe9c77bec7af6eb744ede0a2c12b05a4414357f"), looks := true }, kinds := [], alts := [], laidByText := true, laidKinds := [.data, .data, .data, .data, .pinned, .pinned, .pinned], laidTests := true, laidLooks := .later }
def FnUnderlyingUptoCardSaid : Prop := Claim7.holds Tryz.pinned (.plain (OpenSpec.upto fnUnderlyingSpec)) fnUnderlyingUptoCard

/-- THE SECOND FORM's CARD OF 'laws.FnIdentical'. -/
def fnIdenticalUptoCard : Claim7 := { stood := { row := fnIdenticalUptoRow, standIns := [], harness := (true, "4f4399fdfeeef566874d96f7cbe9c77bec7af6eb744ede0a2c12b05a4414357f"), looks := true }, kinds := [], alts := [], laidByText := true, laidKinds := [.data, .data, .data, .data, .pinned, .pinned, .pinned], laidTests := true, laidLooks := .later }
def FnIdenticalUptoCardSaid : Prop := Claim7.holds Tryz.pinned (.plain (OpenSpec.upto fnIdenticalSpec)) fnIdenticalUptoCard

/-- THE SECOND FORM's CARD OF 'laws.FnElements'. -/
def fnElementsUptoCard : Claim7 := { stood := { row := fnElementsUptoRow, standIns := [], harness := (true, "4f4399fdfeeef566874d96f7cbe9c77bec7af6eb744ede0a2c12b05a4414357f"), looks := true }, kinds := [], alts := [], laidByText := true, laidKinds := [.data, .data, .data, .data, .pinned, .pinned, .pinned], laidTests := true, laidLooks := .later }
def FnElementsUptoCardSaid : Prop := Claim7.holds Tryz.pinned (.plain (OpenSpec.upto fnElementsSpec)) fnElementsUptoCard

/-- THE SECOND FORM's CARD OF 'laws.FnKeys'. -/
def fnKeysUptoCard : Claim7 := { stood := { row := fnKeysUptoRow, standIns := [], harness := (true, "4f4399fdfeeef566874d96f7cbe9c77bec7af6eb744ede0a2c12b05a4414357f"), looks := true }, kinds := [], alts := [], laidByText := true, laidKinds := [.data, .data, .data, .data, .pinned, .pinned, .pinned], laidTests := true, laidLooks := .later }
def FnKeysUptoCardSaid : Prop := Claim7.holds Tryz.pinned (.plain (OpenSpec.upto fnKeysSpec)) fnKeysUptoCard

/-- THE SECOND FORM's CARD OF 'laws.FnLengths'. -/
def fnLengthsUptoCard : Claim7 := { stood := { row := fnLengthsUptoRow, standIns := [], harness := (true, "4f4399fdfeeef566874d96f7cbe9c77bec7af6eb744ede0a2c12b05a4414357f"), looks := true }, kinds := [], alts := [], laidByText := true, laidKinds := [.data, .data, .data, .data, .pinned, .pinned, .pinned], laidTests := true, laidLooks := .later }
def FnLengthsUptoCardSaid : Prop := Claim7.holds Tryz.pinned (.plain (OpenSpec.upto fnLengthsSpec)) fnLengthsUptoCard

/-- THE SECOND FORM's CARD OF 'laws.FnAliasWithin'. -/
def fnAliasWithinUptoCard : Claim7 := { stood := { row := fnAliasWithinUptoRow, standIns := [], harness := (true, "4f4399fdfeeef566874d96f7cbe9c77bec7af6eb744ede0a2c12b05a4414357f"), looks := true }, kinds := [], alts := [], laidByText := true, laidKinds := [.data, .data, .data, .data, .pinned, .pinned, .pinned], laidTests := true, laidLooks := .later }
def FnAliasWithinUptoCardSaid : Prop := Claim7.holds Tryz.pinned (.plain (OpenSpec.upto fnAliasWithinSpec)) fnAliasWithinUptoCard

/-- THE SECOND FORM's CARD OF 'laws.FnFunctions'. -/
def fnFunctionsUptoCard : Claim7 := { stood := { row := fnFunctionsUptoRow, standIns := [], harness := (true, "4f4399fdfeeef566874d96f7cbe9c77bec7af6eb744ede0a2c12b05a4414357f"), looks := true }, kinds := [], alts := [], laidByText := true, laidKinds := [.data, .data, .data, .data, .pinned, .pinned, .pinned], laidTests := true, laidLooks := .later }
def FnFunctionsUptoCardSaid : Prop := Claim7.holds Tryz.pinned (.plain (OpenSpec.upto fnFunctionsSpec)) fnFunctionsUptoCard

/-- THE SECOND FORM's CARD OF 'laws.FnResults'. -/
def fnResultsUptoCard : Claim7 := { stood := { row := fnResultsUptoRow, standIns := [], harness := (true, "4f4399fdfeeef566874d96f7cbe9c77bec7af6eb744ede0a2c12b05a4414357f"), looks := true }, kinds := [], alts := [], laidByText := true, laidKinds := [.data, .data, .data, .data, .pinned, .pinned, .pinned], laidTests := true, laidLooks := .later }
def FnResultsUptoCardSaid : Prop := Claim7.holds Tryz.pinned (.plain (OpenSpec.upto fnResultsSpec)) fnResultsUptoCard

/-- THE SECOND FORM's CARD OF 'laws.FnParameterNames'. -/
def fnParameterNamesUptoCard : Claim7 := { stood := { row := fnParameterNamesUptoRow, standIns := [], harness := (true, "4f4399fdfeeef566874d96f7cbe9c77bec7af6eb744ede0a2c12b05a4414357f"), looks := true }, kinds := [], alts := [], laidByText := true, laidKinds := [.data, .data, .data, .data, .pinned, .pinned, .pinned], laidTests := true, laidLooks := .later }
def FnParameterNamesUptoCardSaid : Prop := Claim7.holds Tryz.pinned (.plain (OpenSpec.upto fnParameterNamesSpec)) fnParameterNamesUptoCard

/-- THE SECOND FORM's CARD OF 'laws.FnEmbeddedTwice'. -/
def fnEmbeddedTwiceUptoCard : Claim7 := { stood := { row := fnEmbeddedTwiceUptoRow, standIns := [], harness := (true, "4f4399fdfeeef566874d96f7cbe9c77bec7af6eb744ede0a2c12b05a4414357f"), looks := true }, kinds := [], alts := [], laidByText := true, laidKinds := [.data, .data, .data, .data, .pinned, .pinned, .pinned], laidTests := true, laidLooks := .later }
def FnEmbeddedTwiceUptoCardSaid : Prop := Claim7.holds Tryz.pinned (.plain (OpenSpec.upto fnEmbeddedTwiceSpec)) fnEmbeddedTwiceUptoCard
end Rows
end Go.Proofs.YtelmnkfdpnkpoaaGreatDoor
