/-
  DERIVED. GIVEN WITH THE SEED: THE CARDS: each row of YtnmodbmaokilaaaGreatDoorRows.lean that lists a variable, with what it lists TIED to the program's text (the seventh form; the later family's looks); each row that meets fmt, with fmt's text TOLD by the authors' own Lean function (tested against real Go, not proved from fmt's source: count such statements apart). THE CARD IS WHAT COUNTS. Prove the row's statement (the work); the ties are given (YtnmodbmaokilaaaGreatDoorTie.lean); close each card by the builder's one call (the guide's Derived/Test/ToyasCard.lean, 'card_holds'). Laid BY PROGRAM, IN A SANDBOX (cutbox-door.mjs). By AI agents, Wed Nov 11 2026. No macro, syntax, notation, axiom, sorry.
-/
import Derived.Test.YtnmodbmaokilaaaGreatDoorRows
import GoSem.ClaimSeven
namespace Go.Proofs.YtnmodbmaokilaaaGreatDoor
namespace Rows

/-- THE TIED CARD OF 'laws.FnBasics'. -/
def fnBasicsCard : Claim7 := { stood := { row := fnBasicsRow, standIns := [], harness := (true, "85d953407893170edf52547025ba2b8616e4fbab68a11ba24516d5d0602a5300"), looks := true }, kinds := [], alts := [], laidByText := true, laidKinds := [.data, .data, .data, .data, .pinned, .pinned, .pinned], laidTests := true, laidLooks := .later }
def FnBasicsCardSaid : Prop := Claim7.holds Tryz.pinned (.plain (OpenSpec.ofChange fnBasicsSpec)) fnBasicsCard

/-- THE TIED CARD OF 'laws.FnChains'. -/
def fnChainsCard : Claim7 := { stood := { row := fnChainsRow, standIns := [], harness := (true, "85d953407893170edf52547025ba2b8616e4fbab68a11ba24516d5d0602a5300"), looks := true }, kinds := [], alts := [], laidByText := true, laidKinds := [.data, .data, .data, .data, .pinned, .pinned, .pinned], laidTests := true, laidLooks := .later }
def FnChainsCardSaid : Prop := Claim7.holds Tryz.pinned (.plain (OpenSpec.ofChange fnChainsSpec)) fnChainsCard

/-- THE TIED CARD OF 'laws.FnChainsCompared'. -/
def fnChainsComparedCard : Claim7 := { stood := { row := fnChainsComparedRow, standIns := [], harness := (true, "85d953407893170edf52547025ba2b8616e4fbab68a11ba24516d5d0602a5300"), looks := true }, kinds := [], alts := [], laidByText := true, laidKinds := [.data, .data, .data, .data, .pinned, .pinned, .pinned], laidTests := true, laidLooks := .later }
def FnChainsComparedCardSaid : Prop := Claim7.holds Tryz.pinned (.plain (OpenSpec.ofChange fnChainsComparedSpec)) fnChainsComparedCard

/-- THE TIED CARD OF 'laws.FnChainsAssigned'. -/
def fnChainsAssignedCard : Claim7 := { stood := { row := fnChainsAssignedRow, standIns := [], harness := (true, "85d953407893170edf52547025ba2b8616e4fbab68a11ba24516d5d0602a5300"), looks := true }, kinds := [], alts := [], laidByText := true, laidKinds := [.data, .data, .data, .data, .pinned, .pinned, .pinned], laidTests := true, laidLooks := .later }
def FnChainsAssignedCardSaid : Prop := Claim7.holds Tryz.pinned (.plain (OpenSpec.ofChange fnChainsAssignedSpec)) fnChainsAssignedCard

/-- THE TIED CARD OF 'laws.FnNumbers'. -/
def fnNumbersCard : Claim7 := { stood := { row := fnNumbersRow, standIns := [], harness := (true, "85d953407893170edf52547025ba2b8616e4fbab68a11ba24516d5d0602a5300"), looks := true }, kinds := [], alts := [], laidByText := true, laidKinds := [.data, .data, .data, .data, .pinned, .pinned, .pinned], laidTests := true, laidLooks := .later }
def FnNumbersCardSaid : Prop := Claim7.holds Tryz.pinned (.plain (OpenSpec.ofChange fnNumbersSpec)) fnNumbersCard

/-- THE TIED CARD OF 'laws.FnChainsConverted'. -/
def fnChainsConvertedCard : Claim7 := { stood := { row := fnChainsConvertedRow, standIns := [], harness := (true, "85d953407893170edf52547025ba2b8616e4fbab68a11ba24516d5d0602a5300"), looks := true }, kinds := [], alts := [], laidByText := true, laidKinds := [.data, .data, .data, .data, .pinned, .pinned, .pinned], laidTests := true, laidLooks := .later }
def FnChainsConvertedCardSaid : Prop := Claim7.holds Tryz.pinned (.plain (OpenSpec.ofChange fnChainsConvertedSpec)) fnChainsConvertedCard

/-- THE SECOND FORM's CARD OF 'laws.FnBasics'. -/
def fnBasicsUptoCard : Claim7 := { stood := { row := fnBasicsUptoRow, standIns := [], harness := (true, "85d953407893170edf52547025ba2b8616e4fbab68a11ba24516d5d0602a5300"), looks := true }, kinds := [], alts := [], laidByText := true, laidKinds := [.data, .data, .data, .data, .pinned, .pinned, .pinned], laidTests := true, laidLooks := .later }
def FnBasicsUptoCardSaid : Prop := Claim7.holds Tryz.pinned (.plain (OpenSpec.upto fnBasicsSpec)) fnBasicsUptoCard

/-- THE SECOND FORM's CARD OF 'laws.FnChains'. -/
def fnChainsUptoCard : Claim7 := { stood := { row := fnChainsUptoRow, standIns := [], harness := (true, "85d953407893170edf52547025ba2b8616e4fbab68a11ba24516d5d0602a5300"), looks := true }, kinds := [], alts := [], laidByText := true, laidKinds := [.data, .data, .data, .data, .pinned, .pinned, .pinned], laidTests := true, laidLooks := .later }
def FnChainsUptoCardSaid : Prop := Claim7.holds Tryz.pinned (.plain (OpenSpec.upto fnChainsSpec)) fnChainsUptoCard

/-- THE SECOND FORM's CARD OF 'laws.FnChainsCompared'. -/
def fnChainsComparedUptoCard : Claim7 := { stood := { row := fnChainsComparedUptoRow, standIns := [], harness := (true, "85d953407893170edf52547025ba2b8616e4fbab68a11ba24516d5d0602a5300"), looks := true }, kinds := [], alts := [], laidByText := true, laidKinds := [.data, .data, .data, .data, .pinned, .pinned, .pinned], laidTests := true, laidLooks := .later }
def FnChainsComparedUptoCardSaid : Prop := Claim7.holds Tryz.pinned (.plain (OpenSpec.upto fnChainsComparedSpec)) fnChainsComparedUptoCard

/-- THE SECOND FORM's CARD OF 'laws.FnChainsAssigned'. -/
def fnChainsAssignedUptoCard : Claim7 := { stood := { row := fnChainsAssignedUptoRow, standIns := [], harness := (true, "85d953407893170edf52547025ba2b8616e4fbab68a11ba24516d5d0602a5300"), looks := true }, kinds := [], alts := [], laidByText := true, laidKinds := [.data, .data, .data, .data, .pinned, .pinned, .pinned], laidTests := true, laidLooks := .later }
def FnChainsAssignedUptoCardSaid : Prop := Claim7.holds Tryz.pinned (.plain (OpenSpec.upto fnChainsAssignedSpec)) fnChainsAssignedUptoCard

/-- THE SECOND FORM's CARD OF 'laws.FnNumbers'. -/
def fnNumbersUptoCard : Claim7 := { stood := { row := fnNumbersUptoRow, standIns := [], harness := (true, "85d953407893170edf52547025ba2b8616e4fbab68a11ba24516d5d0602a5300"), looks := true }, kinds := [], alts := [], laidByText := true, laidKinds := [.data, .data, .data, .data, .pinned, .pinned, .pinned], laidTests := true, laidLooks := .later }
def FnNumbersUptoCardSaid : Prop := Claim7.holds Tryz.pinned (.plain (OpenSpec.upto fnNumbersSpec)) fnNumbersUptoCard

/-- THE SECOND FORM's CARD OF 'laws.FnChainsConverted'. -/
def fnChainsConvertedUptoCard : Claim7 := { stood := { row := fnChainsConvertedUptoRow, standIns := [], harness := (true, "85d953407893170edf52547025ba2b8616e4fbab68a11ba24516d5d0602a5300"), looks := true }, kinds := [], alts := [], laidByText := true, laidKinds := [.data, .data, .data, .data, .pinned, .pinned, .pinned], laidTests := true, laidLooks := .later }
def FnChainsConvertedUptoCardSaid : Prop := Claim7.holds Tryz.pinned (.plain (OpenSpec.upto fnChainsConvertedSpec)) fnChainsConvertedUptoCard
end Rows
end Go.Proofs.YtnmodbmaokilaaaGreatDoor
