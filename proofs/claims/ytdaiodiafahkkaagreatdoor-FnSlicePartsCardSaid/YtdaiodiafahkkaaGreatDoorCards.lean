/-
  DERIVED. GIVEN WITH THE SEED: THE CARDS: each row of YtdaiodiafahkkaaGreatDoorRows.lean that lists a variable, with what it lists TIED to the program's text (the seventh form; the later family's looks); each row that meets fmt, with fmt's text TOLD by the authors' own Lean function (tested against real Go, not proved from fmt's source: count such statements apart). THE CARD IS WHAT COUNTS. Prove the row's statement (the work); the ties are given (YtdaiodiafahkkaaGreatDoorTie.lean); close each card by the builder's one call (the guide's Derived/Test/ToyasCard.lean, 'card_holds'). Laid BY PROGRAM, IN A SANDBOX (cutbox-door.mjs). By AI agents, Wed Nov 11 2026. No macro, syntax, notation, axiom, sorry.
-/
import Derived.Test.YtdaiodiafahkkaaGreatDoorRows
import GoSem.ClaimSeven
namespace Go.Proofs.YtdaiodiafahkkaaGreatDoor
namespace Rows

/-- THE TIED CARD OF 'laws.FnAddLists'. -/
def fnAddListsCard : Claim7 := { stood := { row := fnAddListsRow, standIns := [], harness := (true, "c27a1de63e6f372d427fa306595d00a22d6d8845adc0af11932427866cca7d7a"), looks := true }, kinds := [], alts := [], laidByText := true, laidKinds := [.data, .data, .widerDeep, .widerDeep, .data, .data, .data, .data, .data, .data, .sentinel, .sentinel, .pinned, .pinned, .pinned], laidTests := true, laidLooks := .later }
def FnAddListsCardSaid : Prop := Claim7.holds Tryz.pinned (.plain (OpenSpec.ofChange fnAddListsSpec)) fnAddListsCard

/-- THE TIED CARD OF 'laws.FnAddMaps'. -/
def fnAddMapsCard : Claim7 := { stood := { row := fnAddMapsRow, standIns := [], harness := (true, "c27a1de63e6f372d427fa306595d00a22d6d8845adc0af11932427866cca7d7a"), looks := true }, kinds := [], alts := [], laidByText := true, laidKinds := [.data, .data, .widerDeep, .widerDeep, .data, .data, .data, .data, .data, .data, .sentinel, .sentinel, .pinned, .pinned, .pinned], laidTests := true, laidLooks := .later }
def FnAddMapsCardSaid : Prop := Claim7.holds Tryz.pinned (.plain (OpenSpec.ofChange fnAddMapsSpec)) fnAddMapsCard

/-- THE TIED CARD OF 'laws.FnContainsAll'. -/
def fnContainsAllCard : Claim7 := { stood := { row := fnContainsAllRow, standIns := [], harness := (true, "c27a1de63e6f372d427fa306595d00a22d6d8845adc0af11932427866cca7d7a"), looks := true }, kinds := [], alts := [], laidByText := true, laidKinds := [.data, .data, .widerDeep, .widerDeep, .data, .data, .data, .data, .data, .data, .sentinel, .sentinel, .pinned, .pinned, .pinned], laidTests := true, laidLooks := .later }
def FnContainsAllCardSaid : Prop := Claim7.holds Tryz.pinned (.plain (OpenSpec.ofChange fnContainsAllSpec)) fnContainsAllCard

/-- THE TIED CARD OF 'laws.FnCompareLists'. -/
def fnCompareListsCard : Claim7 := { stood := { row := fnCompareListsRow, standIns := [], harness := (true, "c27a1de63e6f372d427fa306595d00a22d6d8845adc0af11932427866cca7d7a"), looks := true }, kinds := [], alts := [], laidByText := true, laidKinds := [.data, .data, .widerDeep, .widerDeep, .data, .data, .data, .data, .data, .data, .sentinel, .sentinel, .pinned, .pinned, .pinned], laidTests := true, laidLooks := .later }
def FnCompareListsCardSaid : Prop := Claim7.holds Tryz.pinned (.plain (OpenSpec.ofChange fnCompareListsSpec)) fnCompareListsCard

/-- THE TIED CARD OF 'laws.FnSlice'. -/
def fnSliceCard : Claim7 := { stood := { row := fnSliceRow, standIns := [], harness := (true, "c27a1de63e6f372d427fa306595d00a22d6d8845adc0af11932427866cca7d7a"), looks := true }, kinds := [], alts := [], laidByText := true, laidKinds := [.data, .data, .widerDeep, .widerDeep, .data, .data, .data, .data, .data, .data, .sentinel, .sentinel, .pinned, .pinned, .pinned], laidTests := true, laidLooks := .later }
def FnSliceCardSaid : Prop := Claim7.holds Tryz.pinned (.plain (OpenSpec.ofChange fnSliceSpec)) fnSliceCard

/-- THE TIED CARD OF 'laws.FnSliceParts'. -/
def fnSlicePartsCard : Claim7 := { stood := { row := fnSlicePartsRow, standIns := [], harness := (true, "c27a1de63e6f372d427fa306595d00a22d6d8845adc0af11932427866cca7d7a"), looks := true }, kinds := [], alts := [], laidByText := true, laidKinds := [.data, .data, .widerDeep, .widerDeep, .data, .data, .data, .data, .data, .data, .sentinel, .sentinel, .pinned, .pinned, .pinned], laidTests := true, laidLooks := .later }
def FnSlicePartsCardSaid : Prop := Claim7.holds Tryz.pinned (.plain (OpenSpec.ofChange fnSlicePartsSpec)) fnSlicePartsCard

/-- THE TIED CARD OF 'laws.FnSliceSteps'. -/
def fnSliceStepsCard : Claim7 := { stood := { row := fnSliceStepsRow, standIns := [], harness := (true, "c27a1de63e6f372d427fa306595d00a22d6d8845adc0af11932427866cca7d7a"), looks := true }, kinds := [], alts := [], laidByText := true, laidKinds := [.data, .data, .widerDeep, .widerDeep, .data, .data, .data, .data, .data, .data, .sentinel, .sentinel, .pinned, .pinned, .pinned], laidTests := true, laidLooks := .later }
def FnSliceStepsCardSaid : Prop := Claim7.holds Tryz.pinned (.plain (OpenSpec.ofChange fnSliceStepsSpec)) fnSliceStepsCard

/-- THE TIED CARD OF 'laws.FnSliceLength'. -/
def fnSliceLengthCard : Claim7 := { stood := { row := fnSliceLengthRow, standIns := [], harness := (true, "c27a1de63e6f372d427fa306595d00a22d6d8845adc0af11932427866cca7d7a"), looks := true }, kinds := [], alts := [], laidByText := true, laidKinds := [.data, .data, .widerDeep, .widerDeep, .data, .data, .data, .data, .data, .data, .sentinel, .sentinel, .pinned, .pinned, .pinned], laidTests := true, laidLooks := .later }
def FnSliceLengthCardSaid : Prop := Claim7.holds Tryz.pinned (.plain (OpenSpec.ofChange fnSliceLengthSpec)) fnSliceLengthCard

/-- THE TIED CARD OF 'laws.FnReverseSlice'. -/
def fnReverseSliceCard : Claim7 := { stood := { row := fnReverseSliceRow, standIns := [], harness := (true, "c27a1de63e6f372d427fa306595d00a22d6d8845adc0af11932427866cca7d7a"), looks := true }, kinds := [], alts := [], laidByText := true, laidKinds := [.data, .data, .widerDeep, .widerDeep, .data, .data, .data, .data, .data, .data, .sentinel, .sentinel, .pinned, .pinned, .pinned], laidTests := true, laidLooks := .later }
def FnReverseSliceCardSaid : Prop := Claim7.holds Tryz.pinned (.plain (OpenSpec.ofChange fnReverseSliceSpec)) fnReverseSliceCard

/-- THE TIED CARD OF 'laws.FnReverseTwice'. -/
def fnReverseTwiceCard : Claim7 := { stood := { row := fnReverseTwiceRow, standIns := [], harness := (true, "c27a1de63e6f372d427fa306595d00a22d6d8845adc0af11932427866cca7d7a"), looks := true }, kinds := [], alts := [], laidByText := true, laidKinds := [.data, .data, .widerDeep, .widerDeep, .data, .data, .data, .data, .data, .data, .sentinel, .sentinel, .pinned, .pinned, .pinned], laidTests := true, laidLooks := .later }
def FnReverseTwiceCardSaid : Prop := Claim7.holds Tryz.pinned (.plain (OpenSpec.ofChange fnReverseTwiceSpec)) fnReverseTwiceCard

/-- THE TIED CARD OF 'laws.FnSliceIndex'. -/
def fnSliceIndexCard : Claim7 := { stood := { row := fnSliceIndexRow, standIns := [], harness := (true, "c27a1de63e6f372d427fa306595d00a22d6d8845adc0af11932427866cca7d7a"), looks := true }, kinds := [], alts := [], laidByText := true, laidKinds := [.data, .data, .widerDeep, .widerDeep, .data, .data, .data, .data, .data, .data, .sentinel, .sentinel, .pinned, .pinned, .pinned], laidTests := true, laidLooks := .later }
def FnSliceIndexCardSaid : Prop := Claim7.holds Tryz.pinned (.plain (OpenSpec.ofChange fnSliceIndexSpec)) fnSliceIndexCard

/-- THE TIED CARD OF 'laws.FnContainsSlice'. -/
def fnContainsSliceCard : Claim7 := { stood := { row := fnContainsSliceRow, standIns := [], harness := (true, "c27a1de63e6f372d427fa306595d00a22d6d8845adc0af11932427866cca7d7a"), looks := true }, kinds := [], alts := [], laidByText := true, laidKinds := [.data, .data, .widerDeep, .widerDeep, .data, .data, .data, .data, .data, .data, .sentinel, .sentinel, .pinned, .pinned, .pinned], laidTests := true, laidLooks := .later }
def FnContainsSliceCardSaid : Prop := Claim7.holds Tryz.pinned (.plain (OpenSpec.ofChange fnContainsSliceSpec)) fnContainsSliceCard

/-- THE SECOND FORM's CARD OF 'laws.FnAddLists'. -/
def fnAddListsUptoCard : Claim7 := { stood := { row := fnAddListsUptoRow, standIns := [], harness := (true, "c27a1de63e6f372d427fa306595d00a22d6d8845adc0af11932427866cca7d7a"), looks := true }, kinds := [], alts := [], laidByText := true, laidKinds := [.data, .data, .widerDeep, .widerDeep, .data, .data, .data, .data, .data, .data, .sentinel, .sentinel, .pinned, .pinned, .pinned], laidTests := true, laidLooks := .later }
def FnAddListsUptoCardSaid : Prop := Claim7.holds Tryz.pinned (.plain (OpenSpec.upto fnAddListsSpec)) fnAddListsUptoCard

/-- THE SECOND FORM's CARD OF 'laws.FnAddMaps'. -/
def fnAddMapsUptoCard : Claim7 := { stood := { row := fnAddMapsUptoRow, standIns := [], harness := (true, "c27a1de63e6f372d427fa306595d00a22d6d8845adc0af11932427866cca7d7a"), looks := true }, kinds := [], alts := [], laidByText := true, laidKinds := [.data, .data, .widerDeep, .widerDeep, .data, .data, .data, .data, .data, .data, .sentinel, .sentinel, .pinned, .pinned, .pinned], laidTests := true, laidLooks := .later }
def FnAddMapsUptoCardSaid : Prop := Claim7.holds Tryz.pinned (.plain (OpenSpec.upto fnAddMapsSpec)) fnAddMapsUptoCard

/-- THE SECOND FORM's CARD OF 'laws.FnContainsAll'. -/
def fnContainsAllUptoCard : Claim7 := { stood := { row := fnContainsAllUptoRow, standIns := [], harness := (true, "c27a1de63e6f372d427fa306595d00a22d6d8845adc0af11932427866cca7d7a"), looks := true }, kinds := [], alts := [], laidByText := true, laidKinds := [.data, .data, .widerDeep, .widerDeep, .data, .data, .data, .data, .data, .data, .sentinel, .sentinel, .pinned, .pinned, .pinned], laidTests := true, laidLooks := .later }
def FnContainsAllUptoCardSaid : Prop := Claim7.holds Tryz.pinned (.plain (OpenSpec.upto fnContainsAllSpec)) fnContainsAllUptoCard

/-- THE SECOND FORM's CARD OF 'laws.FnCompareLists'. -/
def fnCompareListsUptoCard : Claim7 := { stood := { row := fnCompareListsUptoRow, standIns := [], harness := (true, "c27a1de63e6f372d427fa306595d00a22d6d8845adc0af11932427866cca7d7a"), looks := true }, kinds := [], alts := [], laidByText := true, laidKinds := [.data, .data, .widerDeep, .widerDeep, .data, .data, .data, .data, .data, .data, .sentinel, .sentinel, .pinned, .pinned, .pinned], laidTests := true, laidLooks := .later }
def FnCompareListsUptoCardSaid : Prop := Claim7.holds Tryz.pinned (.plain (OpenSpec.upto fnCompareListsSpec)) fnCompareListsUptoCard

/-- THE SECOND FORM's CARD OF 'laws.FnSlice'. -/
def fnSliceUptoCard : Claim7 := { stood := { row := fnSliceUptoRow, standIns := [], harness := (true, "c27a1de63e6f372d427fa306595d00a22d6d8845adc0af11932427866cca7d7a"), looks := true }, kinds := [], alts := [], laidByText := true, laidKinds := [.data, .data, .widerDeep, .widerDeep, .data, .data, .data, .data, .data, .data, .sentinel, .sentinel, .pinned, .pinned, .pinned], laidTests := true, laidLooks := .later }
def FnSliceUptoCardSaid : Prop := Claim7.holds Tryz.pinned (.plain (OpenSpec.upto fnSliceSpec)) fnSliceUptoCard

/-- THE SECOND FORM's CARD OF 'laws.FnSliceParts'. -/
def fnSlicePartsUptoCard : Claim7 := { stood := { row := fnSlicePartsUptoRow, standIns := [], harness := (true, "c27a1de63e6f372d427fa306595d00a22d6d8845adc0af11932427866cca7d7a"), looks := true }, kinds := [], alts := [], laidByText := true, laidKinds := [.data, .data, .widerDeep, .widerDeep, .data, .data, .data, .data, .data, .data, .sentinel, .sentinel, .pinned, .pinned, .pinned], laidTests := true, laidLooks := .later }
def FnSlicePartsUptoCardSaid : Prop := Claim7.holds Tryz.pinned (.plain (OpenSpec.upto fnSlicePartsSpec)) fnSlicePartsUptoCard

/-- THE SECOND FORM's CARD OF 'laws.FnSliceSteps'. -/
def fnSliceStepsUptoCard : Claim7 := { stood := { row := fnSliceStepsUptoRow, standIns := [], harness := (true, "c27a1de63e6f372d427fa306595d00a22d6d8845adc0af11932427866cca7d7a"), looks := true }, kinds := [], alts := [], laidByText := true, laidKinds := [.data, .data, .widerDeep, .widerDeep, .data, .data, .data, .data, .data, .data, .sentinel, .sentinel, .pinned, .pinned, .pinned], laidTests := true, laidLooks := .later }
def FnSliceStepsUptoCardSaid : Prop := Claim7.holds Tryz.pinned (.plain (OpenSpec.upto fnSliceStepsSpec)) fnSliceStepsUptoCard

/-- THE SECOND FORM's CARD OF 'laws.FnSliceLength'. -/
def fnSliceLengthUptoCard : Claim7 := { stood := { row := fnSliceLengthUptoRow, standIns := [], harness := (true, "c27a1de63e6f372d427fa306595d00a22d6d8845adc0af11932427866cca7d7a"), looks := true }, kinds := [], alts := [], laidByText := true, laidKinds := [.data, .data, .widerDeep, .widerDeep, .data, .data, .data, .data, .data, .data, .sentinel, .sentinel, .pinned, .pinned, .pinned], laidTests := true, laidLooks := .later }
def FnSliceLengthUptoCardSaid : Prop := Claim7.holds Tryz.pinned (.plain (OpenSpec.upto fnSliceLengthSpec)) fnSliceLengthUptoCard

/-- THE SECOND FORM's CARD OF 'laws.FnReverseSlice'. -/
def fnReverseSliceUptoCard : Claim7 := { stood := { row := fnReverseSliceUptoRow, standIns := [], harness := (true, "c27a1de63e6f372d427fa306595d00a22d6d8845adc0af11932427866cca7d7a"), looks := true }, kinds := [], alts := [], laidByText := true, laidKinds := [.data, .data, .widerDeep, .widerDeep, .data, .data, .data, .data, .data, .data, .sentinel, .sentinel, .pinned, .pinned, .pinned], laidTests := true, laidLooks := .later }
def FnReverseSliceUptoCardSaid : Prop := Claim7.holds Tryz.pinned (.plain (OpenSpec.upto fnReverseSliceSpec)) fnReverseSliceUptoCard

/-- THE SECOND FORM's CARD OF 'laws.FnReverseTwice'. -/
def fnReverseTwiceUptoCard : Claim7 := { stood := { row := fnReverseTwiceUptoRow, standIns := [], harness := (true, "c27a1de63e6f372d427fa306595d00a22d6d8845adc0af11932427866cca7d7a"), looks := true }, kinds := [], alts := [], laidByText := true, laidKinds := [.data, .data, .widerDeep, .widerDeep, .data, .data, .data, .data, .data, .data, .sentinel, .sentinel, .pinned, .pinned, .pinned], laidTests := true, laidLooks := .later }
def FnReverseTwiceUptoCardSaid : Prop := Claim7.holds Tryz.pinned (.plain (OpenSpec.upto fnReverseTwiceSpec)) fnReverseTwiceUptoCard

/-- THE SECOND FORM's CARD OF 'laws.FnSliceIndex'. -/
def fnSliceIndexUptoCard : Claim7 := { stood := { row := fnSliceIndexUptoRow, standIns := [], harness := (true, "c27a1de63e6f372d427fa306595d00a22d6d8845adc0af11932427866cca7d7a"), looks := true }, kinds := [], alts := [], laidByText := true, laidKinds := [.data, .data, .widerDeep, .widerDeep, .data, .data, .data, .data, .data, .data, .sentinel, .sentinel, .pinned, .pinned, .pinned], laidTests := true, laidLooks := .later }
def FnSliceIndexUptoCardSaid : Prop := Claim7.holds Tryz.pinned (.plain (OpenSpec.upto fnSliceIndexSpec)) fnSliceIndexUptoCard

/-- THE SECOND FORM's CARD OF 'laws.FnContainsSlice'. -/
def fnContainsSliceUptoCard : Claim7 := { stood := { row := fnContainsSliceUptoRow, standIns := [], harness := (true, "c27a1de63e6f372d427fa306595d00a22d6d8845adc0af11932427866cca7d7a"), looks := true }, kinds := [], alts := [], laidByText := true, laidKinds := [.data, .data, .widerDeep, .widerDeep, .data, .data, .data, .data, .data, .data, .sentinel, .sentinel, .pinned, .pinned, .pinned], laidTests := true, laidLooks := .later }
def FnContainsSliceUptoCardSaid : Prop := Claim7.holds Tryz.pinned (.plain (OpenSpec.upto fnContainsSliceSpec)) fnContainsSliceUptoCard
end Rows
end Go.Proofs.YtdaiodiafahkkaaGreatDoor
