/-
  DERIVED. GIVEN WITH THE SEED: THE CARDS: each row of YtbnfeicpjmfooaaGreatDoorRows.lean that lists a variable, with what it lists TIED to the program's text (the seventh form; the later family's looks); each row that meets fmt, with fmt's text TOLD by the authors' own Lean function (tested against real Go, not proved from fmt's source: count such statements apart). THE CARD IS WHAT COUNTS. Prove the row's statement (the work); the ties are given (YtbnfeicpjmfooaaGreatDoorTie.lean); close each card by the builder's one call (the guide's Derived/Test/ToyasCard.lean, 'card_holds'). Laid BY PROGRAM, IN A SANDBOX (cutbox-door.mjs). By AI agents, Wed Nov 11 2026. No macro, syntax, notation, axiom, sorry.
-/
import Derived.Test.YtbnfeicpjmfooaaGreatDoorRows
import GoSem.ClaimSeven
namespace Go.Proofs.YtbnfeicpjmfooaaGreatDoor
namespace Rows

/-- THE TIED CARD OF 'laws.FnSortAny'. -/
def fnSortAnyCard : Claim7 := { stood := { row := fnSortAnyRow, standIns := [], harness := (true, "8e025586758e7fc27dbad7953cdd91cf63cc40469d474bba26375875abcbba6f"), looks := true }, kinds := [], alts := [], laidByText := true, laidKinds := [.data, .data, .widerDeep, .widerDeep, .data, .data, .data, .data, .data, .data, .sentinel, .sentinel, .pinned, .pinned, .pinned], laidTests := true, laidLooks := .later }
def FnSortAnyCardSaid : Prop := Claim7.holds Tryz.pinned (.plain (OpenSpec.ofChange fnSortAnySpec)) fnSortAnyCard

/-- THE TIED CARD OF 'laws.FnSortRises'. -/
def fnSortRisesCard : Claim7 := { stood := { row := fnSortRisesRow, standIns := [], harness := (true, "8e025586758e7fc27dbad7953cdd91cf63cc40469d474bba26375875abcbba6f"), looks := true }, kinds := [], alts := [], laidByText := true, laidKinds := [.data, .data, .widerDeep, .widerDeep, .data, .data, .data, .data, .data, .data, .sentinel, .sentinel, .pinned, .pinned, .pinned], laidTests := true, laidLooks := .later }
def FnSortRisesCardSaid : Prop := Claim7.holds Tryz.pinned (.plain (OpenSpec.ofChange fnSortRisesSpec)) fnSortRisesCard

/-- THE TIED CARD OF 'laws.FnUniqueSort'. -/
def fnUniqueSortCard : Claim7 := { stood := { row := fnUniqueSortRow, standIns := [], harness := (true, "8e025586758e7fc27dbad7953cdd91cf63cc40469d474bba26375875abcbba6f"), looks := true }, kinds := [], alts := [], laidByText := true, laidKinds := [.data, .data, .widerDeep, .widerDeep, .data, .data, .data, .data, .data, .data, .sentinel, .sentinel, .pinned, .pinned, .pinned], laidTests := true, laidLooks := .later }
def FnUniqueSortCardSaid : Prop := Claim7.holds Tryz.pinned (.plain (OpenSpec.ofChange fnUniqueSortSpec)) fnUniqueSortCard

/-- THE TIED CARD OF 'laws.FnMinMax'. -/
def fnMinMaxCard : Claim7 := { stood := { row := fnMinMaxRow, standIns := [], harness := (true, "8e025586758e7fc27dbad7953cdd91cf63cc40469d474bba26375875abcbba6f"), looks := true }, kinds := [], alts := [], laidByText := true, laidKinds := [.data, .data, .widerDeep, .widerDeep, .data, .data, .data, .data, .data, .data, .sentinel, .sentinel, .pinned, .pinned, .pinned], laidTests := true, laidLooks := .later }
def FnMinMaxCardSaid : Prop := Claim7.holds Tryz.pinned (.plain (OpenSpec.ofChange fnMinMaxSpec)) fnMinMaxCard

/-- THE TIED CARD OF 'laws.FnByPlaces'. -/
def fnByPlacesCard : Claim7 := { stood := { row := fnByPlacesRow, standIns := [], harness := (true, "8e025586758e7fc27dbad7953cdd91cf63cc40469d474bba26375875abcbba6f"), looks := true }, kinds := [], alts := [], laidByText := true, laidKinds := [.data, .data, .widerDeep, .widerDeep, .data, .data, .data, .data, .data, .data, .sentinel, .sentinel, .pinned, .pinned, .pinned], laidTests := true, laidLooks := .later }
def FnByPlacesCardSaid : Prop := Claim7.holds Tryz.pinned (.plain (OpenSpec.ofChange fnByPlacesSpec)) fnByPlacesCard

/-- THE TIED CARD OF 'laws.FnAdd'. -/
def fnAddCard : Claim7 := { stood := { row := fnAddRow, standIns := [], harness := (true, "8e025586758e7fc27dbad7953cdd91cf63cc40469d474bba26375875abcbba6f"), looks := true }, kinds := [], alts := [], laidByText := true, laidKinds := [.data, .data, .widerDeep, .widerDeep, .data, .data, .data, .data, .data, .data, .sentinel, .sentinel, .pinned, .pinned, .pinned], laidTests := true, laidLooks := .later }
def FnAddCardSaid : Prop := Claim7.holds Tryz.pinned (.plain (OpenSpec.ofChange fnAddSpec)) fnAddCard

/-- THE TIED CARD OF 'laws.FnSlice'. -/
def fnSliceCard : Claim7 := { stood := { row := fnSliceRow, standIns := [], harness := (true, "8e025586758e7fc27dbad7953cdd91cf63cc40469d474bba26375875abcbba6f"), looks := true }, kinds := [], alts := [], laidByText := true, laidKinds := [.data, .data, .widerDeep, .widerDeep, .data, .data, .data, .data, .data, .data, .sentinel, .sentinel, .pinned, .pinned, .pinned], laidTests := true, laidLooks := .later }
def FnSliceCardSaid : Prop := Claim7.holds Tryz.pinned (.plain (OpenSpec.ofChange fnSliceSpec)) fnSliceCard

/-- THE TIED CARD OF 'laws.FnSumParts'. -/
def fnSumPartsCard : Claim7 := { stood := { row := fnSumPartsRow, standIns := [], harness := (true, "8e025586758e7fc27dbad7953cdd91cf63cc40469d474bba26375875abcbba6f"), looks := true }, kinds := [], alts := [], laidByText := true, laidKinds := [.data, .data, .widerDeep, .widerDeep, .data, .data, .data, .data, .data, .data, .sentinel, .sentinel, .pinned, .pinned, .pinned], laidTests := true, laidLooks := .later }
def FnSumPartsCardSaid : Prop := Claim7.holds Tryz.pinned (.plain (OpenSpec.ofChange fnSumPartsSpec)) fnSumPartsCard

/-- THE TIED CARD OF 'laws.FnFlattenSum'. -/
def fnFlattenSumCard : Claim7 := { stood := { row := fnFlattenSumRow, standIns := [], harness := (true, "8e025586758e7fc27dbad7953cdd91cf63cc40469d474bba26375875abcbba6f"), looks := true }, kinds := [], alts := [], laidByText := true, laidKinds := [.data, .data, .widerDeep, .widerDeep, .data, .data, .data, .data, .data, .data, .sentinel, .sentinel, .pinned, .pinned, .pinned], laidTests := true, laidLooks := .later }
def FnFlattenSumCardSaid : Prop := Claim7.holds Tryz.pinned (.plain (OpenSpec.ofChange fnFlattenSumSpec)) fnFlattenSumCard

/-- THE TIED CARD OF 'laws.FnContainsEqual'. -/
def fnContainsEqualCard : Claim7 := { stood := { row := fnContainsEqualRow, standIns := [], harness := (true, "8e025586758e7fc27dbad7953cdd91cf63cc40469d474bba26375875abcbba6f"), looks := true }, kinds := [], alts := [], laidByText := true, laidKinds := [.data, .data, .widerDeep, .widerDeep, .data, .data, .data, .data, .data, .data, .sentinel, .sentinel, .pinned, .pinned, .pinned], laidTests := true, laidLooks := .later }
def FnContainsEqualCardSaid : Prop := Claim7.holds Tryz.pinned (.plain (OpenSpec.ofChange fnContainsEqualSpec)) fnContainsEqualCard

/-- THE TIED CARD OF 'laws.FnSetLength'. -/
def fnSetLengthCard : Claim7 := { stood := { row := fnSetLengthRow, standIns := [], harness := (true, "8e025586758e7fc27dbad7953cdd91cf63cc40469d474bba26375875abcbba6f"), looks := true }, kinds := [], alts := [], laidByText := true, laidKinds := [.data, .data, .widerDeep, .widerDeep, .data, .data, .data, .data, .data, .data, .sentinel, .sentinel, .pinned, .pinned, .pinned], laidTests := true, laidLooks := .later }
def FnSetLengthCardSaid : Prop := Claim7.holds Tryz.pinned (.plain (OpenSpec.ofChange fnSetLengthSpec)) fnSetLengthCard

/-- THE TIED CARD OF 'laws.FnBuilt'. -/
def fnBuiltCard : Claim7 := { stood := { row := fnBuiltRow, standIns := [], harness := (true, "8e025586758e7fc27dbad7953cdd91cf63cc40469d474bba26375875abcbba6f"), looks := true }, kinds := [], alts := [], laidByText := true, laidKinds := [.data, .data, .widerDeep, .widerDeep, .data, .data, .data, .data, .data, .data, .sentinel, .sentinel, .pinned, .pinned, .pinned], laidTests := true, laidLooks := .later }
def FnBuiltCardSaid : Prop := Claim7.holds Tryz.pinned (.plain (OpenSpec.ofChange fnBuiltSpec)) fnBuiltCard

/-- THE SECOND FORM's CARD OF 'laws.FnSortAny'. -/
def fnSortAnyUptoCard : Claim7 := { stood := { row := fnSortAnyUptoRow, standIns := [], harness := (true, "8e025586758e7fc27dbad7953cdd91cf63cc40469d474bba26375875abcbba6f"), looks := true }, kinds := [], alts := [], laidByText := true, laidKinds := [.data, .data, .widerDeep, .widerDeep, .data, .data, .data, .data, .data, .data, .sentinel, .sentinel, .pinned, .pinned, .pinned], laidTests := true, laidLooks := .later }
def FnSortAnyUptoCardSaid : Prop := Claim7.holds Tryz.pinned (.plain (OpenSpec.upto fnSortAnySpec)) fnSortAnyUptoCard

/-- THE SECOND FORM's CARD OF 'laws.FnSortRises'. -/
def fnSortRisesUptoCard : Claim7 := { stood := { row := fnSortRisesUptoRow, standIns := [], harness := (true, "8e025586758e7fc27dbad7953cdd91cf63cc40469d474bba26375875abcbba6f"), looks := true }, kinds := [], alts := [], laidByText := true, laidKinds := [.data, .data, .widerDeep, .widerDeep, .data, .data, .data, .data, .data, .data, .sentinel, .sentinel, .pinned, .pinned, .pinned], laidTests := true, laidLooks := .later }
def FnSortRisesUptoCardSaid : Prop := Claim7.holds Tryz.pinned (.plain (OpenSpec.upto fnSortRisesSpec)) fnSortRisesUptoCard

/-- THE SECOND FORM's CARD OF 'laws.FnUniqueSort'. -/
def fnUniqueSortUptoCard : Claim7 := { stood := { row := fnUniqueSortUptoRow, standIns := [], harness := (true, "8e025586758e7fc27dbad7953cdd91cf63cc40469d474bba26375875abcbba6f"), looks := true }, kinds := [], alts := [], laidByText := true, laidKinds := [.data, .data, .widerDeep, .widerDeep, .data, .data, .data, .data, .data, .data, .sentinel, .sentinel, .pinned, .pinned, .pinned], laidTests := true, laidLooks := .later }
def FnUniqueSortUptoCardSaid : Prop := Claim7.holds Tryz.pinned (.plain (OpenSpec.upto fnUniqueSortSpec)) fnUniqueSortUptoCard

/-- THE SECOND FORM's CARD OF 'laws.FnMinMax'. -/
def fnMinMaxUptoCard : Claim7 := { stood := { row := fnMinMaxUptoRow, standIns := [], harness := (true, "8e025586758e7fc27dbad7953cdd91cf63cc40469d474bba26375875abcbba6f"), looks := true }, kinds := [], alts := [], laidByText := true, laidKinds := [.data, .data, .widerDeep, .widerDeep, .data, .data, .data, .data, .data, .data, .sentinel, .sentinel, .pinned, .pinned, .pinned], laidTests := true, laidLooks := .later }
def FnMinMaxUptoCardSaid : Prop := Claim7.holds Tryz.pinned (.plain (OpenSpec.upto fnMinMaxSpec)) fnMinMaxUptoCard

/-- THE SECOND FORM's CARD OF 'laws.FnByPlaces'. -/
def fnByPlacesUptoCard : Claim7 := { stood := { row := fnByPlacesUptoRow, standIns := [], harness := (true, "8e025586758e7fc27dbad7953cdd91cf63cc40469d474bba26375875abcbba6f"), looks := true }, kinds := [], alts := [], laidByText := true, laidKinds := [.data, .data, .widerDeep, .widerDeep, .data, .data, .data, .data, .data, .data, .sentinel, .sentinel, .pinned, .pinned, .pinned], laidTests := true, laidLooks := .later }
def FnByPlacesUptoCardSaid : Prop := Claim7.holds Tryz.pinned (.plain (OpenSpec.upto fnByPlacesSpec)) fnByPlacesUptoCard

/-- THE SECOND FORM's CARD OF 'laws.FnAdd'. -/
def fnAddUptoCard : Claim7 := { stood := { row := fnAddUptoRow, standIns := [], harness := (true, "8e025586758e7fc27dbad7953cdd91cf63cc40469d474bba26375875abcbba6f"), looks := true }, kinds := [], alts := [], laidByText := true, laidKinds := [.data, .data, .widerDeep, .widerDeep, .data, .data, .data, .data, .data, .data, .sentinel, .sentinel, .pinned, .pinned, .pinned], laidTests := true, laidLooks := .later }
def FnAddUptoCardSaid : Prop := Claim7.holds Tryz.pinned (.plain (OpenSpec.upto fnAddSpec)) fnAddUptoCard

/-- THE SECOND FORM's CARD OF 'laws.FnSlice'. -/
def fnSliceUptoCard : Claim7 := { stood := { row := fnSliceUptoRow, standIns := [], harness := (true, "8e025586758e7fc27dbad7953cdd91cf63cc40469d474bba26375875abcbba6f"), looks := true }, kinds := [], alts := [], laidByText := true, laidKinds := [.data, .data, .widerDeep, .widerDeep, .data, .data, .data, .data, .data, .data, .sentinel, .sentinel, .pinned, .pinned, .pinned], laidTests := true, laidLooks := .later }
def FnSliceUptoCardSaid : Prop := Claim7.holds Tryz.pinned (.plain (OpenSpec.upto fnSliceSpec)) fnSliceUptoCard

/-- THE SECOND FORM's CARD OF 'laws.FnSumParts'. -/
def fnSumPartsUptoCard : Claim7 := { stood := { row := fnSumPartsUptoRow, standIns := [], harness := (true, "8e025586758e7fc27dbad7953cdd91cf63cc40469d474bba26375875abcbba6f"), looks := true }, kinds := [], alts := [], laidByText := true, laidKinds := [.data, .data, .widerDeep, .widerDeep, .data, .data, .data, .data, .data, .data, .sentinel, .sentinel, .pinned, .pinned, .pinned], laidTests := true, laidLooks := .later }
def FnSumPartsUptoCardSaid : Prop := Claim7.holds Tryz.pinned (.plain (OpenSpec.upto fnSumPartsSpec)) fnSumPartsUptoCard

/-- THE SECOND FORM's CARD OF 'laws.FnFlattenSum'. -/
def fnFlattenSumUptoCard : Claim7 := { stood := { row := fnFlattenSumUptoRow, standIns := [], harness := (true, "8e025586758e7fc27dbad7953cdd91cf63cc40469d474bba26375875abcbba6f"), looks := true }, kinds := [], alts := [], laidByText := true, laidKinds := [.data, .data, .widerDeep, .widerDeep, .data, .data, .data, .data, .data, .data, .sentinel, .sentinel, .pinned, .pinned, .pinned], laidTests := true, laidLooks := .later }
def FnFlattenSumUptoCardSaid : Prop := Claim7.holds Tryz.pinned (.plain (OpenSpec.upto fnFlattenSumSpec)) fnFlattenSumUptoCard

/-- THE SECOND FORM's CARD OF 'laws.FnContainsEqual'. -/
def fnContainsEqualUptoCard : Claim7 := { stood := { row := fnContainsEqualUptoRow, standIns := [], harness := (true, "8e025586758e7fc27dbad7953cdd91cf63cc40469d474bba26375875abcbba6f"), looks := true }, kinds := [], alts := [], laidByText := true, laidKinds := [.data, .data, .widerDeep, .widerDeep, .data, .data, .data, .data, .data, .data, .sentinel, .sentinel, .pinned, .pinned, .pinned], laidTests := true, laidLooks := .later }
def FnContainsEqualUptoCardSaid : Prop := Claim7.holds Tryz.pinned (.plain (OpenSpec.upto fnContainsEqualSpec)) fnContainsEqualUptoCard

/-- THE SECOND FORM's CARD OF 'laws.FnSetLength'. -/
def fnSetLengthUptoCard : Claim7 := { stood := { row := fnSetLengthUptoRow, standIns := [], harness := (true, "8e025586758e7fc27dbad7953cdd91cf63cc40469d474bba26375875abcbba6f"), looks := true }, kinds := [], alts := [], laidByText := true, laidKinds := [.data, .data, .widerDeep, .widerDeep, .data, .data, .data, .data, .data, .data, .sentinel, .sentinel, .pinned, .pinned, .pinned], laidTests := true, laidLooks := .later }
def FnSetLengthUptoCardSaid : Prop := Claim7.holds Tryz.pinned (.plain (OpenSpec.upto fnSetLengthSpec)) fnSetLengthUptoCard

/-- THE SECOND FORM's CARD OF 'laws.FnBuilt'. -/
def fnBuiltUptoCard : Claim7 := { stood := { row := fnBuiltUptoRow, standIns := [], harness := (true, "8e025586758e7fc27dbad7953cdd91cf63cc40469d474bba26375875abcbba6f"), looks := true }, kinds := [], alts := [], laidByText := true, laidKinds := [.data, .data, .widerDeep, .widerDeep, .data, .data, .data, .data, .data, .data, .sentinel, .sentinel, .pinned, .pinned, .pinned], laidTests := true, laidLooks := .later }
def FnBuiltUptoCardSaid : Prop := Claim7.holds Tryz.pinned (.plain (OpenSpec.upto fnBuiltSpec)) fnBuiltUptoCard
end Rows
end Go.Proofs.YtbnfeicpjmfooaaGreatDoor
