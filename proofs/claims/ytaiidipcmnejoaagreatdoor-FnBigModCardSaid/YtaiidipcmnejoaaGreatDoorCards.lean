/-
  DERIVED. GIVEN WITH THE SEED: THE CARDS: each row of YtaiidipcmnejoaaGreatDoorRows.lean that lists a variable, with what it lists TIED to the program's text (the seventh form; the later family's looks); each row that meets fmt, with fmt's text TOLD by the authors' own Lean function (tested against real Go, not proved from fmt's source: count such statements apart). THE CARD IS WHAT COUNTS. Prove the row's statement (the work); the ties are given (YtaiidipcmnejoaaGreatDoorTie.lean); close each card by the builder's one call (the guide's Derived/Test/ToyasCard.lean, 'card_holds'). Laid BY PROGRAM, IN A SANDBOX (cutbox-door.mjs). By AI agents, Wed Nov 11 2026. No macro, syntax, notation, axiom, sorry.
-/
import Derived.Test.YtaiidipcmnejoaaGreatDoorRows
import GoSem.ClaimSeven
namespace Go.Proofs.YtaiidipcmnejoaaGreatDoor
namespace Rows

/-- THE TIED CARD OF 'laws.FnBigAdd'. -/
def fnBigAddCard : Claim7 := { stood := { row := fnBigAddRow, standIns := [], harness := (true, "e0ed874febb56757def2f8199718abeb84c86a2fcd85b4170bf854eab2cf038b"), looks := true }, kinds := [], alts := [], laidByText := true, laidKinds := [.data, .data, .widerDeep, .widerDeep, .data, .data, .data, .data, .data, .sentinel, .sentinel, .pinned, .pinned], laidTests := true, laidLooks := .later }
def FnBigAddCardSaid : Prop := Claim7.holds Tryz.pinned (.plain (OpenSpec.ofChange fnBigAddSpec)) fnBigAddCard

/-- THE TIED CARD OF 'laws.FnBigMod'. -/
def fnBigModCard : Claim7 := { stood := { row := fnBigModRow, standIns := [], harness := (true, "e0ed874febb56757def2f8199718abeb84c86a2fcd85b4170bf854eab2cf038b"), looks := true }, kinds := [], alts := [], laidByText := true, laidKinds := [.data, .data, .widerDeep, .widerDeep, .data, .data, .data, .data, .data, .sentinel, .sentinel, .pinned, .pinned], laidTests := true, laidLooks := .later }
def FnBigModCardSaid : Prop := Claim7.holds Tryz.pinned (.plain (OpenSpec.ofChange fnBigModSpec)) fnBigModCard

/-- THE TIED CARD OF 'laws.FnBigMul'. -/
def fnBigMulCard : Claim7 := { stood := { row := fnBigMulRow, standIns := [], harness := (true, "e0ed874febb56757def2f8199718abeb84c86a2fcd85b4170bf854eab2cf038b"), looks := true }, kinds := [], alts := [], laidByText := true, laidKinds := [.data, .data, .widerDeep, .widerDeep, .data, .data, .data, .data, .data, .sentinel, .sentinel, .pinned, .pinned], laidTests := true, laidLooks := .later }
def FnBigMulCardSaid : Prop := Claim7.holds Tryz.pinned (.plain (OpenSpec.ofChange fnBigMulSpec)) fnBigMulCard

/-- THE TIED CARD OF 'laws.FnBigDiv'. -/
def fnBigDivCard : Claim7 := { stood := { row := fnBigDivRow, standIns := [], harness := (true, "e0ed874febb56757def2f8199718abeb84c86a2fcd85b4170bf854eab2cf038b"), looks := true }, kinds := [], alts := [], laidByText := true, laidKinds := [.data, .data, .widerDeep, .widerDeep, .data, .data, .data, .data, .data, .data, .sentinel, .sentinel, .pinned, .pinned, .pinned], laidTests := true, laidLooks := .later }
def FnBigDivCardSaid : Prop := Claim7.holds Tryz.pinned (.plain (OpenSpec.ofChange fnBigDivSpec)) fnBigDivCard

/-- THE TIED CARD OF 'laws.FnBigSpread'. -/
def fnBigSpreadCard : Claim7 := { stood := { row := fnBigSpreadRow, standIns := [], harness := (true, "e0ed874febb56757def2f8199718abeb84c86a2fcd85b4170bf854eab2cf038b"), looks := true }, kinds := [], alts := [], laidByText := true, laidKinds := [.data, .data, .widerDeep, .widerDeep, .data, .data, .data, .data, .data, .sentinel, .sentinel, .pinned, .pinned], laidTests := true, laidLooks := .later }
def FnBigSpreadCardSaid : Prop := Claim7.holds Tryz.pinned (.plain (OpenSpec.ofChange fnBigSpreadSpec)) fnBigSpreadCard

/-- THE TIED CARD OF 'laws.FnBigCompare'. -/
def fnBigCompareCard : Claim7 := { stood := { row := fnBigCompareRow, standIns := [], harness := (true, "e0ed874febb56757def2f8199718abeb84c86a2fcd85b4170bf854eab2cf038b"), looks := true }, kinds := [], alts := [], laidByText := true, laidKinds := [.data, .data, .widerDeep, .widerDeep, .data, .data, .data, .data, .data, .sentinel, .sentinel, .pinned, .pinned], laidTests := true, laidLooks := .later }
def FnBigCompareCardSaid : Prop := Claim7.holds Tryz.pinned (.plain (OpenSpec.ofChange fnBigCompareSpec)) fnBigCompareCard

/-- THE TIED CARD OF 'laws.FnBigMarshal'. -/
def fnBigMarshalCard : Claim7 := { stood := { row := fnBigMarshalRow, standIns := [], harness := (true, "e0ed874febb56757def2f8199718abeb84c86a2fcd85b4170bf854eab2cf038b"), looks := true }, kinds := [], alts := [], laidByText := true, laidKinds := [.data, .data, .widerDeep, .widerDeep, .data, .data, .data, .data, .data, .data, .sentinel, .sentinel, .pinned, .pinned, .pinned], laidTests := true, laidLooks := .later }
def FnBigMarshalCardSaid : Prop := Claim7.holds Tryz.pinned (.plain (OpenSpec.ofChange fnBigMarshalSpec)) fnBigMarshalCard

/-- THE TIED CARD OF 'laws.FnBigSub'. -/
def fnBigSubCard : Claim7 := { stood := { row := fnBigSubRow, standIns := [], harness := (true, "e0ed874febb56757def2f8199718abeb84c86a2fcd85b4170bf854eab2cf038b"), looks := true }, kinds := [], alts := [], laidByText := true, laidKinds := [.data, .data, .widerDeep, .widerDeep, .data, .data, .data, .data, .data, .sentinel, .sentinel, .pinned, .pinned], laidTests := true, laidLooks := .later }
def FnBigSubCardSaid : Prop := Claim7.holds Tryz.pinned (.plain (OpenSpec.ofChange fnBigSubSpec)) fnBigSubCard

/-- THE TIED CARD OF 'laws.FnBigDiffer'. -/
def fnBigDifferCard : Claim7 := { stood := { row := fnBigDifferRow, standIns := [], harness := (true, "e0ed874febb56757def2f8199718abeb84c86a2fcd85b4170bf854eab2cf038b"), looks := true }, kinds := [], alts := [], laidByText := true, laidKinds := [.data, .data, .widerDeep, .widerDeep, .data, .data, .data, .data, .data, .sentinel, .sentinel, .pinned, .pinned], laidTests := true, laidLooks := .later }
def FnBigDifferCardSaid : Prop := Claim7.holds Tryz.pinned (.plain (OpenSpec.ofChange fnBigDifferSpec)) fnBigDifferCard

/-- THE TIED CARD OF 'laws.FnBigSum'. -/
def fnBigSumCard : Claim7 := { stood := { row := fnBigSumRow, standIns := [], harness := (true, "e0ed874febb56757def2f8199718abeb84c86a2fcd85b4170bf854eab2cf038b"), looks := true }, kinds := [], alts := [], laidByText := true, laidKinds := [.data, .data, .widerDeep, .widerDeep, .data, .data, .data, .data, .data, .sentinel, .sentinel, .pinned, .pinned], laidTests := true, laidLooks := .later }
def FnBigSumCardSaid : Prop := Claim7.holds Tryz.pinned (.plain (OpenSpec.ofChange fnBigSumSpec)) fnBigSumCard

/-- THE TIED CARD OF 'laws.FnBigSort'. -/
def fnBigSortCard : Claim7 := { stood := { row := fnBigSortRow, standIns := [], harness := (true, "e0ed874febb56757def2f8199718abeb84c86a2fcd85b4170bf854eab2cf038b"), looks := true }, kinds := [], alts := [], laidByText := true, laidKinds := [.data, .data, .widerDeep, .widerDeep, .data, .data, .data, .data, .data, .sentinel, .sentinel, .pinned, .pinned], laidTests := true, laidLooks := .later }
def FnBigSortCardSaid : Prop := Claim7.holds Tryz.pinned (.plain (OpenSpec.ofChange fnBigSortSpec)) fnBigSortCard

/-- THE SECOND FORM's CARD OF 'laws.FnBigAdd'. -/
def fnBigAddUptoCard : Claim7 := { stood := { row := fnBigAddUptoRow, standIns := [], harness := (true, "e0ed874febb56757def2f8199718abeb84c86a2fcd85b4170bf854eab2cf038b"), looks := true }, kinds := [], alts := [], laidByText := true, laidKinds := [.data, .data, .widerDeep, .widerDeep, .data, .data, .data, .data, .data, .sentinel, .sentinel, .pinned, .pinned], laidTests := true, laidLooks := .later }
def FnBigAddUptoCardSaid : Prop := Claim7.holds Tryz.pinned (.plain (OpenSpec.upto fnBigAddSpec)) fnBigAddUptoCard

/-- THE SECOND FORM's CARD OF 'laws.FnBigMod'. -/
def fnBigModUptoCard : Claim7 := { stood := { row := fnBigModUptoRow, standIns := [], harness := (true, "e0ed874febb56757def2f8199718abeb84c86a2fcd85b4170bf854eab2cf038b"), looks := true }, kinds := [], alts := [], laidByText := true, laidKinds := [.data, .data, .widerDeep, .widerDeep, .data, .data, .data, .data, .data, .sentinel, .sentinel, .pinned, .pinned], laidTests := true, laidLooks := .later }
def FnBigModUptoCardSaid : Prop := Claim7.holds Tryz.pinned (.plain (OpenSpec.upto fnBigModSpec)) fnBigModUptoCard

/-- THE SECOND FORM's CARD OF 'laws.FnBigMul'. -/
def fnBigMulUptoCard : Claim7 := { stood := { row := fnBigMulUptoRow, standIns := [], harness := (true, "e0ed874febb56757def2f8199718abeb84c86a2fcd85b4170bf854eab2cf038b"), looks := true }, kinds := [], alts := [], laidByText := true, laidKinds := [.data, .data, .widerDeep, .widerDeep, .data, .data, .data, .data, .data, .sentinel, .sentinel, .pinned, .pinned], laidTests := true, laidLooks := .later }
def FnBigMulUptoCardSaid : Prop := Claim7.holds Tryz.pinned (.plain (OpenSpec.upto fnBigMulSpec)) fnBigMulUptoCard

/-- THE SECOND FORM's CARD OF 'laws.FnBigDiv'. -/
def fnBigDivUptoCard : Claim7 := { stood := { row := fnBigDivUptoRow, standIns := [], harness := (true, "e0ed874febb56757def2f8199718abeb84c86a2fcd85b4170bf854eab2cf038b"), looks := true }, kinds := [], alts := [], laidByText := true, laidKinds := [.data, .data, .widerDeep, .widerDeep, .data, .data, .data, .data, .data, .data, .sentinel, .sentinel, .pinned, .pinned, .pinned], laidTests := true, laidLooks := .later }
def FnBigDivUptoCardSaid : Prop := Claim7.holds Tryz.pinned (.plain (OpenSpec.upto fnBigDivSpec)) fnBigDivUptoCard

/-- THE SECOND FORM's CARD OF 'laws.FnBigSpread'. -/
def fnBigSpreadUptoCard : Claim7 := { stood := { row := fnBigSpreadUptoRow, standIns := [], harness := (true, "e0ed874febb56757def2f8199718abeb84c86a2fcd85b4170bf854eab2cf038b"), looks := true }, kinds := [], alts := [], laidByText := true, laidKinds := [.data, .data, .widerDeep, .widerDeep, .data, .data, .data, .data, .data, .sentinel, .sentinel, .pinned, .pinned], laidTests := true, laidLooks := .later }
def FnBigSpreadUptoCardSaid : Prop := Claim7.holds Tryz.pinned (.plain (OpenSpec.upto fnBigSpreadSpec)) fnBigSpreadUptoCard

/-- THE SECOND FORM's CARD OF 'laws.FnBigCompare'. -/
def fnBigCompareUptoCard : Claim7 := { stood := { row := fnBigCompareUptoRow, standIns := [], harness := (true, "e0ed874febb56757def2f8199718abeb84c86a2fcd85b4170bf854eab2cf038b"), looks := true }, kinds := [], alts := [], laidByText := true, laidKinds := [.data, .data, .widerDeep, .widerDeep, .data, .data, .data, .data, .data, .sentinel, .sentinel, .pinned, .pinned], laidTests := true, laidLooks := .later }
def FnBigCompareUptoCardSaid : Prop := Claim7.holds Tryz.pinned (.plain (OpenSpec.upto fnBigCompareSpec)) fnBigCompareUptoCard

/-- THE SECOND FORM's CARD OF 'laws.FnBigMarshal'. -/
def fnBigMarshalUptoCard : Claim7 := { stood := { row := fnBigMarshalUptoRow, standIns := [], harness := (true, "e0ed874febb56757def2f8199718abeb84c86a2fcd85b4170bf854eab2cf038b"), looks := true }, kinds := [], alts := [], laidByText := true, laidKinds := [.data, .data, .widerDeep, .widerDeep, .data, .data, .data, .data, .data, .data, .sentinel, .sentinel, .pinned, .pinned, .pinned], laidTests := true, laidLooks := .later }
def FnBigMarshalUptoCardSaid : Prop := Claim7.holds Tryz.pinned (.plain (OpenSpec.upto fnBigMarshalSpec)) fnBigMarshalUptoCard

/-- THE SECOND FORM's CARD OF 'laws.FnBigSub'. -/
def fnBigSubUptoCard : Claim7 := { stood := { row := fnBigSubUptoRow, standIns := [], harness := (true, "e0ed874febb56757def2f8199718abeb84c86a2fcd85b4170bf854eab2cf038b"), looks := true }, kinds := [], alts := [], laidByText := true, laidKinds := [.data, .data, .widerDeep, .widerDeep, .data, .data, .data, .data, .data, .sentinel, .sentinel, .pinned, .pinned], laidTests := true, laidLooks := .later }
def FnBigSubUptoCardSaid : Prop := Claim7.holds Tryz.pinned (.plain (OpenSpec.upto fnBigSubSpec)) fnBigSubUptoCard

/-- THE SECOND FORM's CARD OF 'laws.FnBigDiffer'. -/
def fnBigDifferUptoCard : Claim7 := { stood := { row := fnBigDifferUptoRow, standIns := [], harness := (true, "e0ed874febb56757def2f8199718abeb84c86a2fcd85b4170bf854eab2cf038b"), looks := true }, kinds := [], alts := [], laidByText := true, laidKinds := [.data, .data, .widerDeep, .widerDeep, .data, .data, .data, .data, .data, .sentinel, .sentinel, .pinned, .pinned], laidTests := true, laidLooks := .later }
def FnBigDifferUptoCardSaid : Prop := Claim7.holds Tryz.pinned (.plain (OpenSpec.upto fnBigDifferSpec)) fnBigDifferUptoCard

/-- THE SECOND FORM's CARD OF 'laws.FnBigSum'. -/
def fnBigSumUptoCard : Claim7 := { stood := { row := fnBigSumUptoRow, standIns := [], harness := (true, "e0ed874febb56757def2f8199718abeb84c86a2fcd85b4170bf854eab2cf038b"), looks := true }, kinds := [], alts := [], laidByText := true, laidKinds := [.data, .data, .widerDeep, .widerDeep, .data, .data, .data, .data, .data, .sentinel, .sentinel, .pinned, .pinned], laidTests := true, laidLooks := .later }
def FnBigSumUptoCardSaid : Prop := Claim7.holds Tryz.pinned (.plain (OpenSpec.upto fnBigSumSpec)) fnBigSumUptoCard

/-- THE SECOND FORM's CARD OF 'laws.FnBigSort'. -/
def fnBigSortUptoCard : Claim7 := { stood := { row := fnBigSortUptoRow, standIns := [], harness := (true, "e0ed874febb56757def2f8199718abeb84c86a2fcd85b4170bf854eab2cf038b"), looks := true }, kinds := [], alts := [], laidByText := true, laidKinds := [.data, .data, .widerDeep, .widerDeep, .data, .data, .data, .data, .data, .sentinel, .sentinel, .pinned, .pinned], laidTests := true, laidLooks := .later }
def FnBigSortUptoCardSaid : Prop := Claim7.holds Tryz.pinned (.plain (OpenSpec.upto fnBigSortSpec)) fnBigSortUptoCard
end Rows
end Go.Proofs.YtaiidipcmnejoaaGreatDoor
