/-
  DERIVED. GIVEN WITH THE SEED: THE CARDS: each row of YtcoahpcjhhnkkaaGreatDoorRows.lean that lists a variable, with what it lists TIED to the program's text (the seventh form; the later family's looks); each row that meets fmt, with fmt's text TOLD by the authors' own Lean function (tested against real Go, not proved from fmt's source: count such statements apart). THE CARD IS WHAT COUNTS. Prove the row's statement (the work); the ties are given (YtcoahpcjhhnkkaaGreatDoorTie.lean); close each card by the builder's one call (the guide's Derived/Test/ToyasCard.lean, 'card_holds'). Laid BY PROGRAM, IN A SANDBOX (cutbox-door.mjs). By AI agents, Wed Nov 11 2026. No macro, syntax, notation, axiom, sorry.
-/
import Derived.Test.YtcoahpcjhhnkkaaGreatDoorRows
import GoSem.ClaimSeven
namespace Go.Proofs.YtcoahpcjhhnkkaaGreatDoor
namespace Rows

/-- THE TIED CARD OF 'laws.FnCompareLists'. -/
def fnCompareListsCard : Claim7 := { stood := { row := fnCompareListsRow, standIns := [], harness := (true, "30191c2a7c726e2f405ce39ebb79992364e35cfd1b0b8cd5f1b30d31dc90deb9"), looks := true }, kinds := [], alts := [], laidByText := true, laidKinds := [.data, .data, .widerDeep, .widerDeep, .data, .data, .data, .data, .data, .data, .sentinel, .sentinel, .pinned, .pinned, .pinned], laidTests := true, laidLooks := .later }
def FnCompareListsCardSaid : Prop := Claim7.holds Tryz.pinned (.plain (OpenSpec.ofChange fnCompareListsSpec)) fnCompareListsCard

/-- THE TIED CARD OF 'laws.FnContainsAll'. -/
def fnContainsAllCard : Claim7 := { stood := { row := fnContainsAllRow, standIns := [], harness := (true, "30191c2a7c726e2f405ce39ebb79992364e35cfd1b0b8cd5f1b30d31dc90deb9"), looks := true }, kinds := [], alts := [], laidByText := true, laidKinds := [.data, .data, .widerDeep, .widerDeep, .data, .data, .data, .data, .data, .data, .sentinel, .sentinel, .pinned, .pinned, .pinned], laidTests := true, laidLooks := .later }
def FnContainsAllCardSaid : Prop := Claim7.holds Tryz.pinned (.plain (OpenSpec.ofChange fnContainsAllSpec)) fnContainsAllCard

/-- THE TIED CARD OF 'laws.FnContainsSome'. -/
def fnContainsSomeCard : Claim7 := { stood := { row := fnContainsSomeRow, standIns := [], harness := (true, "30191c2a7c726e2f405ce39ebb79992364e35cfd1b0b8cd5f1b30d31dc90deb9"), looks := true }, kinds := [], alts := [], laidByText := true, laidKinds := [.data, .data, .widerDeep, .widerDeep, .data, .data, .data, .data, .data, .data, .sentinel, .sentinel, .pinned, .pinned, .pinned], laidTests := true, laidLooks := .later }
def FnContainsSomeCardSaid : Prop := Claim7.holds Tryz.pinned (.plain (OpenSpec.ofChange fnContainsSomeSpec)) fnContainsSomeCard

/-- THE TIED CARD OF 'laws.FnContainsKeys'. -/
def fnContainsKeysCard : Claim7 := { stood := { row := fnContainsKeysRow, standIns := [], harness := (true, "30191c2a7c726e2f405ce39ebb79992364e35cfd1b0b8cd5f1b30d31dc90deb9"), looks := true }, kinds := [], alts := [], laidByText := true, laidKinds := [.data, .data, .widerDeep, .widerDeep, .data, .data, .data, .data, .data, .data, .sentinel, .sentinel, .pinned, .pinned, .pinned], laidTests := true, laidLooks := .later }
def FnContainsKeysCardSaid : Prop := Claim7.holds Tryz.pinned (.plain (OpenSpec.ofChange fnContainsKeysSpec)) fnContainsKeysCard

/-- THE TIED CARD OF 'laws.FnContainsSlice'. -/
def fnContainsSliceCard : Claim7 := { stood := { row := fnContainsSliceRow, standIns := [], harness := (true, "30191c2a7c726e2f405ce39ebb79992364e35cfd1b0b8cd5f1b30d31dc90deb9"), looks := true }, kinds := [], alts := [], laidByText := true, laidKinds := [.data, .data, .widerDeep, .widerDeep, .data, .data, .data, .data, .data, .data, .sentinel, .sentinel, .pinned, .pinned, .pinned], laidTests := true, laidLooks := .later }
def FnContainsSliceCardSaid : Prop := Claim7.holds Tryz.pinned (.plain (OpenSpec.ofChange fnContainsSliceSpec)) fnContainsSliceCard

/-- THE TIED CARD OF 'laws.FnContainsMerge'. -/
def fnContainsMergeCard : Claim7 := { stood := { row := fnContainsMergeRow, standIns := [], harness := (true, "30191c2a7c726e2f405ce39ebb79992364e35cfd1b0b8cd5f1b30d31dc90deb9"), looks := true }, kinds := [], alts := [], laidByText := true, laidKinds := [.data, .data, .widerDeep, .widerDeep, .data, .data, .data, .data, .data, .data, .sentinel, .sentinel, .pinned, .pinned, .pinned], laidTests := true, laidLooks := .later }
def FnContainsMergeCardSaid : Prop := Claim7.holds Tryz.pinned (.plain (OpenSpec.ofChange fnContainsMergeSpec)) fnContainsMergeCard

/-- THE TIED CARD OF 'laws.FnAdd'. -/
def fnAddCard : Claim7 := { stood := { row := fnAddRow, standIns := [], harness := (true, "30191c2a7c726e2f405ce39ebb79992364e35cfd1b0b8cd5f1b30d31dc90deb9"), looks := true }, kinds := [], alts := [], laidByText := true, laidKinds := [.data, .data, .widerDeep, .widerDeep, .data, .data, .data, .data, .data, .data, .sentinel, .sentinel, .pinned, .pinned, .pinned], laidTests := true, laidLooks := .later }
def FnAddCardSaid : Prop := Claim7.holds Tryz.pinned (.plain (OpenSpec.ofChange fnAddSpec)) fnAddCard

/-- THE TIED CARD OF 'laws.FnSubLists'. -/
def fnSubListsCard : Claim7 := { stood := { row := fnSubListsRow, standIns := [], harness := (true, "30191c2a7c726e2f405ce39ebb79992364e35cfd1b0b8cd5f1b30d31dc90deb9"), looks := true }, kinds := [], alts := [], laidByText := true, laidKinds := [.data, .data, .widerDeep, .widerDeep, .data, .data, .data, .data, .data, .data, .sentinel, .sentinel, .pinned, .pinned, .pinned], laidTests := true, laidLooks := .later }
def FnSubListsCardSaid : Prop := Claim7.holds Tryz.pinned (.plain (OpenSpec.ofChange fnSubListsSpec)) fnSubListsCard

/-- THE TIED CARD OF 'laws.FnSlice'. -/
def fnSliceCard : Claim7 := { stood := { row := fnSliceRow, standIns := [], harness := (true, "30191c2a7c726e2f405ce39ebb79992364e35cfd1b0b8cd5f1b30d31dc90deb9"), looks := true }, kinds := [], alts := [], laidByText := true, laidKinds := [.data, .data, .widerDeep, .widerDeep, .data, .data, .data, .data, .data, .data, .sentinel, .sentinel, .pinned, .pinned, .pinned], laidTests := true, laidLooks := .later }
def FnSliceCardSaid : Prop := Claim7.holds Tryz.pinned (.plain (OpenSpec.ofChange fnSliceSpec)) fnSliceCard

/-- THE SECOND FORM's CARD OF 'laws.FnCompareLists'. -/
def fnCompareListsUptoCard : Claim7 := { stood := { row := fnCompareListsUptoRow, standIns := [], harness := (true, "30191c2a7c726e2f405ce39ebb79992364e35cfd1b0b8cd5f1b30d31dc90deb9"), looks := true }, kinds := [], alts := [], laidByText := true, laidKinds := [.data, .data, .widerDeep, .widerDeep, .data, .data, .data, .data, .data, .data, .sentinel, .sentinel, .pinned, .pinned, .pinned], laidTests := true, laidLooks := .later }
def FnCompareListsUptoCardSaid : Prop := Claim7.holds Tryz.pinned (.plain (OpenSpec.upto fnCompareListsSpec)) fnCompareListsUptoCard

/-- THE SECOND FORM's CARD OF 'laws.FnContainsAll'. -/
def fnContainsAllUptoCard : Claim7 := { stood := { row := fnContainsAllUptoRow, standIns := [], harness := (true, "30191c2a7c726e2f405ce39ebb79992364e35cfd1b0b8cd5f1b30d31dc90deb9"), looks := true }, kinds := [], alts := [], laidByText := true, laidKinds := [.data, .data, .widerDeep, .widerDeep, .data, .data, .data, .data, .data, .data, .sentinel, .sentinel, .pinned, .pinned, .pinned], laidTests := true, laidLooks := .later }
def FnContainsAllUptoCardSaid : Prop := Claim7.holds Tryz.pinned (.plain (OpenSpec.upto fnContainsAllSpec)) fnContainsAllUptoCard

/-- THE SECOND FORM's CARD OF 'laws.FnContainsSome'. -/
def fnContainsSomeUptoCard : Claim7 := { stood := { row := fnContainsSomeUptoRow, standIns := [], harness := (true, "30191c2a7c726e2f405ce39ebb79992364e35cfd1b0b8cd5f1b30d31dc90deb9"), looks := true }, kinds := [], alts := [], laidByText := true, laidKinds := [.data, .data, .widerDeep, .widerDeep, .data, .data, .data, .data, .data, .data, .sentinel, .sentinel, .pinned, .pinned, .pinned], laidTests := true, laidLooks := .later }
def FnContainsSomeUptoCardSaid : Prop := Claim7.holds Tryz.pinned (.plain (OpenSpec.upto fnContainsSomeSpec)) fnContainsSomeUptoCard

/-- THE SECOND FORM's CARD OF 'laws.FnContainsKeys'. -/
def fnContainsKeysUptoCard : Claim7 := { stood := { row := fnContainsKeysUptoRow, standIns := [], harness := (true, "30191c2a7c726e2f405ce39ebb79992364e35cfd1b0b8cd5f1b30d31dc90deb9"), looks := true }, kinds := [], alts := [], laidByText := true, laidKinds := [.data, .data, .widerDeep, .widerDeep, .data, .data, .data, .data, .data, .data, .sentinel, .sentinel, .pinned, .pinned, .pinned], laidTests := true, laidLooks := .later }
def FnContainsKeysUptoCardSaid : Prop := Claim7.holds Tryz.pinned (.plain (OpenSpec.upto fnContainsKeysSpec)) fnContainsKeysUptoCard

/-- THE SECOND FORM's CARD OF 'laws.FnContainsSlice'. -/
def fnContainsSliceUptoCard : Claim7 := { stood := { row := fnContainsSliceUptoRow, standIns := [], harness := (true, "30191c2a7c726e2f405ce39ebb79992364e35cfd1b0b8cd5f1b30d31dc90deb9"), looks := true }, kinds := [], alts := [], laidByText := true, laidKinds := [.data, .data, .widerDeep, .widerDeep, .data, .data, .data, .data, .data, .data, .sentinel, .sentinel, .pinned, .pinned, .pinned], laidTests := true, laidLooks := .later }
def FnContainsSliceUptoCardSaid : Prop := Claim7.holds Tryz.pinned (.plain (OpenSpec.upto fnContainsSliceSpec)) fnContainsSliceUptoCard

/-- THE SECOND FORM's CARD OF 'laws.FnContainsMerge'. -/
def fnContainsMergeUptoCard : Claim7 := { stood := { row := fnContainsMergeUptoRow, standIns := [], harness := (true, "30191c2a7c726e2f405ce39ebb79992364e35cfd1b0b8cd5f1b30d31dc90deb9"), looks := true }, kinds := [], alts := [], laidByText := true, laidKinds := [.data, .data, .widerDeep, .widerDeep, .data, .data, .data, .data, .data, .data, .sentinel, .sentinel, .pinned, .pinned, .pinned], laidTests := true, laidLooks := .later }
def FnContainsMergeUptoCardSaid : Prop := Claim7.holds Tryz.pinned (.plain (OpenSpec.upto fnContainsMergeSpec)) fnContainsMergeUptoCard

/-- THE SECOND FORM's CARD OF 'laws.FnAdd'. -/
def fnAddUptoCard : Claim7 := { stood := { row := fnAddUptoRow, standIns := [], harness := (true, "30191c2a7c726e2f405ce39ebb79992364e35cfd1b0b8cd5f1b30d31dc90deb9"), looks := true }, kinds := [], alts := [], laidByText := true, laidKinds := [.data, .data, .widerDeep, .widerDeep, .data, .data, .data, .data, .data, .data, .sentinel, .sentinel, .pinned, .pinned, .pinned], laidTests := true, laidLooks := .later }
def FnAddUptoCardSaid : Prop := Claim7.holds Tryz.pinned (.plain (OpenSpec.upto fnAddSpec)) fnAddUptoCard

/-- THE SECOND FORM's CARD OF 'laws.FnSubLists'. -/
def fnSubListsUptoCard : Claim7 := { stood := { row := fnSubListsUptoRow, standIns := [], harness := (true, "30191c2a7c726e2f405ce39ebb79992364e35cfd1b0b8cd5f1b30d31dc90deb9"), looks := true }, kinds := [], alts := [], laidByText := true, laidKinds := [.data, .data, .widerDeep, .widerDeep, .data, .data, .data, .data, .data, .data, .sentinel, .sentinel, .pinned, .pinned, .pinned], laidTests := true, laidLooks := .later }
def FnSubListsUptoCardSaid : Prop := Claim7.holds Tryz.pinned (.plain (OpenSpec.upto fnSubListsSpec)) fnSubListsUptoCard

/-- THE SECOND FORM's CARD OF 'laws.FnSlice'. -/
def fnSliceUptoCard : Claim7 := { stood := { row := fnSliceUptoRow, standIns := [], harness := (true, "30191c2a7c726e2f405ce39ebb79992364e35cfd1b0b8cd5f1b30d31dc90deb9"), looks := true }, kinds := [], alts := [], laidByText := true, laidKinds := [.data, .data, .widerDeep, .widerDeep, .data, .data, .data, .data, .data, .data, .sentinel, .sentinel, .pinned, .pinned, .pinned], laidTests := true, laidLooks := .later }
def FnSliceUptoCardSaid : Prop := Claim7.holds Tryz.pinned (.plain (OpenSpec.upto fnSliceSpec)) fnSliceUptoCard
end Rows
end Go.Proofs.YtcoahpcjhhnkkaaGreatDoor
