/-
  DERIVED. GIVEN WITH THE SEED: THE CARDS: each row of YtdcgjfiknknjfaaGreatDoorRows.lean that lists a variable, with what it lists TIED to the program's text (the seventh form; the later family's looks); each row that meets fmt, with fmt's text TOLD by the authors' own Lean function (tested against real Go, not proved from fmt's source: count such statements apart). THE CARD IS WHAT COUNTS. Prove the row's statement (the work); the ties are given (YtdcgjfiknknjfaaGreatDoorTie.lean); close each card by the builder's one call (the guide's Derived/Test/ToyasCard.lean, 'card_holds'). Laid BY PROGRAM, IN A SANDBOX (cutbox-door.mjs). By AI agents, Wed Nov 11 2026. No macro, syntax, notation, axiom, sorry.
-/
import Derived.Test.YtdcgjfiknknjfaaGreatDoorRows
import GoSem.ClaimSeven
namespace Go.Proofs.YtdcgjfiknknjfaaGreatDoor
namespace Rows

/-- THE TIED CARD OF 'laws.FnAddNumbers'. -/
def fnAddNumbersCard : Claim7 := { stood := { row := fnAddNumbersRow, standIns := [], harness := (true, "8628c70b6cf777e7c49a60e22d85db1c516a145934d6a57d6cbaf7bd9297f334"), looks := true }, kinds := [], alts := [], laidByText := true, laidKinds := [.data, .data, .widerDeep, .widerDeep, .data, .data, .data, .data, .data, .data, .sentinel, .sentinel, .pinned, .pinned, .pinned], laidTests := true, laidLooks := .later }
def FnAddNumbersCardSaid : Prop := Claim7.holds Tryz.pinned (.plain (OpenSpec.ofChange fnAddNumbersSpec)) fnAddNumbersCard

/-- THE TIED CARD OF 'laws.FnSubBack'. -/
def fnSubBackCard : Claim7 := { stood := { row := fnSubBackRow, standIns := [], harness := (true, "8628c70b6cf777e7c49a60e22d85db1c516a145934d6a57d6cbaf7bd9297f334"), looks := true }, kinds := [], alts := [], laidByText := true, laidKinds := [.data, .data, .widerDeep, .widerDeep, .data, .data, .data, .data, .data, .data, .sentinel, .sentinel, .pinned, .pinned, .pinned], laidTests := true, laidLooks := .later }
def FnSubBackCardSaid : Prop := Claim7.holds Tryz.pinned (.plain (OpenSpec.ofChange fnSubBackSpec)) fnSubBackCard

/-- THE TIED CARD OF 'laws.FnNegateSub'. -/
def fnNegateSubCard : Claim7 := { stood := { row := fnNegateSubRow, standIns := [], harness := (true, "8628c70b6cf777e7c49a60e22d85db1c516a145934d6a57d6cbaf7bd9297f334"), looks := true }, kinds := [], alts := [], laidByText := true, laidKinds := [.data, .data, .widerDeep, .widerDeep, .data, .data, .data, .data, .data, .data, .sentinel, .sentinel, .pinned, .pinned, .pinned], laidTests := true, laidLooks := .later }
def FnNegateSubCardSaid : Prop := Claim7.holds Tryz.pinned (.plain (OpenSpec.ofChange fnNegateSubSpec)) fnNegateSubCard

/-- THE TIED CARD OF 'laws.FnContainsEqual'. -/
def fnContainsEqualCard : Claim7 := { stood := { row := fnContainsEqualRow, standIns := [], harness := (true, "8628c70b6cf777e7c49a60e22d85db1c516a145934d6a57d6cbaf7bd9297f334"), looks := true }, kinds := [], alts := [], laidByText := true, laidKinds := [.data, .data, .widerDeep, .widerDeep, .data, .data, .data, .data, .data, .data, .sentinel, .sentinel, .pinned, .pinned, .pinned], laidTests := true, laidLooks := .later }
def FnContainsEqualCardSaid : Prop := Claim7.holds Tryz.pinned (.plain (OpenSpec.ofChange fnContainsEqualSpec)) fnContainsEqualCard

/-- THE TIED CARD OF 'laws.FnTypeFirst'. -/
def fnTypeFirstCard : Claim7 := { stood := { row := fnTypeFirstRow, standIns := [], harness := (true, "8628c70b6cf777e7c49a60e22d85db1c516a145934d6a57d6cbaf7bd9297f334"), looks := true }, kinds := [], alts := [], laidByText := true, laidKinds := [.data, .data, .widerDeep, .widerDeep, .data, .data, .data, .data, .data, .data, .sentinel, .sentinel, .pinned, .pinned, .pinned], laidTests := true, laidLooks := .later }
def FnTypeFirstCardSaid : Prop := Claim7.holds Tryz.pinned (.plain (OpenSpec.ofChange fnTypeFirstSpec)) fnTypeFirstCard

/-- THE TIED CARD OF 'laws.FnCompare'. -/
def fnCompareCard : Claim7 := { stood := { row := fnCompareRow, standIns := [], harness := (true, "8628c70b6cf777e7c49a60e22d85db1c516a145934d6a57d6cbaf7bd9297f334"), looks := true }, kinds := [], alts := [], laidByText := true, laidKinds := [.data, .data, .widerDeep, .widerDeep, .data, .data, .data, .data, .data, .data, .sentinel, .sentinel, .pinned, .pinned, .pinned], laidTests := true, laidLooks := .later }
def FnCompareCardSaid : Prop := Claim7.holds Tryz.pinned (.plain (OpenSpec.ofChange fnCompareSpec)) fnCompareCard

/-- THE TIED CARD OF 'laws.FnCompareBack'. -/
def fnCompareBackCard : Claim7 := { stood := { row := fnCompareBackRow, standIns := [], harness := (true, "8628c70b6cf777e7c49a60e22d85db1c516a145934d6a57d6cbaf7bd9297f334"), looks := true }, kinds := [], alts := [], laidByText := true, laidKinds := [.data, .data, .widerDeep, .widerDeep, .data, .data, .data, .data, .data, .data, .sentinel, .sentinel, .pinned, .pinned, .pinned], laidTests := true, laidLooks := .later }
def FnCompareBackCardSaid : Prop := Claim7.holds Tryz.pinned (.plain (OpenSpec.ofChange fnCompareBackSpec)) fnCompareBackCard

/-- THE TIED CARD OF 'laws.FnCompareChain'. -/
def fnCompareChainCard : Claim7 := { stood := { row := fnCompareChainRow, standIns := [], harness := (true, "8628c70b6cf777e7c49a60e22d85db1c516a145934d6a57d6cbaf7bd9297f334"), looks := true }, kinds := [], alts := [], laidByText := true, laidKinds := [.data, .data, .widerDeep, .widerDeep, .data, .data, .data, .data, .data, .data, .sentinel, .sentinel, .pinned, .pinned, .pinned], laidTests := true, laidLooks := .later }
def FnCompareChainCardSaid : Prop := Claim7.holds Tryz.pinned (.plain (OpenSpec.ofChange fnCompareChainSpec)) fnCompareChainCard

/-- THE TIED CARD OF 'laws.FnCompareLists'. -/
def fnCompareListsCard : Claim7 := { stood := { row := fnCompareListsRow, standIns := [], harness := (true, "8628c70b6cf777e7c49a60e22d85db1c516a145934d6a57d6cbaf7bd9297f334"), looks := true }, kinds := [], alts := [], laidByText := true, laidKinds := [.data, .data, .widerDeep, .widerDeep, .data, .data, .data, .data, .data, .data, .sentinel, .sentinel, .pinned, .pinned, .pinned], laidTests := true, laidLooks := .later }
def FnCompareListsCardSaid : Prop := Claim7.holds Tryz.pinned (.plain (OpenSpec.ofChange fnCompareListsSpec)) fnCompareListsCard

/-- THE TIED CARD OF 'laws.FnComparisons'. -/
def fnComparisonsCard : Claim7 := { stood := { row := fnComparisonsRow, standIns := [], harness := (true, "8628c70b6cf777e7c49a60e22d85db1c516a145934d6a57d6cbaf7bd9297f334"), looks := true }, kinds := [], alts := [], laidByText := true, laidKinds := [.data, .data, .widerDeep, .widerDeep, .data, .data, .data, .data, .data, .data, .sentinel, .sentinel, .pinned, .pinned, .pinned], laidTests := true, laidLooks := .later }
def FnComparisonsCardSaid : Prop := Claim7.holds Tryz.pinned (.plain (OpenSpec.ofChange fnComparisonsSpec)) fnComparisonsCard

/-- THE TIED CARD OF 'laws.FnComparisonsAgree'. -/
def fnComparisonsAgreeCard : Claim7 := { stood := { row := fnComparisonsAgreeRow, standIns := [], harness := (true, "8628c70b6cf777e7c49a60e22d85db1c516a145934d6a57d6cbaf7bd9297f334"), looks := true }, kinds := [], alts := [], laidByText := true, laidKinds := [.data, .data, .widerDeep, .widerDeep, .data, .data, .data, .data, .data, .data, .sentinel, .sentinel, .pinned, .pinned, .pinned], laidTests := true, laidLooks := .later }
def FnComparisonsAgreeCardSaid : Prop := Claim7.holds Tryz.pinned (.plain (OpenSpec.ofChange fnComparisonsAgreeSpec)) fnComparisonsAgreeCard

/-- THE TIED CARD OF 'laws.FnAddNull'. -/
def fnAddNullCard : Claim7 := { stood := { row := fnAddNullRow, standIns := [], harness := (true, "8628c70b6cf777e7c49a60e22d85db1c516a145934d6a57d6cbaf7bd9297f334"), looks := true }, kinds := [], alts := [], laidByText := true, laidKinds := [.data, .data, .widerDeep, .widerDeep, .data, .data, .data, .data, .data, .data, .sentinel, .sentinel, .pinned, .pinned, .pinned], laidTests := true, laidLooks := .later }
def FnAddNullCardSaid : Prop := Claim7.holds Tryz.pinned (.plain (OpenSpec.ofChange fnAddNullSpec)) fnAddNullCard

/-- THE SECOND FORM's CARD OF 'laws.FnAddNumbers'. -/
def fnAddNumbersUptoCard : Claim7 := { stood := { row := fnAddNumbersUptoRow, standIns := [], harness := (true, "8628c70b6cf777e7c49a60e22d85db1c516a145934d6a57d6cbaf7bd9297f334"), looks := true }, kinds := [], alts := [], laidByText := true, laidKinds := [.data, .data, .widerDeep, .widerDeep, .data, .data, .data, .data, .data, .data, .sentinel, .sentinel, .pinned, .pinned, .pinned], laidTests := true, laidLooks := .later }
def FnAddNumbersUptoCardSaid : Prop := Claim7.holds Tryz.pinned (.plain (OpenSpec.upto fnAddNumbersSpec)) fnAddNumbersUptoCard

/-- THE SECOND FORM's CARD OF 'laws.FnSubBack'. -/
def fnSubBackUptoCard : Claim7 := { stood := { row := fnSubBackUptoRow, standIns := [], harness := (true, "8628c70b6cf777e7c49a60e22d85db1c516a145934d6a57d6cbaf7bd9297f334"), looks := true }, kinds := [], alts := [], laidByText := true, laidKinds := [.data, .data, .widerDeep, .widerDeep, .data, .data, .data, .data, .data, .data, .sentinel, .sentinel, .pinned, .pinned, .pinned], laidTests := true, laidLooks := .later }
def FnSubBackUptoCardSaid : Prop := Claim7.holds Tryz.pinned (.plain (OpenSpec.upto fnSubBackSpec)) fnSubBackUptoCard

/-- THE SECOND FORM's CARD OF 'laws.FnNegateSub'. -/
def fnNegateSubUptoCard : Claim7 := { stood := { row := fnNegateSubUptoRow, standIns := [], harness := (true, "8628c70b6cf777e7c49a60e22d85db1c516a145934d6a57d6cbaf7bd9297f334"), looks := true }, kinds := [], alts := [], laidByText := true, laidKinds := [.data, .data, .widerDeep, .widerDeep, .data, .data, .data, .data, .data, .data, .sentinel, .sentinel, .pinned, .pinned, .pinned], laidTests := true, laidLooks := .later }
def FnNegateSubUptoCardSaid : Prop := Claim7.holds Tryz.pinned (.plain (OpenSpec.upto fnNegateSubSpec)) fnNegateSubUptoCard

/-- THE SECOND FORM's CARD OF 'laws.FnContainsEqual'. -/
def fnContainsEqualUptoCard : Claim7 := { stood := { row := fnContainsEqualUptoRow, standIns := [], harness := (true, "8628c70b6cf777e7c49a60e22d85db1c516a145934d6a57d6cbaf7bd9297f334"), looks := true }, kinds := [], alts := [], laidByText := true, laidKinds := [.data, .data, .widerDeep, .widerDeep, .data, .data, .data, .data, .data, .data, .sentinel, .sentinel, .pinned, .pinned, .pinned], laidTests := true, laidLooks := .later }
def FnContainsEqualUptoCardSaid : Prop := Claim7.holds Tryz.pinned (.plain (OpenSpec.upto fnContainsEqualSpec)) fnContainsEqualUptoCard

/-- THE SECOND FORM's CARD OF 'laws.FnTypeFirst'. -/
def fnTypeFirstUptoCard : Claim7 := { stood := { row := fnTypeFirstUptoRow, standIns := [], harness := (true, "8628c70b6cf777e7c49a60e22d85db1c516a145934d6a57d6cbaf7bd9297f334"), looks := true }, kinds := [], alts := [], laidByText := true, laidKinds := [.data, .data, .widerDeep, .widerDeep, .data, .data, .data, .data, .data, .data, .sentinel, .sentinel, .pinned, .pinned, .pinned], laidTests := true, laidLooks := .later }
def FnTypeFirstUptoCardSaid : Prop := Claim7.holds Tryz.pinned (.plain (OpenSpec.upto fnTypeFirstSpec)) fnTypeFirstUptoCard

/-- THE SECOND FORM's CARD OF 'laws.FnCompare'. -/
def fnCompareUptoCard : Claim7 := { stood := { row := fnCompareUptoRow, standIns := [], harness := (true, "8628c70b6cf777e7c49a60e22d85db1c516a145934d6a57d6cbaf7bd9297f334"), looks := true }, kinds := [], alts := [], laidByText := true, laidKinds := [.data, .data, .widerDeep, .widerDeep, .data, .data, .data, .data, .data, .data, .sentinel, .sentinel, .pinned, .pinned, .pinned], laidTests := true, laidLooks := .later }
def FnCompareUptoCardSaid : Prop := Claim7.holds Tryz.pinned (.plain (OpenSpec.upto fnCompareSpec)) fnCompareUptoCard

/-- THE SECOND FORM's CARD OF 'laws.FnCompareBack'. -/
def fnCompareBackUptoCard : Claim7 := { stood := { row := fnCompareBackUptoRow, standIns := [], harness := (true, "8628c70b6cf777e7c49a60e22d85db1c516a145934d6a57d6cbaf7bd9297f334"), looks := true }, kinds := [], alts := [], laidByText := true, laidKinds := [.data, .data, .widerDeep, .widerDeep, .data, .data, .data, .data, .data, .data, .sentinel, .sentinel, .pinned, .pinned, .pinned], laidTests := true, laidLooks := .later }
def FnCompareBackUptoCardSaid : Prop := Claim7.holds Tryz.pinned (.plain (OpenSpec.upto fnCompareBackSpec)) fnCompareBackUptoCard

/-- THE SECOND FORM's CARD OF 'laws.FnCompareChain'. -/
def fnCompareChainUptoCard : Claim7 := { stood := { row := fnCompareChainUptoRow, standIns := [], harness := (true, "8628c70b6cf777e7c49a60e22d85db1c516a145934d6a57d6cbaf7bd9297f334"), looks := true }, kinds := [], alts := [], laidByText := true, laidKinds := [.data, .data, .widerDeep, .widerDeep, .data, .data, .data, .data, .data, .data, .sentinel, .sentinel, .pinned, .pinned, .pinned], laidTests := true, laidLooks := .later }
def FnCompareChainUptoCardSaid : Prop := Claim7.holds Tryz.pinned (.plain (OpenSpec.upto fnCompareChainSpec)) fnCompareChainUptoCard

/-- THE SECOND FORM's CARD OF 'laws.FnCompareLists'. -/
def fnCompareListsUptoCard : Claim7 := { stood := { row := fnCompareListsUptoRow, standIns := [], harness := (true, "8628c70b6cf777e7c49a60e22d85db1c516a145934d6a57d6cbaf7bd9297f334"), looks := true }, kinds := [], alts := [], laidByText := true, laidKinds := [.data, .data, .widerDeep, .widerDeep, .data, .data, .data, .data, .data, .data, .sentinel, .sentinel, .pinned, .pinned, .pinned], laidTests := true, laidLooks := .later }
def FnCompareListsUptoCardSaid : Prop := Claim7.holds Tryz.pinned (.plain (OpenSpec.upto fnCompareListsSpec)) fnCompareListsUptoCard

/-- THE SECOND FORM's CARD OF 'laws.FnComparisons'. -/
def fnComparisonsUptoCard : Claim7 := { stood := { row := fnComparisonsUptoRow, standIns := [], harness := (true, "8628c70b6cf777e7c49a60e22d85db1c516a145934d6a57d6cbaf7bd9297f334"), looks := true }, kinds := [], alts := [], laidByText := true, laidKinds := [.data, .data, .widerDeep, .widerDeep, .data, .data, .data, .data, .data, .data, .sentinel, .sentinel, .pinned, .pinned, .pinned], laidTests := true, laidLooks := .later }
def FnComparisonsUptoCardSaid : Prop := Claim7.holds Tryz.pinned (.plain (OpenSpec.upto fnComparisonsSpec)) fnComparisonsUptoCard

/-- THE SECOND FORM's CARD OF 'laws.FnComparisonsAgree'. -/
def fnComparisonsAgreeUptoCard : Claim7 := { stood := { row := fnComparisonsAgreeUptoRow, standIns := [], harness := (true, "8628c70b6cf777e7c49a60e22d85db1c516a145934d6a57d6cbaf7bd9297f334"), looks := true }, kinds := [], alts := [], laidByText := true, laidKinds := [.data, .data, .widerDeep, .widerDeep, .data, .data, .data, .data, .data, .data, .sentinel, .sentinel, .pinned, .pinned, .pinned], laidTests := true, laidLooks := .later }
def FnComparisonsAgreeUptoCardSaid : Prop := Claim7.holds Tryz.pinned (.plain (OpenSpec.upto fnComparisonsAgreeSpec)) fnComparisonsAgreeUptoCard

/-- THE SECOND FORM's CARD OF 'laws.FnAddNull'. -/
def fnAddNullUptoCard : Claim7 := { stood := { row := fnAddNullUptoRow, standIns := [], harness := (true, "8628c70b6cf777e7c49a60e22d85db1c516a145934d6a57d6cbaf7bd9297f334"), looks := true }, kinds := [], alts := [], laidByText := true, laidKinds := [.data, .data, .widerDeep, .widerDeep, .data, .data, .data, .data, .data, .data, .sentinel, .sentinel, .pinned, .pinned, .pinned], laidTests := true, laidLooks := .later }
def FnAddNullUptoCardSaid : Prop := Claim7.holds Tryz.pinned (.plain (OpenSpec.upto fnAddNullSpec)) fnAddNullUptoCard
end Rows
end Go.Proofs.YtdcgjfiknknjfaaGreatDoor
