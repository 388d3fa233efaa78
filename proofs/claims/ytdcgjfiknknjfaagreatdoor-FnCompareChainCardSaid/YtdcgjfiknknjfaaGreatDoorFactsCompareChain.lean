import Derived.Test.YtdcgjfiknknjfaaGreatDoorEnvJ
import Derived.Test.YtdcgjfiknknjfaaGreatDoorCards
namespace Go.Proofs.YtdcgjfiknknjfaaGreatDoor.fnCompareChainFacts
open Go
set_option maxRecDepth 100000
theorem j0 : (Rows.fnCompareChainRow.wf (OpenSpec.ofChange Rows.fnCompareChainSpec)) = true := by kernel_rfl
theorem j1 : (laidOutB Tryz.prog) = true := by kernel_rfl
theorem j2 : (mapsRowed Tryz.prog) = true := by kernel_rfl
theorem j3 : (Tryz.f10.params.all (Tryz.prog.readableRec ·)) = true := by kernel_rfl
theorem j4 : (namedTie Tryz.prog Rows.fnCompareChainRow.named Rows.fnCompareChainSpec.vars) = true := by kernel_rfl
theorem j5 : ((Rows.fnCompareChainRow.stops == [])) = true := by kernel_rfl
theorem j6 : ((Tryz.prog.stops == [])) = true := by kernel_rfl
theorem j7 : ((Rows.fnCompareChainRow.knobs == [])) = true := by kernel_rfl
theorem j8 : ((Tryz.prog.stopKnobs == [])) = true := by kernel_rfl
theorem j9 : ((Rows.fnCompareChainRow.inPlace == Tryz.prog.inPlace 10)) = true := by kernel_rfl
theorem j10 : ((Rows.fnCompareChainRow.unfollowed == Tryz.prog.unfollowed 10)) = true := by kernel_rfl
theorem j11 : ((Rows.fnCompareChainRow.recurses == Tryz.prog.recurses 10)) = true := by kernel_rfl
theorem j12 : ((Rows.fnCompareChainRow.named == Tryz.prog.varsNamed 10)) = true := by kernel_rfl
theorem j13 : ((Rows.fnCompareChainRow.maps == (Tryz.f10.params.toList ++ Rows.fnCompareChainSpec.plain.varTypes Tryz.prog).any (Tryz.prog.mapsRec ·))) = true := by kernel_rfl
theorem j14 : ((Rows.fnCompareChainRow.ifaces == (Tryz.f10.params.toList ++ Rows.fnCompareChainSpec.plain.varTypes Tryz.prog).any (Tryz.prog.ifacesRec ·))) = true := by kernel_rfl
theorem j15 : ((Rows.fnCompareChainRow.mapsOut == Tryz.prog.mapsAmong Tryz.f10.resultTypes.toList)) = true := by kernel_rfl
theorem j16 : ((Rows.fnCompareChainRow.loops == (Tryz.f10.params.toList ++ Rows.fnCompareChainSpec.plain.varTypes Tryz.prog).any (Tryz.prog.loopsFrom ·))) = true := by kernel_rfl
theorem j17 : ((Rows.fnCompareChainRow.wideKeys == (Tryz.f10.params.toList ++ Rows.fnCompareChainSpec.plain.varTypes Tryz.prog ++ Tryz.f10.resultTypes.toList).any (Tryz.prog.wideKeysFrom ·))) = true := by kernel_rfl
theorem j18 : (Rows.fnCompareChainSpec.vars.all (Tryz.prog.varReadable ·)) = true := by kernel_rfl
theorem j19 : (Tryz.f10.resultTypes.all (fun t => Tryz.prog.readableRec t && decide (t < Tryz.prog.types.size))) = true := by kernel_rfl
theorem j20 : ((Rows.fnCompareChainRow.ifacesOut == Tryz.f10.resultTypes.toList.any (Tryz.prog.ifacesRec ·))) = true := by kernel_rfl
theorem j21 : ((Rows.fnCompareChainRow.loopsOut == Tryz.f10.resultTypes.toList.any (Tryz.prog.loopsFrom ·))) = true := by kernel_rfl
theorem j22 : ((Rows.fnCompareChainRow.plainKeys == Tryz.prog.plainKeys)) = true := by kernel_rfl
theorem j23 : (Rows.fnCompareChainRow.shortTexts.isNone) = true := by kernel_rfl
theorem j24 : (Tryz.prog.stopsHeard) = true := by kernel_rfl
theorem j25 : (Tryz.prog.mayEnter) = true := by kernel_rfl
theorem j26 : ((Rows.fnCompareChainRow.lifted == Tryz.prog.liftsFinal)) = true := by kernel_rfl
theorem j27 : ((Tryz.prog.make == some Rows.fnCompareChainRow.make)) = true := by kernel_rfl
theorem j28 : ((Rows.fnCompareChainRow.kinds == (if Rows.fnCompareChainRow.domain.isEmpty then [] else Tryz.f10.params.toList.map fun t => match Tryz.prog.underlying t with | some (.int k) => some k | _ => none))) = true := by kernel_rfl
theorem j29 : ((Rows.fnCompareChainRow.pinned == Rows.fnCompareChainRow.pinnedBy)) = true := by kernel_rfl
theorem j30 : ((Rows.fnCompareChainRow.veiled == (Tryz.f10.params.toList ++ Rows.fnCompareChainSpec.plain.varTypes Tryz.prog ++ Tryz.f10.resultTypes.toList).any (Tryz.prog.veiledRec ·))) = true := by kernel_rfl
theorem j31 : (Rows.fnCompareChainRow.veiledFits Tryz.prog Tryz.f10.params.toList (Tryz.f10.params.toList ++ Rows.fnCompareChainSpec.plain.varTypes Tryz.prog ++ Tryz.f10.resultTypes.toList)) = true := by kernel_rfl
theorem all : joinedFacts Tryz.pinned.checked.prog 10 Tryz.f10 Rows.fnCompareChainSpec Rows.fnCompareChainRow = true :=
  joined_of (P := Tryz.prog) j0 j1 j2 j3 j4 j5 j6 j7 j8 j9 j10 j11 j12 j13 j14 j15 j16 j17 j18 j19 j20 j21 j22 j23 j24 j25 j26 j27 j28 j29 j30 j31
end Go.Proofs.YtdcgjfiknknjfaaGreatDoor.fnCompareChainFacts
