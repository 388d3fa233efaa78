import Derived.Test.YtdcgjfiknknjfaaGreatDoorEnvJ
import Derived.Test.YtdcgjfiknknjfaaGreatDoorCards
namespace Go.Proofs.YtdcgjfiknknjfaaGreatDoor.fnCompareBackFacts
open Go
set_option maxRecDepth 100000
theorem j0 : (Rows.fnCompareBackRow.wf (OpenSpec.ofChange Rows.fnCompareBackSpec)) = true := by kernel_rfl
theorem j1 : (laidOutB Tryz.prog) = true := by kernel_rfl
theorem j2 : (mapsRowed Tryz.prog) = true := by kernel_rfl
theorem j3 : (Tryz.f9.params.all (Tryz.prog.readableRec ·)) = true := by kernel_rfl
theorem j4 : (namedTie Tryz.prog Rows.fnCompareBackRow.named Rows.fnCompareBackSpec.vars) = true := by kernel_rfl
theorem j5 : ((Rows.fnCompareBackRow.stops == [])) = true := by kernel_rfl
theorem j6 : ((Tryz.prog.stops == [])) = true := by kernel_rfl
theorem j7 : ((Rows.fnCompareBackRow.knobs == [])) = true := by kernel_rfl
theorem j8 : ((Tryz.prog.stopKnobs == [])) = true := by kernel_rfl
theorem j9 : ((Rows.fnCompareBackRow.inPlace == Tryz.prog.inPlace 9)) = true := by kernel_rfl
theorem j10 : ((Rows.fnCompareBackRow.unfollowed == Tryz.prog.unfollowed 9)) = true := by kernel_rfl
theorem j11 : ((Rows.fnCompareBackRow.recurses == Tryz.prog.recurses 9)) = true := by kernel_rfl
theorem j12 : ((Rows.fnCompareBackRow.named == Tryz.prog.varsNamed 9)) = true := by kernel_rfl
theorem j13 : ((Rows.fnCompareBackRow.maps == (Tryz.f9.params.toList ++ Rows.fnCompareBackSpec.plain.varTypes Tryz.prog).any (Tryz.prog.mapsRec ·))) = true := by kernel_rfl
theorem j14 : ((Rows.fnCompareBackRow.ifaces == (Tryz.f9.params.toList ++ Rows.fnCompareBackSpec.plain.varTypes Tryz.prog).any (Tryz.prog.ifacesRec ·))) = true := by kernel_rfl
theorem j15 : ((Rows.fnCompareBackRow.mapsOut == Tryz.prog.mapsAmong Tryz.f9.resultTypes.toList)) = true := by kernel_rfl
theorem j16 : ((Rows.fnCompareBackRow.loops == (Tryz.f9.params.toList ++ Rows.fnCompareBackSpec.plain.varTypes Tryz.prog).any (Tryz.prog.loopsFrom ·))) = true := by kernel_rfl
theorem j17 : ((Rows.fnCompareBackRow.wideKeys == (Tryz.f9.params.toList ++ Rows.fnCompareBackSpec.plain.varTypes Tryz.prog ++ Tryz.f9.resultTypes.toList).any (Tryz.prog.wideKeysFrom ·))) = true := by kernel_rfl
theorem j18 : (Rows.fnCompareBackSpec.vars.all (Tryz.prog.varReadable ·)) = true := by kernel_rfl
theorem j19 : (Tryz.f9.resultTypes.all (fun t => Tryz.prog.readableRec t && decide (t < Tryz.prog.types.size))) = true := by kernel_rfl
theorem j20 : ((Rows.fnCompareBackRow.ifacesOut == Tryz.f9.resultTypes.toList.any (Tryz.prog.ifacesRec ·))) = true := by kernel_rfl
theorem j21 : ((Rows.fnCompareBackRow.loopsOut == Tryz.f9.resultTypes.toList.any (Tryz.prog.loopsFrom ·))) = true := by kernel_rfl
theorem j22 : ((Rows.fnCompareBackRow.plainKeys == Tryz.prog.plainKeys)) = true := by kernel_rfl
theorem j23 : (Rows.fnCompareBackRow.shortTexts.isNone) = true := by kernel_rfl
theorem j24 : (Tryz.prog.stopsHeard) = true := by kernel_rfl
theorem j25 : (Tryz.prog.mayEnter) = true := by kernel_rfl
theorem j26 : ((Rows.fnCompareBackRow.lifted == Tryz.prog.liftsFinal)) = true := by kernel_rfl
theorem j27 : ((Tryz.prog.make == some Rows.fnCompareBackRow.make)) = true := by kernel_rfl
theorem j28 : ((Rows.fnCompareBackRow.kinds == (if Rows.fnCompareBackRow.domain.isEmpty then [] else Tryz.f9.params.toList.map fun t => match Tryz.prog.underlying t with | some (.int k) => some k | _ => none))) = true := by kernel_rfl
theorem j29 : ((Rows.fnCompareBackRow.pinned == Rows.fnCompareBackRow.pinnedBy)) = true := by kernel_rfl
theorem j30 : ((Rows.fnCompareBackRow.veiled == (Tryz.f9.params.toList ++ Rows.fnCompareBackSpec.plain.varTypes Tryz.prog ++ Tryz.f9.resultTypes.toList).any (Tryz.prog.veiledRec ·))) = true := by kernel_rfl
theorem j31 : (Rows.fnCompareBackRow.veiledFits Tryz.prog Tryz.f9.params.toList (Tryz.f9.params.toList ++ Rows.fnCompareBackSpec.plain.varTypes Tryz.prog ++ Tryz.f9.resultTypes.toList)) = true := by kernel_rfl
theorem all : joinedFacts Tryz.pinned.checked.prog 9 Tryz.f9 Rows.fnCompareBackSpec Rows.fnCompareBackRow = true :=
  joined_of (P := Tryz.prog) j0 j1 j2 j3 j4 j5 j6 j7 j8 j9 j10 j11 j12 j13 j14 j15 j16 j17 j18 j19 j20 j21 j22 j23 j24 j25 j26 j27 j28 j29 j30 j31
end Go.Proofs.YtdcgjfiknknjfaaGreatDoor.fnCompareBackFacts
