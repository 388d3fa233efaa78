import Derived.Test.YtdcgjfiknknjfaaGreatDoorEnvJ
import Derived.Test.YtdcgjfiknknjfaaGreatDoorCards
namespace Go.Proofs.YtdcgjfiknknjfaaGreatDoor.fnSubBackFacts
open Go
set_option maxRecDepth 100000
theorem j0 : (Rows.fnSubBackRow.wf (OpenSpec.ofChange Rows.fnSubBackSpec)) = true := by kernel_rfl
theorem j1 : (laidOutB Tryz.prog) = true := by kernel_rfl
theorem j2 : (mapsRowed Tryz.prog) = true := by kernel_rfl
theorem j3 : (Tryz.f4.params.all (Tryz.prog.readableRec ·)) = true := by kernel_rfl
theorem j4 : (namedTie Tryz.prog Rows.fnSubBackRow.named Rows.fnSubBackSpec.vars) = true := by kernel_rfl
theorem j5 : ((Rows.fnSubBackRow.stops == [])) = true := by kernel_rfl
theorem j6 : ((Tryz.prog.stops == [])) = true := by kernel_rfl
theorem j7 : ((Rows.fnSubBackRow.knobs == [])) = true := by kernel_rfl
theorem j8 : ((Tryz.prog.stopKnobs == [])) = true := by kernel_rfl
theorem j9 : ((Rows.fnSubBackRow.inPlace == Tryz.prog.inPlace 4)) = true := by kernel_rfl
theorem j10 : ((Rows.fnSubBackRow.unfollowed == Tryz.prog.unfollowed 4)) = true := by kernel_rfl
theorem j11 : ((Rows.fnSubBackRow.recurses == Tryz.prog.recurses 4)) = true := by kernel_rfl
theorem j12 : ((Rows.fnSubBackRow.named == Tryz.prog.varsNamed 4)) = true := by kernel_rfl
theorem j13 : ((Rows.fnSubBackRow.maps == (Tryz.f4.params.toList ++ Rows.fnSubBackSpec.plain.varTypes Tryz.prog).any (Tryz.prog.mapsRec ·))) = true := by kernel_rfl
theorem j14 : ((Rows.fnSubBackRow.ifaces == (Tryz.f4.params.toList ++ Rows.fnSubBackSpec.plain.varTypes Tryz.prog).any (Tryz.prog.ifacesRec ·))) = true := by kernel_rfl
theorem j15 : ((Rows.fnSubBackRow.mapsOut == Tryz.prog.mapsAmong Tryz.f4.resultTypes.toList)) = true := by kernel_rfl
theorem j16 : ((Rows.fnSubBackRow.loops == (Tryz.f4.params.toList ++ Rows.fnSubBackSpec.plain.varTypes Tryz.prog).any (Tryz.prog.loopsFrom ·))) = true := by kernel_rfl
theorem j17 : ((Rows.fnSubBackRow.wideKeys == (Tryz.f4.params.toList ++ Rows.fnSubBackSpec.plain.varTypes Tryz.prog ++ Tryz.f4.resultTypes.toList).any (Tryz.prog.wideKeysFrom ·))) = true := by kernel_rfl
theorem j18 : (Rows.fnSubBackSpec.vars.all (Tryz.prog.varReadable ·)) = true := by kernel_rfl
theorem j19 : (Tryz.f4.resultTypes.all (fun t => Tryz.prog.readableRec t && decide (t < Tryz.prog.types.size))) = true := by kernel_rfl
theorem j20 : ((Rows.fnSubBackRow.ifacesOut == Tryz.f4.resultTypes.toList.any (Tryz.prog.ifacesRec ·))) = true := by kernel_rfl
theorem j21 : ((Rows.fnSubBackRow.loopsOut == Tryz.f4.resultTypes.toList.any (Tryz.prog.loopsFrom ·))) = true := by kernel_rfl
theorem j22 : ((Rows.fnSubBackRow.plainKeys == Tryz.prog.plainKeys)) = true := by kernel_rfl
theorem j23 : (Rows.fnSubBackRow.shortTexts.isNone) = true := by kernel_rfl
theorem j24 : (Tryz.prog.stopsHeard) = true := by kernel_rfl
theorem j25 : (Tryz.prog.mayEnter) = true := by kernel_rfl
theorem j26 : ((Rows.fnSubBackRow.lifted == Tryz.prog.liftsFinal)) = true := by kernel_rfl
theorem j27 : ((Tryz.prog.make == some Rows.fnSubBackRow.make)) = true := by kernel_rfl
theorem j28 : ((Rows.fnSubBackRow.kinds == (if Rows.fnSubBackRow.domain.isEmpty then [] else Tryz.f4.params.toList.map fun t => match Tryz.prog.underlying t with | some (.int k) => some k | _ => none))) = true := by kernel_rfl
theorem j29 : ((Rows.fnSubBackRow.pinned == Rows.fnSubBackRow.pinnedBy)) = true := by kernel_rfl
theorem j30 : ((Rows.fnSubBackRow.veiled == (Tryz.f4.params.toList ++ Rows.fnSubBackSpec.plain.varTypes Tryz.prog ++ Tryz.f4.resultTypes.toList).any (Tryz.prog.veiledRec ·))) = true := by kernel_rfl
theorem j31 : (Rows.fnSubBackRow.veiledFits Tryz.prog Tryz.f4.params.toList (Tryz.f4.params.toList ++ Rows.fnSubBackSpec.plain.varTypes Tryz.prog ++ Tryz.f4.resultTypes.toList)) = true := by kernel_rfl
theorem all : joinedFacts Tryz.pinned.checked.prog 4 Tryz.f4 Rows.fnSubBackSpec Rows.fnSubBackRow = true :=
  joined_of (P := Tryz.prog) j0 j1 j2 j3 j4 j5 j6 j7 j8 j9 j10 j11 j12 j13 j14 j15 j16 j17 j18 j19 j20 j21 j22 j23 j24 j25 j26 j27 j28 j29 j30 j31
end Go.Proofs.YtdcgjfiknknjfaaGreatDoor.fnSubBackFacts
