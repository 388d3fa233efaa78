import Derived.Test.YtbnfeicpjmfooaaGreatDoorEnvJ
import Derived.Test.YtbnfeicpjmfooaaGreatDoorCards
namespace Go.Proofs.YtbnfeicpjmfooaaGreatDoor.fnSortRisesFacts
open Go
set_option maxRecDepth 100000
theorem j0 : (Rows.fnSortRisesRow.wf (OpenSpec.ofChange Rows.fnSortRisesSpec)) = true := by kernel_rfl
theorem j1 : (laidOutB Tryz.prog) = true := by kernel_rfl
theorem j2 : (mapsRowed Tryz.prog) = true := by kernel_rfl
theorem j3 : (Tryz.f4.params.all (Tryz.prog.readableRec ·)) = true := by kernel_rfl
theorem j4 : (namedTie Tryz.prog Rows.fnSortRisesRow.named Rows.fnSortRisesSpec.vars) = true := by kernel_rfl
theorem j5 : ((Rows.fnSortRisesRow.stops == [])) = true := by kernel_rfl
theorem j6 : ((Tryz.prog.stops == [])) = true := by kernel_rfl
theorem j7 : ((Rows.fnSortRisesRow.knobs == [])) = true := by kernel_rfl
theorem j8 : ((Tryz.prog.stopKnobs == [])) = true := by kernel_rfl
theorem j9 : ((Rows.fnSortRisesRow.inPlace == Tryz.prog.inPlace 4)) = true := by kernel_rfl
theorem j10 : ((Rows.fnSortRisesRow.unfollowed == Tryz.prog.unfollowed 4)) = true := by kernel_rfl
theorem j11 : ((Rows.fnSortRisesRow.recurses == Tryz.prog.recurses 4)) = true := by kernel_rfl
theorem j12 : ((Rows.fnSortRisesRow.named == Tryz.prog.varsNamed 4)) = true := by kernel_rfl
theorem j13 : ((Rows.fnSortRisesRow.maps == (Tryz.f4.params.toList ++ Rows.fnSortRisesSpec.plain.varTypes Tryz.prog).any (Tryz.prog.mapsRec ·))) = true := by kernel_rfl
theorem j14 : ((Rows.fnSortRisesRow.ifaces == (Tryz.f4.params.toList ++ Rows.fnSortRisesSpec.plain.varTypes Tryz.prog).any (Tryz.prog.ifacesRec ·))) = true := by kernel_rfl
theorem j15 : ((Rows.fnSortRisesRow.mapsOut == Tryz.prog.mapsAmong Tryz.f4.resultTypes.toList)) = true := by kernel_rfl
theorem j16 : ((Rows.fnSortRisesRow.loops == (Tryz.f4.params.toList ++ Rows.fnSortRisesSpec.plain.varTypes Tryz.prog).any (Tryz.prog.loopsFrom ·))) = true := by kernel_rfl
theorem j17 : ((Rows.fnSortRisesRow.wideKeys == (Tryz.f4.params.toList ++ Rows.fnSortRisesSpec.plain.varTypes Tryz.prog ++ Tryz.f4.resultTypes.toList).any (Tryz.prog.wideKeysFrom ·))) = true := by kernel_rfl
theorem j18 : (Rows.fnSortRisesSpec.vars.all (Tryz.prog.varReadable ·)) = true := by kernel_rfl
theorem j19 : (Tryz.f4.resultTypes.all (fun t => Tryz.prog.readableRec t && decide (t < Tryz.prog.types.size))) = true := by kernel_rfl
theorem j20 : ((Rows.fnSortRisesRow.ifacesOut == Tryz.f4.resultTypes.toList.any (Tryz.prog.ifacesRec ·))) = true := by kernel_rfl
theorem j21 : ((Rows.fnSortRisesRow.loopsOut == Tryz.f4.resultTypes.toList.any (Tryz.prog.loopsFrom ·))) = true := by kernel_rfl
theorem j22 : ((Rows.fnSortRisesRow.plainKeys == Tryz.prog.plainKeys)) = true := by kernel_rfl
theorem j23 : (Rows.fnSortRisesRow.shortTexts.isNone) = true := by kernel_rfl
theorem j24 : (Tryz.prog.stopsHeard) = true := by kernel_rfl
theorem j25 : (Tryz.prog.mayEnter) = true := by kernel_rfl
theorem j26 : ((Rows.fnSortRisesRow.lifted == Tryz.prog.liftsFinal)) = true := by kernel_rfl
theorem j27 : ((Tryz.prog.make == some Rows.fnSortRisesRow.make)) = true := by kernel_rfl
theorem j28 : ((Rows.fnSortRisesRow.kinds == (if Rows.fnSortRisesRow.domain.isEmpty then [] else Tryz.f4.params.toList.map fun t => match Tryz.prog.underlying t with | some (.int k) => some k | _ => none))) = true := by kernel_rfl
theorem j29 : ((Rows.fnSortRisesRow.pinned == Rows.fnSortRisesRow.pinnedBy)) = true := by kernel_rfl
theorem j30 : ((Rows.fnSortRisesRow.veiled == (Tryz.f4.params.toList ++ Rows.fnSortRisesSpec.plain.varTypes Tryz.prog ++ Tryz.f4.resultTypes.toList).any (Tryz.prog.veiledRec ·))) = true := by kernel_rfl
theorem j31 : (Rows.fnSortRisesRow.veiledFits Tryz.prog Tryz.f4.params.toList (Tryz.f4.params.toList ++ Rows.fnSortRisesSpec.plain.varTypes Tryz.prog ++ Tryz.f4.resultTypes.toList)) = true := by kernel_rfl
theorem all : joinedFacts Tryz.pinned.checked.prog 4 Tryz.f4 Rows.fnSortRisesSpec Rows.fnSortRisesRow = true :=
  joined_of (P := Tryz.prog) j0 j1 j2 j3 j4 j5 j6 j7 j8 j9 j10 j11 j12 j13 j14 j15 j16 j17 j18 j19 j20 j21 j22 j23 j24 j25 j26 j27 j28 j29 j30 j31
end Go.Proofs.YtbnfeicpjmfooaaGreatDoor.fnSortRisesFacts
