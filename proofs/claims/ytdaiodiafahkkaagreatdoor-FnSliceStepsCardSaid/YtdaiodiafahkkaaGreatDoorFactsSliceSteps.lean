import Derived.Test.YtdaiodiafahkkaaGreatDoorEnvJ
import Derived.Test.YtdaiodiafahkkaaGreatDoorCards
namespace Go.Proofs.YtdaiodiafahkkaaGreatDoor.fnSliceStepsFacts
open Go
set_option maxRecDepth 100000
theorem j0 : (Rows.fnSliceStepsRow.wf (OpenSpec.ofChange Rows.fnSliceStepsSpec)) = true := by kernel_rfl
theorem j1 : (laidOutB Tryz.prog) = true := by kernel_rfl
theorem j2 : (mapsRowed Tryz.prog) = true := by kernel_rfl
theorem j3 : (Tryz.f9.params.all (Tryz.prog.readableRec ·)) = true := by kernel_rfl
theorem j4 : (namedTie Tryz.prog Rows.fnSliceStepsRow.named Rows.fnSliceStepsSpec.vars) = true := by kernel_rfl
theorem j5 : ((Rows.fnSliceStepsRow.stops == [])) = true := by kernel_rfl
theorem j6 : ((Tryz.prog.stops == [])) = true := by kernel_rfl
theorem j7 : ((Rows.fnSliceStepsRow.knobs == [])) = true := by kernel_rfl
theorem j8 : ((Tryz.prog.stopKnobs == [])) = true := by kernel_rfl
theorem j9 : ((Rows.fnSliceStepsRow.inPlace == Tryz.prog.inPlace 9)) = true := by kernel_rfl
theorem j10 : ((Rows.fnSliceStepsRow.unfollowed == Tryz.prog.unfollowed 9)) = true := by kernel_rfl
theorem j11 : ((Rows.fnSliceStepsRow.recurses == Tryz.prog.recurses 9)) = true := by kernel_rfl
theorem j12 : ((Rows.fnSliceStepsRow.named == Tryz.prog.varsNamed 9)) = true := by kernel_rfl
theorem j13 : ((Rows.fnSliceStepsRow.maps == (Tryz.f9.params.toList ++ Rows.fnSliceStepsSpec.plain.varTypes Tryz.prog).any (Tryz.prog.mapsRec ·))) = true := by kernel_rfl
theorem j14 : ((Rows.fnSliceStepsRow.ifaces == (Tryz.f9.params.toList ++ Rows.fnSliceStepsSpec.plain.varTypes Tryz.prog).any (Tryz.prog.ifacesRec ·))) = true := by kernel_rfl
theorem j15 : ((Rows.fnSliceStepsRow.mapsOut == Tryz.prog.mapsAmong Tryz.f9.resultTypes.toList)) = true := by kernel_rfl
theorem j16 : ((Rows.fnSliceStepsRow.loops == (Tryz.f9.params.toList ++ Rows.fnSliceStepsSpec.plain.varTypes Tryz.prog).any (Tryz.prog.loopsFrom ·))) = true := by kernel_rfl
theorem j17 : ((Rows.fnSliceStepsRow.wideKeys == (Tryz.f9.params.toList ++ Rows.fnSliceStepsSpec.plain.varTypes Tryz.prog ++ Tryz.f9.resultTypes.toList).any (Tryz.prog.wideKeysFrom ·))) = true := by kernel_rfl
theorem j18 : (Rows.fnSliceStepsSpec.vars.all (Tryz.prog.varReadable ·)) = true := by kernel_rfl
theorem j19 : (Tryz.f9.resultTypes.all (fun t => Tryz.prog.readableRec t && decide (t < Tryz.prog.types.size))) = true := by kernel_rfl
theorem j20 : ((Rows.fnSliceStepsRow.ifacesOut == Tryz.f9.resultTypes.toList.any (Tryz.prog.ifacesRec ·))) = true := by kernel_rfl
theorem j21 : ((Rows.fnSliceStepsRow.loopsOut == Tryz.f9.resultTypes.toList.any (Tryz.prog.loopsFrom ·))) = true := by kernel_rfl
theorem j22 : ((Rows.fnSliceStepsRow.plainKeys == Tryz.prog.plainKeys)) = true := by kernel_rfl
theorem j23 : (Rows.fnSliceStepsRow.shortTexts.isNone) = true := by kernel_rfl
theorem j24 : (Tryz.prog.stopsHeard) = true := by kernel_rfl
theorem j25 : (Tryz.prog.mayEnter) = true := by kernel_rfl
theorem j26 : ((Rows.fnSliceStepsRow.lifted == Tryz.prog.liftsFinal)) = true := by kernel_rfl
theorem j27 : ((Tryz.prog.make == some Rows.fnSliceStepsRow.make)) = true := by kernel_rfl
theorem j28 : ((Rows.fnSliceStepsRow.kinds == (if Rows.fnSliceStepsRow.domain.isEmpty then [] else Tryz.f9.params.toList.map fun t => match Tryz.prog.underlying t with | some (.int k) => some k | _ => none))) = true := by kernel_rfl
theorem j29 : ((Rows.fnSliceStepsRow.pinned == Rows.fnSliceStepsRow.pinnedBy)) = true := by kernel_rfl
theorem j30 : ((Rows.fnSliceStepsRow.veiled == (Tryz.f9.params.toList ++ Rows.fnSliceStepsSpec.plain.varTypes Tryz.prog ++ Tryz.f9.resultTypes.toList).any (Tryz.prog.veiledRec ·))) = true := by kernel_rfl
theorem j31 : (Rows.fnSliceStepsRow.veiledFits Tryz.prog Tryz.f9.params.toList (Tryz.f9.params.toList ++ Rows.fnSliceStepsSpec.plain.varTypes Tryz.prog ++ Tryz.f9.resultTypes.toList)) = true := by kernel_rfl
theorem all : joinedFacts Tryz.pinned.checked.prog 9 Tryz.f9 Rows.fnSliceStepsSpec Rows.fnSliceStepsRow = true :=
  joined_of (P := Tryz.prog) j0 j1 j2 j3 j4 j5 j6 j7 j8 j9 j10 j11 j12 j13 j14 j15 j16 j17 j18 j19 j20 j21 j22 j23 j24 j25 j26 j27 j28 j29 j30 j31
end Go.Proofs.YtdaiodiafahkkaaGreatDoor.fnSliceStepsFacts
