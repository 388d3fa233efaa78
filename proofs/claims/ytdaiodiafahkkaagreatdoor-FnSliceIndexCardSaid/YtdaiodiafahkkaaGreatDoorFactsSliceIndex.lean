import Derived.Test.YtdaiodiafahkkaaGreatDoorEnvJ
import Derived.Test.YtdaiodiafahkkaaGreatDoorCards
namespace Go.Proofs.YtdaiodiafahkkaaGreatDoor.fnSliceIndexFacts
open Go
set_option maxRecDepth 100000
theorem j0 : (Rows.fnSliceIndexRow.wf (OpenSpec.ofChange Rows.fnSliceIndexSpec)) = true := by kernel_rfl
theorem j1 : (laidOutB Tryz.prog) = true := by kernel_rfl
theorem j2 : (mapsRowed Tryz.prog) = true := by kernel_rfl
theorem j3 : (Tryz.f13.params.all (Tryz.prog.readableRec ·)) = true := by kernel_rfl
theorem j4 : (namedTie Tryz.prog Rows.fnSliceIndexRow.named Rows.fnSliceIndexSpec.vars) = true := by kernel_rfl
theorem j5 : ((Rows.fnSliceIndexRow.stops == [])) = true := by kernel_rfl
theorem j6 : ((Tryz.prog.stops == [])) = true := by kernel_rfl
theorem j7 : ((Rows.fnSliceIndexRow.knobs == [])) = true := by kernel_rfl
theorem j8 : ((Tryz.prog.stopKnobs == [])) = true := by kernel_rfl
theorem j9 : ((Rows.fnSliceIndexRow.inPlace == Tryz.prog.inPlace 13)) = true := by kernel_rfl
theorem j10 : ((Rows.fnSliceIndexRow.unfollowed == Tryz.prog.unfollowed 13)) = true := by kernel_rfl
theorem j11 : ((Rows.fnSliceIndexRow.recurses == Tryz.prog.recurses 13)) = true := by kernel_rfl
theorem j12 : ((Rows.fnSliceIndexRow.named == Tryz.prog.varsNamed 13)) = true := by kernel_rfl
theorem j13 : ((Rows.fnSliceIndexRow.maps == (Tryz.f13.params.toList ++ Rows.fnSliceIndexSpec.plain.varTypes Tryz.prog).any (Tryz.prog.mapsRec ·))) = true := by kernel_rfl
theorem j14 : ((Rows.fnSliceIndexRow.ifaces == (Tryz.f13.params.toList ++ Rows.fnSliceIndexSpec.plain.varTypes Tryz.prog).any (Tryz.prog.ifacesRec ·))) = true := by kernel_rfl
theorem j15 : ((Rows.fnSliceIndexRow.mapsOut == Tryz.prog.mapsAmong Tryz.f13.resultTypes.toList)) = true := by kernel_rfl
theorem j16 : ((Rows.fnSliceIndexRow.loops == (Tryz.f13.params.toList ++ Rows.fnSliceIndexSpec.plain.varTypes Tryz.prog).any (Tryz.prog.loopsFrom ·))) = true := by kernel_rfl
theorem j17 : ((Rows.fnSliceIndexRow.wideKeys == (Tryz.f13.params.toList ++ Rows.fnSliceIndexSpec.plain.varTypes Tryz.prog ++ Tryz.f13.resultTypes.toList).any (Tryz.prog.wideKeysFrom ·))) = true := by kernel_rfl
theorem j18 : (Rows.fnSliceIndexSpec.vars.all (Tryz.prog.varReadable ·)) = true := by kernel_rfl
theorem j19 : (Tryz.f13.resultTypes.all (fun t => Tryz.prog.readableRec t && decide (t < Tryz.prog.types.size))) = true := by kernel_rfl
theorem j20 : ((Rows.fnSliceIndexRow.ifacesOut == Tryz.f13.resultTypes.toList.any (Tryz.prog.ifacesRec ·))) = true := by kernel_rfl
theorem j21 : ((Rows.fnSliceIndexRow.loopsOut == Tryz.f13.resultTypes.toList.any (Tryz.prog.loopsFrom ·))) = true := by kernel_rfl
theorem j22 : ((Rows.fnSliceIndexRow.plainKeys == Tryz.prog.plainKeys)) = true := by kernel_rfl
theorem j23 : (Rows.fnSliceIndexRow.shortTexts.isNone) = true := by kernel_rfl
theorem j24 : (Tryz.prog.stopsHeard) = true := by kernel_rfl
theorem j25 : (Tryz.prog.mayEnter) = true := by kernel_rfl
theorem j26 : ((Rows.fnSliceIndexRow.lifted == Tryz.prog.liftsFinal)) = true := by kernel_rfl
theorem j27 : ((Tryz.prog.make == some Rows.fnSliceIndexRow.make)) = true := by kernel_rfl
theorem j28 : ((Rows.fnSliceIndexRow.kinds == (if Rows.fnSliceIndexRow.domain.isEmpty then [] else Tryz.f13.params.toList.map fun t => match Tryz.prog.underlying t with | some (.int k) => some k | _ => none))) = true := by kernel_rfl
theorem j29 : ((Rows.fnSliceIndexRow.pinned == Rows.fnSliceIndexRow.pinnedBy)) = true := by kernel_rfl
theorem j30 : ((Rows.fnSliceIndexRow.veiled == (Tryz.f13.params.toList ++ Rows.fnSliceIndexSpec.plain.varTypes Tryz.prog ++ Tryz.f13.resultTypes.toList).any (Tryz.prog.veiledRec ·))) = true := by kernel_rfl
theorem j31 : (Rows.fnSliceIndexRow.veiledFits Tryz.prog Tryz.f13.params.toList (Tryz.f13.params.toList ++ Rows.fnSliceIndexSpec.plain.varTypes Tryz.prog ++ Tryz.f13.resultTypes.toList)) = true := by kernel_rfl
theorem all : joinedFacts Tryz.pinned.checked.prog 13 Tryz.f13 Rows.fnSliceIndexSpec Rows.fnSliceIndexRow = true :=
  joined_of (P := Tryz.prog) j0 j1 j2 j3 j4 j5 j6 j7 j8 j9 j10 j11 j12 j13 j14 j15 j16 j17 j18 j19 j20 j21 j22 j23 j24 j25 j26 j27 j28 j29 j30 j31
end Go.Proofs.YtdaiodiafahkkaaGreatDoor.fnSliceIndexFacts
