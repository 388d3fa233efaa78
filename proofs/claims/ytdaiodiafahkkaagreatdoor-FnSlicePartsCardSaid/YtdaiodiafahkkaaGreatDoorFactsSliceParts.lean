import Derived.Test.YtdaiodiafahkkaaGreatDoorEnvJ
import Derived.Test.YtdaiodiafahkkaaGreatDoorCards
namespace Go.Proofs.YtdaiodiafahkkaaGreatDoor.fnSlicePartsFacts
open Go
set_option maxRecDepth 100000
theorem j0 : (Rows.fnSlicePartsRow.wf (OpenSpec.ofChange Rows.fnSlicePartsSpec)) = true := by kernel_rfl
theorem j1 : (laidOutB Tryz.prog) = true := by kernel_rfl
theorem j2 : (mapsRowed Tryz.prog) = true := by kernel_rfl
theorem j3 : (Tryz.f8.params.all (Tryz.prog.readableRec ·)) = true := by kernel_rfl
theorem j4 : (namedTie Tryz.prog Rows.fnSlicePartsRow.named Rows.fnSlicePartsSpec.vars) = true := by kernel_rfl
theorem j5 : ((Rows.fnSlicePartsRow.stops == [])) = true := by kernel_rfl
theorem j6 : ((Tryz.prog.stops == [])) = true := by kernel_rfl
theorem j7 : ((Rows.fnSlicePartsRow.knobs == [])) = true := by kernel_rfl
theorem j8 : ((Tryz.prog.stopKnobs == [])) = true := by kernel_rfl
theorem j9 : ((Rows.fnSlicePartsRow.inPlace == Tryz.prog.inPlace 8)) = true := by kernel_rfl
theorem j10 : ((Rows.fnSlicePartsRow.unfollowed == Tryz.prog.unfollowed 8)) = true := by kernel_rfl
theorem j11 : ((Rows.fnSlicePartsRow.recurses == Tryz.prog.recurses 8)) = true := by kernel_rfl
theorem j12 : ((Rows.fnSlicePartsRow.named == Tryz.prog.varsNamed 8)) = true := by kernel_rfl
theorem j13 : ((Rows.fnSlicePartsRow.maps == (Tryz.f8.params.toList ++ Rows.fnSlicePartsSpec.plain.varTypes Tryz.prog).any (Tryz.prog.mapsRec ·))) = true := by kernel_rfl
theorem j14 : ((Rows.fnSlicePartsRow.ifaces == (Tryz.f8.params.toList ++ Rows.fnSlicePartsSpec.plain.varTypes Tryz.prog).any (Tryz.prog.ifacesRec ·))) = true := by kernel_rfl
theorem j15 : ((Rows.fnSlicePartsRow.mapsOut == Tryz.prog.mapsAmong Tryz.f8.resultTypes.toList)) = true := by kernel_rfl
theorem j16 : ((Rows.fnSlicePartsRow.loops == (Tryz.f8.params.toList ++ Rows.fnSlicePartsSpec.plain.varTypes Tryz.prog).any (Tryz.prog.loopsFrom ·))) = true := by kernel_rfl
theorem j17 : ((Rows.fnSlicePartsRow.wideKeys == (Tryz.f8.params.toList ++ Rows.fnSlicePartsSpec.plain.varTypes Tryz.prog ++ Tryz.f8.resultTypes.toList).any (Tryz.prog.wideKeysFrom ·))) = true := by kernel_rfl
theorem j18 : (Rows.fnSlicePartsSpec.vars.all (Tryz.prog.varReadable ·)) = true := by kernel_rfl
theorem j19 : (Tryz.f8.resultTypes.all (fun t => Tryz.prog.readableRec t && decide (t < Tryz.prog.types.size))) = true := by kernel_rfl
theorem j20 : ((Rows.fnSlicePartsRow.ifacesOut == Tryz.f8.resultTypes.toList.any (Tryz.prog.ifacesRec ·))) = true := by kernel_rfl
theorem j21 : ((Rows.fnSlicePartsRow.loopsOut == Tryz.f8.resultTypes.toList.any (Tryz.prog.loopsFrom ·))) = true := by kernel_rfl
theorem j22 : ((Rows.fnSlicePartsRow.plainKeys == Tryz.prog.plainKeys)) = true := by kernel_rfl
theorem j23 : (Rows.fnSlicePartsRow.shortTexts.isNone) = true := by kernel_rfl
theorem j24 : (Tryz.prog.stopsHeard) = true := by kernel_rfl
theorem j25 : (Tryz.prog.mayEnter) = true := by kernel_rfl
theorem j26 : ((Rows.fnSlicePartsRow.lifted == Tryz.prog.liftsFinal)) = true := by kernel_rfl
theorem j27 : ((Tryz.prog.make == some Rows.fnSlicePartsRow.make)) = true := by kernel_rfl
theorem j28 : ((Rows.fnSlicePartsRow.kinds == (if Rows.fnSlicePartsRow.domain.isEmpty then [] else Tryz.f8.params.toList.map fun t => match Tryz.prog.underlying t with | some (.int k) => some k | _ => none))) = true := by kernel_rfl
theorem j29 : ((Rows.fnSlicePartsRow.pinned == Rows.fnSlicePartsRow.pinnedBy)) = true := by kernel_rfl
theorem j30 : ((Rows.fnSlicePartsRow.veiled == (Tryz.f8.params.toList ++ Rows.fnSlicePartsSpec.plain.varTypes Tryz.prog ++ Tryz.f8.resultTypes.toList).any (Tryz.prog.veiledRec ·))) = true := by kernel_rfl
theorem j31 : (Rows.fnSlicePartsRow.veiledFits Tryz.prog Tryz.f8.params.toList (Tryz.f8.params.toList ++ Rows.fnSlicePartsSpec.plain.varTypes Tryz.prog ++ Tryz.f8.resultTypes.toList)) = true := by kernel_rfl
theorem all : joinedFacts Tryz.pinned.checked.prog 8 Tryz.f8 Rows.fnSlicePartsSpec Rows.fnSlicePartsRow = true :=
  joined_of (P := Tryz.prog) j0 j1 j2 j3 j4 j5 j6 j7 j8 j9 j10 j11 j12 j13 j14 j15 j16 j17 j18 j19 j20 j21 j22 j23 j24 j25 j26 j27 j28 j29 j30 j31
end Go.Proofs.YtdaiodiafahkkaaGreatDoor.fnSlicePartsFacts
