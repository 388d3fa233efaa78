import Derived.Test.YtdaiodiafahkkaaGreatDoorEnvJ
import Derived.Test.YtdaiodiafahkkaaGreatDoorCards
namespace Go.Proofs.YtdaiodiafahkkaaGreatDoor.fnReverseSliceFacts
open Go
set_option maxRecDepth 100000
theorem j0 : (Rows.fnReverseSliceRow.wf (OpenSpec.ofChange Rows.fnReverseSliceSpec)) = true := by kernel_rfl
theorem j1 : (laidOutB Tryz.prog) = true := by kernel_rfl
theorem j2 : (mapsRowed Tryz.prog) = true := by kernel_rfl
theorem j3 : (Tryz.f11.params.all (Tryz.prog.readableRec ·)) = true := by kernel_rfl
theorem j4 : (namedTie Tryz.prog Rows.fnReverseSliceRow.named Rows.fnReverseSliceSpec.vars) = true := by kernel_rfl
theorem j5 : ((Rows.fnReverseSliceRow.stops == [])) = true := by kernel_rfl
theorem j6 : ((Tryz.prog.stops == [])) = true := by kernel_rfl
theorem j7 : ((Rows.fnReverseSliceRow.knobs == [])) = true := by kernel_rfl
theorem j8 : ((Tryz.prog.stopKnobs == [])) = true := by kernel_rfl
theorem j9 : ((Rows.fnReverseSliceRow.inPlace == Tryz.prog.inPlace 11)) = true := by kernel_rfl
theorem j10 : ((Rows.fnReverseSliceRow.unfollowed == Tryz.prog.unfollowed 11)) = true := by kernel_rfl
theorem j11 : ((Rows.fnReverseSliceRow.recurses == Tryz.prog.recurses 11)) = true := by kernel_rfl
theorem j12 : ((Rows.fnReverseSliceRow.named == Tryz.prog.varsNamed 11)) = true := by kernel_rfl
theorem j13 : ((Rows.fnReverseSliceRow.maps == (Tryz.f11.params.toList ++ Rows.fnReverseSliceSpec.plain.varTypes Tryz.prog).any (Tryz.prog.mapsRec ·))) = true := by kernel_rfl
theorem j14 : ((Rows.fnReverseSliceRow.ifaces == (Tryz.f11.params.toList ++ Rows.fnReverseSliceSpec.plain.varTypes Tryz.prog).any (Tryz.prog.ifacesRec ·))) = true := by kernel_rfl
theorem j15 : ((Rows.fnReverseSliceRow.mapsOut == Tryz.prog.mapsAmong Tryz.f11.resultTypes.toList)) = true := by kernel_rfl
theorem j16 : ((Rows.fnReverseSliceRow.loops == (Tryz.f11.params.toList ++ Rows.fnReverseSliceSpec.plain.varTypes Tryz.prog).any (Tryz.prog.loopsFrom ·))) = true := by kernel_rfl
theorem j17 : ((Rows.fnReverseSliceRow.wideKeys == (Tryz.f11.params.toList ++ Rows.fnReverseSliceSpec.plain.varTypes Tryz.prog ++ Tryz.f11.resultTypes.toList).any (Tryz.prog.wideKeysFrom ·))) = true := by kernel_rfl
theorem j18 : (Rows.fnReverseSliceSpec.vars.all (Tryz.prog.varReadable ·)) = true := by kernel_rfl
theorem j19 : (Tryz.f11.resultTypes.all (fun t => Tryz.prog.readableRec t && decide (t < Tryz.prog.types.size))) = true := by kernel_rfl
theorem j20 : ((Rows.fnReverseSliceRow.ifacesOut == Tryz.f11.resultTypes.toList.any (Tryz.prog.ifacesRec ·))) = true := by kernel_rfl
theorem j21 : ((Rows.fnReverseSliceRow.loopsOut == Tryz.f11.resultTypes.toList.any (Tryz.prog.loopsFrom ·))) = true := by kernel_rfl
theorem j22 : ((Rows.fnReverseSliceRow.plainKeys == Tryz.prog.plainKeys)) = true := by kernel_rfl
theorem j23 : (Rows.fnReverseSliceRow.shortTexts.isNone) = true := by kernel_rfl
theorem j24 : (Tryz.prog.stopsHeard) = true := by kernel_rfl
theorem j25 : (Tryz.prog.mayEnter) = true := by kernel_rfl
theorem j26 : ((Rows.fnReverseSliceRow.lifted == Tryz.prog.liftsFinal)) = true := by kernel_rfl
theorem j27 : ((Tryz.prog.make == some Rows.fnReverseSliceRow.make)) = true := by kernel_rfl
theorem j28 : ((Rows.fnReverseSliceRow.kinds == (if Rows.fnReverseSliceRow.domain.isEmpty then [] else Tryz.f11.params.toList.map fun t => match Tryz.prog.underlying t with | some (.int k) => some k | _ => none))) = true := by kernel_rfl
theorem j29 : ((Rows.fnReverseSliceRow.pinned == Rows.fnReverseSliceRow.pinnedBy)) = true := by kernel_rfl
theorem j30 : ((Rows.fnReverseSliceRow.veiled == (Tryz.f11.params.toList ++ Rows.fnReverseSliceSpec.plain.varTypes Tryz.prog ++ Tryz.f11.resultTypes.toList).any (Tryz.prog.veiledRec ·))) = true := by kernel_rfl
theorem j31 : (Rows.fnReverseSliceRow.veiledFits Tryz.prog Tryz.f11.params.toList (Tryz.f11.params.toList ++ Rows.fnReverseSliceSpec.plain.varTypes Tryz.prog ++ Tryz.f11.resultTypes.toList)) = true := by kernel_rfl
theorem all : joinedFacts Tryz.pinned.checked.prog 11 Tryz.f11 Rows.fnReverseSliceSpec Rows.fnReverseSliceRow = true :=
  joined_of (P := Tryz.prog) j0 j1 j2 j3 j4 j5 j6 j7 j8 j9 j10 j11 j12 j13 j14 j15 j16 j17 j18 j19 j20 j21 j22 j23 j24 j25 j26 j27 j28 j29 j30 j31
end Go.Proofs.YtdaiodiafahkkaaGreatDoor.fnReverseSliceFacts
