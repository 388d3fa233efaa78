import Derived.Test.YtdaiodiafahkkaaGreatDoorEnvJ
import Derived.Test.YtdaiodiafahkkaaGreatDoorCards
namespace Go.Proofs.YtdaiodiafahkkaaGreatDoor.fnReverseTwiceFacts
open Go
set_option maxRecDepth 100000
theorem j0 : (Rows.fnReverseTwiceRow.wf (OpenSpec.ofChange Rows.fnReverseTwiceSpec)) = true := by kernel_rfl
theorem j1 : (laidOutB Tryz.prog) = true := by kernel_rfl
theorem j2 : (mapsRowed Tryz.prog) = true := by kernel_rfl
theorem j3 : (Tryz.f12.params.all (Tryz.prog.readableRec ·)) = true := by kernel_rfl
theorem j4 : (namedTie Tryz.prog Rows.fnReverseTwiceRow.named Rows.fnReverseTwiceSpec.vars) = true := by kernel_rfl
theorem j5 : ((Rows.fnReverseTwiceRow.stops == [])) = true := by kernel_rfl
theorem j6 : ((Tryz.prog.stops == [])) = true := by kernel_rfl
theorem j7 : ((Rows.fnReverseTwiceRow.knobs == [])) = true := by kernel_rfl
theorem j8 : ((Tryz.prog.stopKnobs == [])) = true := by kernel_rfl
theorem j9 : ((Rows.fnReverseTwiceRow.inPlace == Tryz.prog.inPlace 12)) = true := by kernel_rfl
theorem j10 : ((Rows.fnReverseTwiceRow.unfollowed == Tryz.prog.unfollowed 12)) = true := by kernel_rfl
theorem j11 : ((Rows.fnReverseTwiceRow.recurses == Tryz.prog.recurses 12)) = true := by kernel_rfl
theorem j12 : ((Rows.fnReverseTwiceRow.named == Tryz.prog.varsNamed 12)) = true := by kernel_rfl
theorem j13 : ((Rows.fnReverseTwiceRow.maps == (Tryz.f12.params.toList ++ Rows.fnReverseTwiceSpec.plain.varTypes Tryz.prog).any (Tryz.prog.mapsRec ·))) = true := by kernel_rfl
theorem j14 : ((Rows.fnReverseTwiceRow.ifaces == (Tryz.f12.params.toList ++ Rows.fnReverseTwiceSpec.plain.varTypes Tryz.prog).any (Tryz.prog.ifacesRec ·))) = true := by kernel_rfl
theorem j15 : ((Rows.fnReverseTwiceRow.mapsOut == Tryz.prog.mapsAmong Tryz.f12.resultTypes.toList)) = true := by kernel_rfl
theorem j16 : ((Rows.fnReverseTwiceRow.loops == (Tryz.f12.params.toList ++ Rows.fnReverseTwiceSpec.plain.varTypes Tryz.prog).any (Tryz.prog.loopsFrom ·))) = true := by kernel_rfl
theorem j17 : ((Rows.fnReverseTwiceRow.wideKeys == (Tryz.f12.params.toList ++ Rows.fnReverseTwiceSpec.plain.varTypes Tryz.prog ++ Tryz.f12.resultTypes.toList).any (Tryz.prog.wideKeysFrom ·))) = true := by kernel_rfl
theorem j18 : (Rows.fnReverseTwiceSpec.vars.all (Tryz.prog.varReadable ·)) = true := by kernel_rfl
theorem j19 : (Tryz.f12.resultTypes.all (fun t => Tryz.prog.readableRec t && decide (t < Tryz.prog.types.size))) = true := by kernel_rfl
theorem j20 : ((Rows.fnReverseTwiceRow.ifacesOut == Tryz.f12.resultTypes.toList.any (Tryz.prog.ifacesRec ·))) = true := by kernel_rfl
theorem j21 : ((Rows.fnReverseTwiceRow.loopsOut == Tryz.f12.resultTypes.toList.any (Tryz.prog.loopsFrom ·))) = true := by kernel_rfl
theorem j22 : ((Rows.fnReverseTwiceRow.plainKeys == Tryz.prog.plainKeys)) = true := by kernel_rfl
theorem j23 : (Rows.fnReverseTwiceRow.shortTexts.isNone) = true := by kernel_rfl
theorem j24 : (Tryz.prog.stopsHeard) = true := by kernel_rfl
theorem j25 : (Tryz.prog.mayEnter) = true := by kernel_rfl
theorem j26 : ((Rows.fnReverseTwiceRow.lifted == Tryz.prog.liftsFinal)) = true := by kernel_rfl
theorem j27 : ((Tryz.prog.make == some Rows.fnReverseTwiceRow.make)) = true := by kernel_rfl
theorem j28 : ((Rows.fnReverseTwiceRow.kinds == (if Rows.fnReverseTwiceRow.domain.isEmpty then [] else Tryz.f12.params.toList.map fun t => match Tryz.prog.underlying t with | some (.int k) => some k | _ => none))) = true := by kernel_rfl
theorem j29 : ((Rows.fnReverseTwiceRow.pinned == Rows.fnReverseTwiceRow.pinnedBy)) = true := by kernel_rfl
theorem j30 : ((Rows.fnReverseTwiceRow.veiled == (Tryz.f12.params.toList ++ Rows.fnReverseTwiceSpec.plain.varTypes Tryz.prog ++ Tryz.f12.resultTypes.toList).any (Tryz.prog.veiledRec ·))) = true := by kernel_rfl
theorem j31 : (Rows.fnReverseTwiceRow.veiledFits Tryz.prog Tryz.f12.params.toList (Tryz.f12.params.toList ++ Rows.fnReverseTwiceSpec.plain.varTypes Tryz.prog ++ Tryz.f12.resultTypes.toList)) = true := by kernel_rfl
theorem all : joinedFacts Tryz.pinned.checked.prog 12 Tryz.f12 Rows.fnReverseTwiceSpec Rows.fnReverseTwiceRow = true :=
  joined_of (P := Tryz.prog) j0 j1 j2 j3 j4 j5 j6 j7 j8 j9 j10 j11 j12 j13 j14 j15 j16 j17 j18 j19 j20 j21 j22 j23 j24 j25 j26 j27 j28 j29 j30 j31
end Go.Proofs.YtdaiodiafahkkaaGreatDoor.fnReverseTwiceFacts
