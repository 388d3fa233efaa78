import Derived.Test.YtdcgjfiknknjfaaGreatDoorEnvJ
import Derived.Test.YtdcgjfiknknjfaaGreatDoorCards
namespace Go.Proofs.YtdcgjfiknknjfaaGreatDoor.fnComparisonsAgreeFacts
open Go
set_option maxRecDepth 100000
theorem j0 : (Rows.fnComparisonsAgreeRow.wf (OpenSpec.ofChange Rows.fnComparisonsAgreeSpec)) = true := by kernel_rfl
theorem j1 : (laidOutB Tryz.prog) = true := by kernel_rfl
theorem j2 : (mapsRowed Tryz.prog) = true := by kernel_rfl
theorem j3 : (Tryz.f13.params.all (Tryz.prog.readableRec ·)) = true := by kernel_rfl
theorem j4 : (namedTie Tryz.prog Rows.fnComparisonsAgreeRow.named Rows.fnComparisonsAgreeSpec.vars) = true := by kernel_rfl
theorem j5 : ((Rows.fnComparisonsAgreeRow.stops == [])) = true := by kernel_rfl
theorem j6 : ((Tryz.prog.stops == [])) = true := by kernel_rfl
theorem j7 : ((Rows.fnComparisonsAgreeRow.knobs == [])) = true := by kernel_rfl
theorem j8 : ((Tryz.prog.stopKnobs == [])) = true := by kernel_rfl
theorem j9 : ((Rows.fnComparisonsAgreeRow.inPlace == Tryz.prog.inPlace 13)) = true := by kernel_rfl
theorem j10 : ((Rows.fnComparisonsAgreeRow.unfollowed == Tryz.prog.unfollowed 13)) = true := by kernel_rfl
theorem j11 : ((Rows.fnComparisonsAgreeRow.recurses == Tryz.prog.recurses 13)) = true := by kernel_rfl
theorem j12 : ((Rows.fnComparisonsAgreeRow.named == Tryz.prog.varsNamed 13)) = true := by kernel_rfl
theorem j13 : ((Rows.fnComparisonsAgreeRow.maps == (Tryz.f13.params.toList ++ Rows.fnComparisonsAgreeSpec.plain.varTypes Tryz.prog).any (Tryz.prog.mapsRec ·))) = true := by kernel_rfl
theorem j14 : ((Rows.fnComparisonsAgreeRow.ifaces == (Tryz.f13.params.toList ++ Rows.fnComparisonsAgreeSpec.plain.varTypes Tryz.prog).any (Tryz.prog.ifacesRec ·))) = true := by kernel_rfl
theorem j15 : ((Rows.fnComparisonsAgreeRow.mapsOut == Tryz.prog.mapsAmong Tryz.f13.resultTypes.toList)) = true := by kernel_rfl
theorem j16 : ((Rows.fnComparisonsAgreeRow.loops == (Tryz.f13.params.toList ++ Rows.fnComparisonsAgreeSpec.plain.varTypes Tryz.prog).any (Tryz.prog.loopsFrom ·))) = true := by kernel_rfl
theorem j17 : ((Rows.fnComparisonsAgreeRow.wideKeys == (Tryz.f13.params.toList ++ Rows.fnComparisonsAgreeSpec.plain.varTypes Tryz.prog ++ Tryz.f13.resultTypes.toList).any (Tryz.prog.wideKeysFrom ·))) = true := by kernel_rfl
theorem j18 : (Rows.fnComparisonsAgreeSpec.vars.all (Tryz.prog.varReadable ·)) = true := by kernel_rfl
theorem j19 : (Tryz.f13.resultTypes.all (fun t => Tryz.prog.readableRec t && decide (t < Tryz.prog.types.size))) = true := by kernel_rfl
theorem j20 : ((Rows.fnComparisonsAgreeRow.ifacesOut == Tryz.f13.resultTypes.toList.any (Tryz.prog.ifacesRec ·))) = true := by kernel_rfl
theorem j21 : ((Rows.fnComparisonsAgreeRow.loopsOut == Tryz.f13.resultTypes.toList.any (Tryz.prog.loopsFrom ·))) = true := by kernel_rfl
theorem j22 : ((Rows.fnComparisonsAgreeRow.plainKeys == Tryz.prog.plainKeys)) = true := by kernel_rfl
theorem j23 : (Rows.fnComparisonsAgreeRow.shortTexts.isNone) = true := by kernel_rfl
theorem j24 : (Tryz.prog.stopsHeard) = true := by kernel_rfl
theorem j25 : (Tryz.prog.mayEnter) = true := by kernel_rfl
theorem j26 : ((Rows.fnComparisonsAgreeRow.lifted == Tryz.prog.liftsFinal)) = true := by kernel_rfl
theorem j27 : ((Tryz.prog.make == some Rows.fnComparisonsAgreeRow.make)) = true := by kernel_rfl
theorem j28 : ((Rows.fnComparisonsAgreeRow.kinds == (if Rows.fnComparisonsAgreeRow.domain.isEmpty then [] else Tryz.f13.params.toList.map fun t => match Tryz.prog.underlying t with | some (.int k) => some k | _ => none))) = true := by kernel_rfl
theorem j29 : ((Rows.fnComparisonsAgreeRow.pinned == Rows.fnComparisonsAgreeRow.pinnedBy)) = true := by kernel_rfl
theorem j30 : ((Rows.fnComparisonsAgreeRow.veiled == (Tryz.f13.params.toList ++ Rows.fnComparisonsAgreeSpec.plain.varTypes Tryz.prog ++ Tryz.f13.resultTypes.toList).any (Tryz.prog.veiledRec ·))) = true := by kernel_rfl
theorem j31 : (Rows.fnComparisonsAgreeRow.veiledFits Tryz.prog Tryz.f13.params.toList (Tryz.f13.params.toList ++ Rows.fnComparisonsAgreeSpec.plain.varTypes Tryz.prog ++ Tryz.f13.resultTypes.toList)) = true := by kernel_rfl
theorem all : joinedFacts Tryz.pinned.checked.prog 13 Tryz.f13 Rows.fnComparisonsAgreeSpec Rows.fnComparisonsAgreeRow = true :=
  joined_of (P := Tryz.prog) j0 j1 j2 j3 j4 j5 j6 j7 j8 j9 j10 j11 j12 j13 j14 j15 j16 j17 j18 j19 j20 j21 j22 j23 j24 j25 j26 j27 j28 j29 j30 j31
end Go.Proofs.YtdcgjfiknknjfaaGreatDoor.fnComparisonsAgreeFacts
