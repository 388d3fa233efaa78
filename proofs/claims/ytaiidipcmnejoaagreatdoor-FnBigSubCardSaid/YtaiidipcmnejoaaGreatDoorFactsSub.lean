import Derived.Test.YtaiidipcmnejoaaGreatDoorEnvJ
namespace Go.Proofs.YtaiidipcmnejoaaGreatDoor.fnBigSubFacts
open Go
set_option maxRecDepth 100000
theorem j0 : (Rows.fnBigSubRow.wf (OpenSpec.ofChange Rows.fnBigSubSpec)) = true := by kernel_rfl
theorem j1 : (laidOutB Tryz.prog) = true := by kernel_rfl
theorem j2 : (mapsRowed Tryz.prog) = true := by kernel_rfl
theorem j3 : (Tryz.f10.params.all (Tryz.prog.readableRec ·)) = true := by kernel_rfl
theorem j4 : (namedTie Tryz.prog Rows.fnBigSubRow.named Rows.fnBigSubSpec.vars) = true := by kernel_rfl
theorem j5 : ((Rows.fnBigSubRow.stops == [])) = true := by kernel_rfl
theorem j6 : ((Tryz.prog.stops == [])) = true := by kernel_rfl
theorem j7 : ((Rows.fnBigSubRow.knobs == [])) = true := by kernel_rfl
theorem j8 : ((Tryz.prog.stopKnobs == [])) = true := by kernel_rfl
theorem j9 : ((Rows.fnBigSubRow.inPlace == Tryz.prog.inPlace 10)) = true := by kernel_rfl
theorem j10 : ((Rows.fnBigSubRow.unfollowed == Tryz.prog.unfollowed 10)) = true := by kernel_rfl
theorem j11 : ((Rows.fnBigSubRow.recurses == Tryz.prog.recurses 10)) = true := by kernel_rfl
theorem j12 : ((Rows.fnBigSubRow.named == Tryz.prog.varsNamed 10)) = true := by kernel_rfl
theorem j13 : ((Rows.fnBigSubRow.maps == (Tryz.f10.params.toList ++ Rows.fnBigSubSpec.plain.varTypes Tryz.prog).any (Tryz.prog.mapsRec ·))) = true := by kernel_rfl
theorem j14 : ((Rows.fnBigSubRow.ifaces == (Tryz.f10.params.toList ++ Rows.fnBigSubSpec.plain.varTypes Tryz.prog).any (Tryz.prog.ifacesRec ·))) = true := by kernel_rfl
theorem j15 : ((Rows.fnBigSubRow.mapsOut == Tryz.prog.mapsAmong Tryz.f10.resultTypes.toList)) = true := by kernel_rfl
theorem j16 : ((Rows.fnBigSubRow.loops == (Tryz.f10.params.toList ++ Rows.fnBigSubSpec.plain.varTypes Tryz.prog).any (Tryz.prog.loopsFrom ·))) = true := by kernel_rfl
theorem j17 : ((Rows.fnBigSubRow.wideKeys == (Tryz.f10.params.toList ++ Rows.fnBigSubSpec.plain.varTypes Tryz.prog ++ Tryz.f10.resultTypes.toList).any (Tryz.prog.wideKeysFrom ·))) = true := by kernel_rfl
theorem j18 : (Rows.fnBigSubSpec.vars.all (Tryz.prog.varReadable ·)) = true := by kernel_rfl
theorem j19 : (Tryz.f10.resultTypes.all (fun t => Tryz.prog.readableRec t && decide (t < Tryz.prog.types.size))) = true := by kernel_rfl
theorem j20 : ((Rows.fnBigSubRow.ifacesOut == Tryz.f10.resultTypes.toList.any (Tryz.prog.ifacesRec ·))) = true := by kernel_rfl
theorem j21 : ((Rows.fnBigSubRow.loopsOut == Tryz.f10.resultTypes.toList.any (Tryz.prog.loopsFrom ·))) = true := by kernel_rfl
theorem j22 : ((Rows.fnBigSubRow.plainKeys == Tryz.prog.plainKeys)) = true := by kernel_rfl
theorem j23 : (Rows.fnBigSubRow.shortTexts.isNone) = true := by kernel_rfl
theorem j24 : (Tryz.prog.stopsHeard) = true := by kernel_rfl
theorem j25 : (Tryz.prog.mayEnter) = true := by kernel_rfl
theorem j26 : ((Rows.fnBigSubRow.lifted == Tryz.prog.liftsFinal)) = true := by kernel_rfl
theorem j27 : ((Tryz.prog.make == some Rows.fnBigSubRow.make)) = true := by kernel_rfl
theorem j28 : ((Rows.fnBigSubRow.kinds == (if Rows.fnBigSubRow.domain.isEmpty then [] else Tryz.f10.params.toList.map fun t => match Tryz.prog.underlying t with | some (.int k) => some k | _ => none))) = true := by kernel_rfl
theorem j29 : ((Rows.fnBigSubRow.pinned == Rows.fnBigSubRow.pinnedBy)) = true := by kernel_rfl
theorem j30 : ((Rows.fnBigSubRow.veiled == (Tryz.f10.params.toList ++ Rows.fnBigSubSpec.plain.varTypes Tryz.prog ++ Tryz.f10.resultTypes.toList).any (Tryz.prog.veiledRec ·))) = true := by kernel_rfl
theorem j31 : (Rows.fnBigSubRow.veiledFits Tryz.prog Tryz.f10.params.toList (Tryz.f10.params.toList ++ Rows.fnBigSubSpec.plain.varTypes Tryz.prog ++ Tryz.f10.resultTypes.toList)) = true := by kernel_rfl
theorem all : joinedFacts Tryz.pinned.checked.prog 10 Tryz.f10 Rows.fnBigSubSpec Rows.fnBigSubRow = true :=
  joined_of (P := Tryz.prog) j0 j1 j2 j3 j4 j5 j6 j7 j8 j9 j10 j11 j12 j13 j14 j15 j16 j17 j18 j19 j20 j21 j22 j23 j24 j25 j26 j27 j28 j29 j30 j31
end Go.Proofs.YtaiidipcmnejoaaGreatDoor.fnBigSubFacts
