import Derived.Test.YtaiidipcmnejoaaGreatDoorEnvJ
namespace Go.Proofs.YtaiidipcmnejoaaGreatDoor.fnBigSpreadFacts
open Go
set_option maxRecDepth 100000
theorem j0 : (Rows.fnBigSpreadRow.wf (OpenSpec.ofChange Rows.fnBigSpreadSpec)) = true := by kernel_rfl
theorem j1 : (laidOutB Tryz.prog) = true := by kernel_rfl
theorem j2 : (mapsRowed Tryz.prog) = true := by kernel_rfl
theorem j3 : (Tryz.f7.params.all (Tryz.prog.readableRec ·)) = true := by kernel_rfl
theorem j4 : (namedTie Tryz.prog Rows.fnBigSpreadRow.named Rows.fnBigSpreadSpec.vars) = true := by kernel_rfl
theorem j5 : ((Rows.fnBigSpreadRow.stops == [])) = true := by kernel_rfl
theorem j6 : ((Tryz.prog.stops == [])) = true := by kernel_rfl
theorem j7 : ((Rows.fnBigSpreadRow.knobs == [])) = true := by kernel_rfl
theorem j8 : ((Tryz.prog.stopKnobs == [])) = true := by kernel_rfl
theorem j9 : ((Rows.fnBigSpreadRow.inPlace == Tryz.prog.inPlace 7)) = true := by kernel_rfl
theorem j10 : ((Rows.fnBigSpreadRow.unfollowed == Tryz.prog.unfollowed 7)) = true := by kernel_rfl
theorem j11 : ((Rows.fnBigSpreadRow.recurses == Tryz.prog.recurses 7)) = true := by kernel_rfl
theorem j12 : ((Rows.fnBigSpreadRow.named == Tryz.prog.varsNamed 7)) = true := by kernel_rfl
theorem j13 : ((Rows.fnBigSpreadRow.maps == (Tryz.f7.params.toList ++ Rows.fnBigSpreadSpec.plain.varTypes Tryz.prog).any (Tryz.prog.mapsRec ·))) = true := by kernel_rfl
theorem j14 : ((Rows.fnBigSpreadRow.ifaces == (Tryz.f7.params.toList ++ Rows.fnBigSpreadSpec.plain.varTypes Tryz.prog).any (Tryz.prog.ifacesRec ·))) = true := by kernel_rfl
theorem j15 : ((Rows.fnBigSpreadRow.mapsOut == Tryz.prog.mapsAmong Tryz.f7.resultTypes.toList)) = true := by kernel_rfl
theorem j16 : ((Rows.fnBigSpreadRow.loops == (Tryz.f7.params.toList ++ Rows.fnBigSpreadSpec.plain.varTypes Tryz.prog).any (Tryz.prog.loopsFrom ·))) = true := by kernel_rfl
theorem j17 : ((Rows.fnBigSpreadRow.wideKeys == (Tryz.f7.params.toList ++ Rows.fnBigSpreadSpec.plain.varTypes Tryz.prog ++ Tryz.f7.resultTypes.toList).any (Tryz.prog.wideKeysFrom ·))) = true := by kernel_rfl
theorem j18 : (Rows.fnBigSpreadSpec.vars.all (Tryz.prog.varReadable ·)) = true := by kernel_rfl
theorem j19 : (Tryz.f7.resultTypes.all (fun t => Tryz.prog.readableRec t && decide (t < Tryz.prog.types.size))) = true := by kernel_rfl
theorem j20 : ((Rows.fnBigSpreadRow.ifacesOut == Tryz.f7.resultTypes.toList.any (Tryz.prog.ifacesRec ·))) = true := by kernel_rfl
theorem j21 : ((Rows.fnBigSpreadRow.loopsOut == Tryz.f7.resultTypes.toList.any (Tryz.prog.loopsFrom ·))) = true := by kernel_rfl
theorem j22 : ((Rows.fnBigSpreadRow.plainKeys == Tryz.prog.plainKeys)) = true := by kernel_rfl
theorem j23 : (Rows.fnBigSpreadRow.shortTexts.isNone) = true := by kernel_rfl
theorem j24 : (Tryz.prog.stopsHeard) = true := by kernel_rfl
theorem j25 : (Tryz.prog.mayEnter) = true := by kernel_rfl
theorem j26 : ((Rows.fnBigSpreadRow.lifted == Tryz.prog.liftsFinal)) = true := by kernel_rfl
theorem j27 : ((Tryz.prog.make == some Rows.fnBigSpreadRow.make)) = true := by kernel_rfl
theorem j28 : ((Rows.fnBigSpreadRow.kinds == (if Rows.fnBigSpreadRow.domain.isEmpty then [] else Tryz.f7.params.toList.map fun t => match Tryz.prog.underlying t with | some (.int k) => some k | _ => none))) = true := by kernel_rfl
theorem j29 : ((Rows.fnBigSpreadRow.pinned == Rows.fnBigSpreadRow.pinnedBy)) = true := by kernel_rfl
theorem j30 : ((Rows.fnBigSpreadRow.veiled == (Tryz.f7.params.toList ++ Rows.fnBigSpreadSpec.plain.varTypes Tryz.prog ++ Tryz.f7.resultTypes.toList).any (Tryz.prog.veiledRec ·))) = true := by kernel_rfl
theorem j31 : (Rows.fnBigSpreadRow.veiledFits Tryz.prog Tryz.f7.params.toList (Tryz.f7.params.toList ++ Rows.fnBigSpreadSpec.plain.varTypes Tryz.prog ++ Tryz.f7.resultTypes.toList)) = true := by kernel_rfl
theorem all : joinedFacts Tryz.pinned.checked.prog 7 Tryz.f7 Rows.fnBigSpreadSpec Rows.fnBigSpreadRow = true :=
  joined_of (P := Tryz.prog) j0 j1 j2 j3 j4 j5 j6 j7 j8 j9 j10 j11 j12 j13 j14 j15 j16 j17 j18 j19 j20 j21 j22 j23 j24 j25 j26 j27 j28 j29 j30 j31
end Go.Proofs.YtaiidipcmnejoaaGreatDoor.fnBigSpreadFacts
