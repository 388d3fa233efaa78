import Derived.Test.YtaiidipcmnejoaaGreatDoorEnvJ
namespace Go.Proofs.YtaiidipcmnejoaaGreatDoor.fnBigDifferFacts
open Go
set_option maxRecDepth 100000
theorem j0 : (Rows.fnBigDifferRow.wf (OpenSpec.ofChange Rows.fnBigDifferSpec)) = true := by kernel_rfl
theorem j1 : (laidOutB Tryz.prog) = true := by kernel_rfl
theorem j2 : (mapsRowed Tryz.prog) = true := by kernel_rfl
theorem j3 : (Tryz.f11.params.all (Tryz.prog.readableRec ·)) = true := by kernel_rfl
theorem j4 : (namedTie Tryz.prog Rows.fnBigDifferRow.named Rows.fnBigDifferSpec.vars) = true := by kernel_rfl
theorem j5 : ((Rows.fnBigDifferRow.stops == [])) = true := by kernel_rfl
theorem j6 : ((Tryz.prog.stops == [])) = true := by kernel_rfl
theorem j7 : ((Rows.fnBigDifferRow.knobs == [])) = true := by kernel_rfl
theorem j8 : ((Tryz.prog.stopKnobs == [])) = true := by kernel_rfl
theorem j9 : ((Rows.fnBigDifferRow.inPlace == Tryz.prog.inPlace 11)) = true := by kernel_rfl
theorem j10 : ((Rows.fnBigDifferRow.unfollowed == Tryz.prog.unfollowed 11)) = true := by kernel_rfl
theorem j11 : ((Rows.fnBigDifferRow.recurses == Tryz.prog.recurses 11)) = true := by kernel_rfl
theorem j12 : ((Rows.fnBigDifferRow.named == Tryz.prog.varsNamed 11)) = true := by kernel_rfl
theorem j13 : ((Rows.fnBigDifferRow.maps == (Tryz.f11.params.toList ++ Rows.fnBigDifferSpec.plain.varTypes Tryz.prog).any (Tryz.prog.mapsRec ·))) = true := by kernel_rfl
theorem j14 : ((Rows.fnBigDifferRow.ifaces == (Tryz.f11.params.toList ++ Rows.fnBigDifferSpec.plain.varTypes Tryz.prog).any (Tryz.prog.ifacesRec ·))) = true := by kernel_rfl
theorem j15 : ((Rows.fnBigDifferRow.mapsOut == Tryz.prog.mapsAmong Tryz.f11.resultTypes.toList)) = true := by kernel_rfl
theorem j16 : ((Rows.fnBigDifferRow.loops == (Tryz.f11.params.toList ++ Rows.fnBigDifferSpec.plain.varTypes Tryz.prog).any (Tryz.prog.loopsFrom ·))) = true := by kernel_rfl
theorem j17 : ((Rows.fnBigDifferRow.wideKeys == (Tryz.f11.params.toList ++ Rows.fnBigDifferSpec.plain.varTypes Tryz.prog ++ Tryz.f11.resultTypes.toList).any (Tryz.prog.wideKeysFrom ·))) = true := by kernel_rfl
theorem j18 : (Rows.fnBigDifferSpec.vars.all (Tryz.prog.varReadable ·)) = true := by kernel_rfl
theorem j19 : (Tryz.f11.resultTypes.all (fun t => Tryz.prog.readableRec t && decide (t < Tryz.prog.types.size))) = true := by kernel_rfl
theorem j20 : ((Rows.fnBigDifferRow.ifacesOut == Tryz.f11.resultTypes.toList.any (Tryz.prog.ifacesRec ·))) = true := by kernel_rfl
theorem j21 : ((Rows.fnBigDifferRow.loopsOut == Tryz.f11.resultTypes.toList.any (Tryz.prog.loopsFrom ·))) = true := by kernel_rfl
theorem j22 : ((Rows.fnBigDifferRow.plainKeys == Tryz.prog.plainKeys)) = true := by kernel_rfl
theorem j23 : (Rows.fnBigDifferRow.shortTexts.isNone) = true := by kernel_rfl
theorem j24 : (Tryz.prog.stopsHeard) = true := by kernel_rfl
theorem j25 : (Tryz.prog.mayEnter) = true := by kernel_rfl
theorem j26 : ((Rows.fnBigDifferRow.lifted == Tryz.prog.liftsFinal)) = true := by kernel_rfl
theorem j27 : ((Tryz.prog.make == some Rows.fnBigDifferRow.make)) = true := by kernel_rfl
theorem j28 : ((Rows.fnBigDifferRow.kinds == (if Rows.fnBigDifferRow.domain.isEmpty then [] else Tryz.f11.params.toList.map fun t => match Tryz.prog.underlying t with | some (.int k) => some k | _ => none))) = true := by kernel_rfl
theorem j29 : ((Rows.fnBigDifferRow.pinned == Rows.fnBigDifferRow.pinnedBy)) = true := by kernel_rfl
theorem j30 : ((Rows.fnBigDifferRow.veiled == (Tryz.f11.params.toList ++ Rows.fnBigDifferSpec.plain.varTypes Tryz.prog ++ Tryz.f11.resultTypes.toList).any (Tryz.prog.veiledRec ·))) = true := by kernel_rfl
theorem j31 : (Rows.fnBigDifferRow.veiledFits Tryz.prog Tryz.f11.params.toList (Tryz.f11.params.toList ++ Rows.fnBigDifferSpec.plain.varTypes Tryz.prog ++ Tryz.f11.resultTypes.toList)) = true := by kernel_rfl
theorem all : joinedFacts Tryz.pinned.checked.prog 11 Tryz.f11 Rows.fnBigDifferSpec Rows.fnBigDifferRow = true :=
  joined_of (P := Tryz.prog) j0 j1 j2 j3 j4 j5 j6 j7 j8 j9 j10 j11 j12 j13 j14 j15 j16 j17 j18 j19 j20 j21 j22 j23 j24 j25 j26 j27 j28 j29 j30 j31
end Go.Proofs.YtaiidipcmnejoaaGreatDoor.fnBigDifferFacts
