import Derived.Test.YtcoahpcjhhnkkaaGreatDoorEnvJ
import Derived.Test.YtcoahpcjhhnkkaaGreatDoorCards
namespace Go.Proofs.YtcoahpcjhhnkkaaGreatDoor.fnSubListsFacts
open Go
set_option maxRecDepth 100000
theorem j0 : (Rows.fnSubListsRow.wf (OpenSpec.ofChange Rows.fnSubListsSpec)) = true := by kernel_rfl
theorem j1 : (laidOutB Tryz.prog) = true := by kernel_rfl
theorem j2 : (mapsRowed Tryz.prog) = true := by kernel_rfl
theorem j3 : (Tryz.f10.params.all (Tryz.prog.readableRec ·)) = true := by kernel_rfl
theorem j4 : (namedTie Tryz.prog Rows.fnSubListsRow.named Rows.fnSubListsSpec.vars) = true := by kernel_rfl
theorem j5 : ((Rows.fnSubListsRow.stops == [])) = true := by kernel_rfl
theorem j6 : ((Tryz.prog.stops == [])) = true := by kernel_rfl
theorem j7 : ((Rows.fnSubListsRow.knobs == [])) = true := by kernel_rfl
theorem j8 : ((Tryz.prog.stopKnobs == [])) = true := by kernel_rfl
theorem j9 : ((Rows.fnSubListsRow.inPlace == Tryz.prog.inPlace 10)) = true := by kernel_rfl
theorem j10 : ((Rows.fnSubListsRow.unfollowed == Tryz.prog.unfollowed 10)) = true := by kernel_rfl
theorem j11 : ((Rows.fnSubListsRow.recurses == Tryz.prog.recurses 10)) = true := by kernel_rfl
theorem j12 : ((Rows.fnSubListsRow.named == Tryz.prog.varsNamed 10)) = true := by kernel_rfl
theorem j13 : ((Rows.fnSubListsRow.maps == (Tryz.f10.params.toList ++ Rows.fnSubListsSpec.plain.varTypes Tryz.prog).any (Tryz.prog.mapsRec ·))) = true := by kernel_rfl
theorem j14 : ((Rows.fnSubListsRow.ifaces == (Tryz.f10.params.toList ++ Rows.fnSubListsSpec.plain.varTypes Tryz.prog).any (Tryz.prog.ifacesRec ·))) = true := by kernel_rfl
theorem j15 : ((Rows.fnSubListsRow.mapsOut == Tryz.prog.mapsAmong Tryz.f10.resultTypes.toList)) = true := by kernel_rfl
theorem j16 : ((Rows.fnSubListsRow.loops == (Tryz.f10.params.toList ++ Rows.fnSubListsSpec.plain.varTypes Tryz.prog).any (Tryz.prog.loopsFrom ·))) = true := by kernel_rfl
theorem j17 : ((Rows.fnSubListsRow.wideKeys == (Tryz.f10.params.toList ++ Rows.fnSubListsSpec.plain.varTypes Tryz.prog ++ Tryz.f10.resultTypes.toList).any (Tryz.prog.wideKeysFrom ·))) = true := by kernel_rfl
theorem j18 : (Rows.fnSubListsSpec.vars.all (Tryz.prog.varReadable ·)) = true := by kernel_rfl
theorem j19 : (Tryz.f10.resultTypes.all (fun t => Tryz.prog.readableRec t && decide (t < Tryz.prog.types.size))) = true := by kernel_rfl
theorem j20 : ((Rows.fnSubListsRow.ifacesOut == Tryz.f10.resultTypes.toList.any (Tryz.prog.ifacesRec ·))) = true := by kernel_rfl
theorem j21 : ((Rows.fnSubListsRow.loopsOut == Tryz.f10.resultTypes.toList.any (Tryz.prog.loopsFrom ·))) = true := by kernel_rfl
theorem j22 : ((Rows.fnSubListsRow.plainKeys == Tryz.prog.plainKeys)) = true := by kernel_rfl
theorem j23 : (Rows.fnSubListsRow.shortTexts.isNone) = true := by kernel_rfl
theorem j24 : (Tryz.prog.stopsHeard) = true := by kernel_rfl
theorem j25 : (Tryz.prog.mayEnter) = true := by kernel_rfl
theorem j26 : ((Rows.fnSubListsRow.lifted == Tryz.prog.liftsFinal)) = true := by kernel_rfl
theorem j27 : ((Tryz.prog.make == some Rows.fnSubListsRow.make)) = true := by kernel_rfl
theorem j28 : ((Rows.fnSubListsRow.kinds == (if Rows.fnSubListsRow.domain.isEmpty then [] else Tryz.f10.params.toList.map fun t => match Tryz.prog.underlying t with | some (.int k) => some k | _ => none))) = true := by kernel_rfl
theorem j29 : ((Rows.fnSubListsRow.pinned == Rows.fnSubListsRow.pinnedBy)) = true := by kernel_rfl
theorem j30 : ((Rows.fnSubListsRow.veiled == (Tryz.f10.params.toList ++ Rows.fnSubListsSpec.plain.varTypes Tryz.prog ++ Tryz.f10.resultTypes.toList).any (Tryz.prog.veiledRec ·))) = true := by kernel_rfl
theorem j31 : (Rows.fnSubListsRow.veiledFits Tryz.prog Tryz.f10.params.toList (Tryz.f10.params.toList ++ Rows.fnSubListsSpec.plain.varTypes Tryz.prog ++ Tryz.f10.resultTypes.toList)) = true := by kernel_rfl
theorem all : joinedFacts Tryz.pinned.checked.prog 10 Tryz.f10 Rows.fnSubListsSpec Rows.fnSubListsRow = true :=
  joined_of (P := Tryz.prog) j0 j1 j2 j3 j4 j5 j6 j7 j8 j9 j10 j11 j12 j13 j14 j15 j16 j17 j18 j19 j20 j21 j22 j23 j24 j25 j26 j27 j28 j29 j30 j31
end Go.Proofs.YtcoahpcjhhnkkaaGreatDoor.fnSubListsFacts
