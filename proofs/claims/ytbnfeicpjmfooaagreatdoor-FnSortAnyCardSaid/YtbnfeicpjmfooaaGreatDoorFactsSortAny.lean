import Derived.Test.YtbnfeicpjmfooaaGreatDoorEnvJ
import Derived.Test.YtbnfeicpjmfooaaGreatDoorCards
namespace Go.Proofs.YtbnfeicpjmfooaaGreatDoor.fnSortAnyFacts
open Go
set_option maxRecDepth 100000
theorem j0 : (Rows.fnSortAnyRow.wf (OpenSpec.ofChange Rows.fnSortAnySpec)) = true := by kernel_rfl
theorem j1 : (laidOutB Tryz.prog) = true := by kernel_rfl
theorem j2 : (mapsRowed Tryz.prog) = true := by kernel_rfl
theorem j3 : (Tryz.f3.params.all (Tryz.prog.readableRec ·)) = true := by kernel_rfl
theorem j4 : (namedTie Tryz.prog Rows.fnSortAnyRow.named Rows.fnSortAnySpec.vars) = true := by kernel_rfl
theorem j5 : ((Rows.fnSortAnyRow.stops == [])) = true := by kernel_rfl
theorem j6 : ((Tryz.prog.stops == [])) = true := by kernel_rfl
theorem j7 : ((Rows.fnSortAnyRow.knobs == [])) = true := by kernel_rfl
theorem j8 : ((Tryz.prog.stopKnobs == [])) = true := by kernel_rfl
theorem j9 : ((Rows.fnSortAnyRow.inPlace == Tryz.prog.inPlace 3)) = true := by kernel_rfl
theorem j10 : ((Rows.fnSortAnyRow.unfollowed == Tryz.prog.unfollowed 3)) = true := by kernel_rfl
theorem j11 : ((Rows.fnSortAnyRow.recurses == Tryz.prog.recurses 3)) = true := by kernel_rfl
theorem j12 : ((Rows.fnSortAnyRow.named == Tryz.prog.varsNamed 3)) = true := by kernel_rfl
theorem j13 : ((Rows.fnSortAnyRow.maps == (Tryz.f3.params.toList ++ Rows.fnSortAnySpec.plain.varTypes Tryz.prog).any (Tryz.prog.mapsRec ·))) = true := by kernel_rfl
theorem j14 : ((Rows.fnSortAnyRow.ifaces == (Tryz.f3.params.toList ++ Rows.fnSortAnySpec.plain.varTypes Tryz.prog).any (Tryz.prog.ifacesRec ·))) = true := by kernel_rfl
theorem j15 : ((Rows.fnSortAnyRow.mapsOut == Tryz.prog.mapsAmong Tryz.f3.resultTypes.toList)) = true := by kernel_rfl
theorem j16 : ((Rows.fnSortAnyRow.loops == (Tryz.f3.params.toList ++ Rows.fnSortAnySpec.plain.varTypes Tryz.prog).any (Tryz.prog.loopsFrom ·))) = true := by kernel_rfl
theorem j17 : ((Rows.fnSortAnyRow.wideKeys == (Tryz.f3.params.toList ++ Rows.fnSortAnySpec.plain.varTypes Tryz.prog ++ Tryz.f3.resultTypes.toList).any (Tryz.prog.wideKeysFrom ·))) = true := by kernel_rfl
theorem j18 : (Rows.fnSortAnySpec.vars.all (Tryz.prog.varReadable ·)) = true := by kernel_rfl
theorem j19 : (Tryz.f3.resultTypes.all (fun t => Tryz.prog.readableRec t && decide (t < Tryz.prog.types.size))) = true := by kernel_rfl
theorem j20 : ((Rows.fnSortAnyRow.ifacesOut == Tryz.f3.resultTypes.toList.any (Tryz.prog.ifacesRec ·))) = true := by kernel_rfl
theorem j21 : ((Rows.fnSortAnyRow.loopsOut == Tryz.f3.resultTypes.toList.any (Tryz.prog.loopsFrom ·))) = true := by kernel_rfl
theorem j22 : ((Rows.fnSortAnyRow.plainKeys == Tryz.prog.plainKeys)) = true := by kernel_rfl
theorem j23 : (Rows.fnSortAnyRow.shortTexts.isNone) = true := by kernel_rfl
theorem j24 : (Tryz.prog.stopsHeard) = true := by kernel_rfl
theorem j25 : (Tryz.prog.mayEnter) = true := by kernel_rfl
theorem j26 : ((Rows.fnSortAnyRow.lifted == Tryz.prog.liftsFinal)) = true := by kernel_rfl
theorem j27 : ((Tryz.prog.make == some Rows.fnSortAnyRow.make)) = true := by kernel_rfl
theorem j28 : ((Rows.fnSortAnyRow.kinds == (if Rows.fnSortAnyRow.domain.isEmpty then [] else Tryz.f3.params.toList.map fun t => match Tryz.prog.underlying t with | some (.int k) => some k | _ => none))) = true := by kernel_rfl
theorem j29 : ((Rows.fnSortAnyRow.pinned == Rows.fnSortAnyRow.pinnedBy)) = true := by kernel_rfl
theorem j30 : ((Rows.fnSortAnyRow.veiled == (Tryz.f3.params.toList ++ Rows.fnSortAnySpec.plain.varTypes Tryz.prog ++ Tryz.f3.resultTypes.toList).any (Tryz.prog.veiledRec ·))) = true := by kernel_rfl
theorem j31 : (Rows.fnSortAnyRow.veiledFits Tryz.prog Tryz.f3.params.toList (Tryz.f3.params.toList ++ Rows.fnSortAnySpec.plain.varTypes Tryz.prog ++ Tryz.f3.resultTypes.toList)) = true := by kernel_rfl
theorem all : joinedFacts Tryz.pinned.checked.prog 3 Tryz.f3 Rows.fnSortAnySpec Rows.fnSortAnyRow = true :=
  joined_of (P := Tryz.prog) j0 j1 j2 j3 j4 j5 j6 j7 j8 j9 j10 j11 j12 j13 j14 j15 j16 j17 j18 j19 j20 j21 j22 j23 j24 j25 j26 j27 j28 j29 j30 j31
end Go.Proofs.YtbnfeicpjmfooaaGreatDoor.fnSortAnyFacts
