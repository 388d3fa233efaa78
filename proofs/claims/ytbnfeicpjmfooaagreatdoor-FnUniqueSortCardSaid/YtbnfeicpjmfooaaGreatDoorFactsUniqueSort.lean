import Derived.Test.YtbnfeicpjmfooaaGreatDoorEnvJ
import Derived.Test.YtbnfeicpjmfooaaGreatDoorCards
namespace Go.Proofs.YtbnfeicpjmfooaaGreatDoor.fnUniqueSortFacts
open Go
set_option maxRecDepth 100000
theorem j0 : (Rows.fnUniqueSortRow.wf (OpenSpec.ofChange Rows.fnUniqueSortSpec)) = true := by kernel_rfl
theorem j1 : (laidOutB Tryz.prog) = true := by kernel_rfl
theorem j2 : (mapsRowed Tryz.prog) = true := by kernel_rfl
theorem j3 : (Tryz.f5.params.all (Tryz.prog.readableRec ·)) = true := by kernel_rfl
theorem j4 : (namedTie Tryz.prog Rows.fnUniqueSortRow.named Rows.fnUniqueSortSpec.vars) = true := by kernel_rfl
theorem j5 : ((Rows.fnUniqueSortRow.stops == [])) = true := by kernel_rfl
theorem j6 : ((Tryz.prog.stops == [])) = true := by kernel_rfl
theorem j7 : ((Rows.fnUniqueSortRow.knobs == [])) = true := by kernel_rfl
theorem j8 : ((Tryz.prog.stopKnobs == [])) = true := by kernel_rfl
theorem j9 : ((Rows.fnUniqueSortRow.inPlace == Tryz.prog.inPlace 5)) = true := by kernel_rfl
theorem j10 : ((Rows.fnUniqueSortRow.unfollowed == Tryz.prog.unfollowed 5)) = true := by kernel_rfl
theorem j11 : ((Rows.fnUniqueSortRow.recurses == Tryz.prog.recurses 5)) = true := by kernel_rfl
theorem j12 : ((Rows.fnUniqueSortRow.named == Tryz.prog.varsNamed 5)) = true := by kernel_rfl
theorem j13 : ((Rows.fnUniqueSortRow.maps == (Tryz.f5.params.toList ++ Rows.fnUniqueSortSpec.plain.varTypes Tryz.prog).any (Tryz.prog.mapsRec ·))) = true := by kernel_rfl
theorem j14 : ((Rows.fnUniqueSortRow.ifaces == (Tryz.f5.params.toList ++ Rows.fnUniqueSortSpec.plain.varTypes Tryz.prog).any (Tryz.prog.ifacesRec ·))) = true := by kernel_rfl
theorem j15 : ((Rows.fnUniqueSortRow.mapsOut == Tryz.prog.mapsAmong Tryz.f5.resultTypes.toList)) = true := by kernel_rfl
theorem j16 : ((Rows.fnUniqueSortRow.loops == (Tryz.f5.params.toList ++ Rows.fnUniqueSortSpec.plain.varTypes Tryz.prog).any (Tryz.prog.loopsFrom ·))) = true := by kernel_rfl
theorem j17 : ((Rows.fnUniqueSortRow.wideKeys == (Tryz.f5.params.toList ++ Rows.fnUniqueSortSpec.plain.varTypes Tryz.prog ++ Tryz.f5.resultTypes.toList).any (Tryz.prog.wideKeysFrom ·))) = true := by kernel_rfl
theorem j18 : (Rows.fnUniqueSortSpec.vars.all (Tryz.prog.varReadable ·)) = true := by kernel_rfl
theorem j19 : (Tryz.f5.resultTypes.all (fun t => Tryz.prog.readableRec t && decide (t < Tryz.prog.types.size))) = true := by kernel_rfl
theorem j20 : ((Rows.fnUniqueSortRow.ifacesOut == Tryz.f5.resultTypes.toList.any (Tryz.prog.ifacesRec ·))) = true := by kernel_rfl
theorem j21 : ((Rows.fnUniqueSortRow.loopsOut == Tryz.f5.resultTypes.toList.any (Tryz.prog.loopsFrom ·))) = true := by kernel_rfl
theorem j22 : ((Rows.fnUniqueSortRow.plainKeys == Tryz.prog.plainKeys)) = true := by kernel_rfl
theorem j23 : (Rows.fnUniqueSortRow.shortTexts.isNone) = true := by kernel_rfl
theorem j24 : (Tryz.prog.stopsHeard) = true := by kernel_rfl
theorem j25 : (Tryz.prog.mayEnter) = true := by kernel_rfl
theorem j26 : ((Rows.fnUniqueSortRow.lifted == Tryz.prog.liftsFinal)) = true := by kernel_rfl
theorem j27 : ((Tryz.prog.make == some Rows.fnUniqueSortRow.make)) = true := by kernel_rfl
theorem j28 : ((Rows.fnUniqueSortRow.kinds == (if Rows.fnUniqueSortRow.domain.isEmpty then [] else Tryz.f5.params.toList.map fun t => match Tryz.prog.underlying t with | some (.int k) => some k | _ => none))) = true := by kernel_rfl
theorem j29 : ((Rows.fnUniqueSortRow.pinned == Rows.fnUniqueSortRow.pinnedBy)) = true := by kernel_rfl
theorem j30 : ((Rows.fnUniqueSortRow.veiled == (Tryz.f5.params.toList ++ Rows.fnUniqueSortSpec.plain.varTypes Tryz.prog ++ Tryz.f5.resultTypes.toList).any (Tryz.prog.veiledRec ·))) = true := by kernel_rfl
theorem j31 : (Rows.fnUniqueSortRow.veiledFits Tryz.prog Tryz.f5.params.toList (Tryz.f5.params.toList ++ Rows.fnUniqueSortSpec.plain.varTypes Tryz.prog ++ Tryz.f5.resultTypes.toList)) = true := by kernel_rfl
theorem all : joinedFacts Tryz.pinned.checked.prog 5 Tryz.f5 Rows.fnUniqueSortSpec Rows.fnUniqueSortRow = true :=
  joined_of (P := Tryz.prog) j0 j1 j2 j3 j4 j5 j6 j7 j8 j9 j10 j11 j12 j13 j14 j15 j16 j17 j18 j19 j20 j21 j22 j23 j24 j25 j26 j27 j28 j29 j30 j31
end Go.Proofs.YtbnfeicpjmfooaaGreatDoor.fnUniqueSortFacts
