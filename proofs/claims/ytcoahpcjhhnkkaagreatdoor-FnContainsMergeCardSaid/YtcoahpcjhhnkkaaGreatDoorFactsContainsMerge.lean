import Derived.Test.YtcoahpcjhhnkkaaGreatDoorEnvJ
import Derived.Test.YtcoahpcjhhnkkaaGreatDoorCards
namespace Go.Proofs.YtcoahpcjhhnkkaaGreatDoor.fnContainsMergeFacts
open Go
set_option maxRecDepth 100000
theorem j0 : (Rows.fnContainsMergeRow.wf (OpenSpec.ofChange Rows.fnContainsMergeSpec)) = true := by kernel_rfl
theorem j1 : (laidOutB Tryz.prog) = true := by kernel_rfl
theorem j2 : (mapsRowed Tryz.prog) = true := by kernel_rfl
theorem j3 : (Tryz.f8.params.all (Tryz.prog.readableRec ·)) = true := by kernel_rfl
theorem j4 : (namedTie Tryz.prog Rows.fnContainsMergeRow.named Rows.fnContainsMergeSpec.vars) = true := by kernel_rfl
theorem j5 : ((Rows.fnContainsMergeRow.stops == [])) = true := by kernel_rfl
theorem j6 : ((Tryz.prog.stops == [])) = true := by kernel_rfl
theorem j7 : ((Rows.fnContainsMergeRow.knobs == [])) = true := by kernel_rfl
theorem j8 : ((Tryz.prog.stopKnobs == [])) = true := by kernel_rfl
theorem j9 : ((Rows.fnContainsMergeRow.inPlace == Tryz.prog.inPlace 8)) = true := by kernel_rfl
theorem j10 : ((Rows.fnContainsMergeRow.unfollowed == Tryz.prog.unfollowed 8)) = true := by kernel_rfl
theorem j11 : ((Rows.fnContainsMergeRow.recurses == Tryz.prog.recurses 8)) = true := by kernel_rfl
theorem j12 : ((Rows.fnContainsMergeRow.named == Tryz.prog.varsNamed 8)) = true := by kernel_rfl
theorem j13 : ((Rows.fnContainsMergeRow.maps == (Tryz.f8.params.toList ++ Rows.fnContainsMergeSpec.plain.varTypes Tryz.prog).any (Tryz.prog.mapsRec ·))) = true := by kernel_rfl
theorem j14 : ((Rows.fnContainsMergeRow.ifaces == (Tryz.f8.params.toList ++ Rows.fnContainsMergeSpec.plain.varTypes Tryz.prog).any (Tryz.prog.ifacesRec ·))) = true := by kernel_rfl
theorem j15 : ((Rows.fnContainsMergeRow.mapsOut == Tryz.prog.mapsAmong Tryz.f8.resultTypes.toList)) = true := by kernel_rfl
theorem j16 : ((Rows.fnContainsMergeRow.loops == (Tryz.f8.params.toList ++ Rows.fnContainsMergeSpec.plain.varTypes Tryz.prog).any (Tryz.prog.loopsFrom ·))) = true := by kernel_rfl
theorem j17 : ((Rows.fnContainsMergeRow.wideKeys == (Tryz.f8.params.toList ++ Rows.fnContainsMergeSpec.plain.varTypes Tryz.prog ++ Tryz.f8.resultTypes.toList).any (Tryz.prog.wideKeysFrom ·))) = true := by kernel_rfl
theorem j18 : (Rows.fnContainsMergeSpec.vars.all (Tryz.prog.varReadable ·)) = true := by kernel_rfl
theorem j19 : (Tryz.f8.resultTypes.all (fun t => Tryz.prog.readableRec t && decide (t < Tryz.prog.types.size))) = true := by kernel_rfl
theorem j20 : ((Rows.fnContainsMergeRow.ifacesOut == Tryz.f8.resultTypes.toList.any (Tryz.prog.ifacesRec ·))) = true := by kernel_rfl
theorem j21 : ((Rows.fnContainsMergeRow.loopsOut == Tryz.f8.resultTypes.toList.any (Tryz.prog.loopsFrom ·))) = true := by kernel_rfl
theorem j22 : ((Rows.fnContainsMergeRow.plainKeys == Tryz.prog.plainKeys)) = true := by kernel_rfl
theorem j23 : (Rows.fnContainsMergeRow.shortTexts.isNone) = true := by kernel_rfl
theorem j24 : (Tryz.prog.stopsHeard) = true := by kernel_rfl
theorem j25 : (Tryz.prog.mayEnter) = true := by kernel_rfl
theorem j26 : ((Rows.fnContainsMergeRow.lifted == Tryz.prog.liftsFinal)) = true := by kernel_rfl
theorem j27 : ((Tryz.prog.make == some Rows.fnContainsMergeRow.make)) = true := by kernel_rfl
theorem j28 : ((Rows.fnContainsMergeRow.kinds == (if Rows.fnContainsMergeRow.domain.isEmpty then [] else Tryz.f8.params.toList.map fun t => match Tryz.prog.underlying t with | some (.int k) => some k | _ => none))) = true := by kernel_rfl
theorem j29 : ((Rows.fnContainsMergeRow.pinned == Rows.fnContainsMergeRow.pinnedBy)) = true := by kernel_rfl
theorem j30 : ((Rows.fnContainsMergeRow.veiled == (Tryz.f8.params.toList ++ Rows.fnContainsMergeSpec.plain.varTypes Tryz.prog ++ Tryz.f8.resultTypes.toList).any (Tryz.prog.veiledRec ·))) = true := by kernel_rfl
theorem j31 : (Rows.fnContainsMergeRow.veiledFits Tryz.prog Tryz.f8.params.toList (Tryz.f8.params.toList ++ Rows.fnContainsMergeSpec.plain.varTypes Tryz.prog ++ Tryz.f8.resultTypes.toList)) = true := by kernel_rfl
theorem all : joinedFacts Tryz.pinned.checked.prog 8 Tryz.f8 Rows.fnContainsMergeSpec Rows.fnContainsMergeRow = true :=
  joined_of (P := Tryz.prog) j0 j1 j2 j3 j4 j5 j6 j7 j8 j9 j10 j11 j12 j13 j14 j15 j16 j17 j18 j19 j20 j21 j22 j23 j24 j25 j26 j27 j28 j29 j30 j31
end Go.Proofs.YtcoahpcjhhnkkaaGreatDoor.fnContainsMergeFacts
