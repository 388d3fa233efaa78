import Derived.Test.YtcoahpcjhhnkkaaGreatDoorEnvJ
import Derived.Test.YtcoahpcjhhnkkaaGreatDoorCards
namespace Go.Proofs.YtcoahpcjhhnkkaaGreatDoor.fnContainsSomeFacts
open Go
set_option maxRecDepth 100000
theorem j0 : (Rows.fnContainsSomeRow.wf (OpenSpec.ofChange Rows.fnContainsSomeSpec)) = true := by kernel_rfl
theorem j1 : (laidOutB Tryz.prog) = true := by kernel_rfl
theorem j2 : (mapsRowed Tryz.prog) = true := by kernel_rfl
theorem j3 : (Tryz.f5.params.all (Tryz.prog.readableRec ·)) = true := by kernel_rfl
theorem j4 : (namedTie Tryz.prog Rows.fnContainsSomeRow.named Rows.fnContainsSomeSpec.vars) = true := by kernel_rfl
theorem j5 : ((Rows.fnContainsSomeRow.stops == [])) = true := by kernel_rfl
theorem j6 : ((Tryz.prog.stops == [])) = true := by kernel_rfl
theorem j7 : ((Rows.fnContainsSomeRow.knobs == [])) = true := by kernel_rfl
theorem j8 : ((Tryz.prog.stopKnobs == [])) = true := by kernel_rfl
theorem j9 : ((Rows.fnContainsSomeRow.inPlace == Tryz.prog.inPlace 5)) = true := by kernel_rfl
theorem j10 : ((Rows.fnContainsSomeRow.unfollowed == Tryz.prog.unfollowed 5)) = true := by kernel_rfl
theorem j11 : ((Rows.fnContainsSomeRow.recurses == Tryz.prog.recurses 5)) = true := by kernel_rfl
theorem j12 : ((Rows.fnContainsSomeRow.named == Tryz.prog.varsNamed 5)) = true := by kernel_rfl
theorem j13 : ((Rows.fnContainsSomeRow.maps == (Tryz.f5.params.toList ++ Rows.fnContainsSomeSpec.plain.varTypes Tryz.prog).any (Tryz.prog.mapsRec ·))) = true := by kernel_rfl
theorem j14 : ((Rows.fnContainsSomeRow.ifaces == (Tryz.f5.params.toList ++ Rows.fnContainsSomeSpec.plain.varTypes Tryz.prog).any (Tryz.prog.ifacesRec ·))) = true := by kernel_rfl
theorem j15 : ((Rows.fnContainsSomeRow.mapsOut == Tryz.prog.mapsAmong Tryz.f5.resultTypes.toList)) = true := by kernel_rfl
theorem j16 : ((Rows.fnContainsSomeRow.loops == (Tryz.f5.params.toList ++ Rows.fnContainsSomeSpec.plain.varTypes Tryz.prog).any (Tryz.prog.loopsFrom ·))) = true := by kernel_rfl
theorem j17 : ((Rows.fnContainsSomeRow.wideKeys == (Tryz.f5.params.toList ++ Rows.fnContainsSomeSpec.plain.varTypes Tryz.prog ++ Tryz.f5.resultTypes.toList).any (Tryz.prog.wideKeysFrom ·))) = true := by kernel_rfl
theorem j18 : (Rows.fnContainsSomeSpec.vars.all (Tryz.prog.varReadable ·)) = true := by kernel_rfl
theorem j19 : (Tryz.f5.resultTypes.all (fun t => Tryz.prog.readableRec t && decide (t < Tryz.prog.types.size))) = true := by kernel_rfl
theorem j20 : ((Rows.fnContainsSomeRow.ifacesOut == Tryz.f5.resultTypes.toList.any (Tryz.prog.ifacesRec ·))) = true := by kernel_rfl
theorem j21 : ((Rows.fnContainsSomeRow.loopsOut == Tryz.f5.resultTypes.toList.any (Tryz.prog.loopsFrom ·))) = true := by kernel_rfl
theorem j22 : ((Rows.fnContainsSomeRow.plainKeys == Tryz.prog.plainKeys)) = true := by kernel_rfl
theorem j23 : (Rows.fnContainsSomeRow.shortTexts.isNone) = true := by kernel_rfl
theorem j24 : (Tryz.prog.stopsHeard) = true := by kernel_rfl
theorem j25 : (Tryz.prog.mayEnter) = true := by kernel_rfl
theorem j26 : ((Rows.fnContainsSomeRow.lifted == Tryz.prog.liftsFinal)) = true := by kernel_rfl
theorem j27 : ((Tryz.prog.make == some Rows.fnContainsSomeRow.make)) = true := by kernel_rfl
theorem j28 : ((Rows.fnContainsSomeRow.kinds == (if Rows.fnContainsSomeRow.domain.isEmpty then [] else Tryz.f5.params.toList.map fun t => match Tryz.prog.underlying t with | some (.int k) => some k | _ => none))) = true := by kernel_rfl
theorem j29 : ((Rows.fnContainsSomeRow.pinned == Rows.fnContainsSomeRow.pinnedBy)) = true := by kernel_rfl
theorem j30 : ((Rows.fnContainsSomeRow.veiled == (Tryz.f5.params.toList ++ Rows.fnContainsSomeSpec.plain.varTypes Tryz.prog ++ Tryz.f5.resultTypes.toList).any (Tryz.prog.veiledRec ·))) = true := by kernel_rfl
theorem j31 : (Rows.fnContainsSomeRow.veiledFits Tryz.prog Tryz.f5.params.toList (Tryz.f5.params.toList ++ Rows.fnContainsSomeSpec.plain.varTypes Tryz.prog ++ Tryz.f5.resultTypes.toList)) = true := by kernel_rfl
theorem all : joinedFacts Tryz.pinned.checked.prog 5 Tryz.f5 Rows.fnContainsSomeSpec Rows.fnContainsSomeRow = true :=
  joined_of (P := Tryz.prog) j0 j1 j2 j3 j4 j5 j6 j7 j8 j9 j10 j11 j12 j13 j14 j15 j16 j17 j18 j19 j20 j21 j22 j23 j24 j25 j26 j27 j28 j29 j30 j31
end Go.Proofs.YtcoahpcjhhnkkaaGreatDoor.fnContainsSomeFacts
