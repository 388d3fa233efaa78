import Derived.Test.YtbnfeicpjmfooaaGreatDoorEnvJ
import Derived.Test.YtbnfeicpjmfooaaGreatDoorCards
namespace Go.Proofs.YtbnfeicpjmfooaaGreatDoor.fnMinMaxFacts
open Go
set_option maxRecDepth 100000
theorem j0 : (Rows.fnMinMaxRow.wf (OpenSpec.ofChange Rows.fnMinMaxSpec)) = true := by kernel_rfl
theorem j1 : (laidOutB Tryz.prog) = true := by kernel_rfl
theorem j2 : (mapsRowed Tryz.prog) = true := by kernel_rfl
theorem j3 : (Tryz.f6.params.all (Tryz.prog.readableRec ·)) = true := by kernel_rfl
theorem j4 : (namedTie Tryz.prog Rows.fnMinMaxRow.named Rows.fnMinMaxSpec.vars) = true := by kernel_rfl
theorem j5 : ((Rows.fnMinMaxRow.stops == [])) = true := by kernel_rfl
theorem j6 : ((Tryz.prog.stops == [])) = true := by kernel_rfl
theorem j7 : ((Rows.fnMinMaxRow.knobs == [])) = true := by kernel_rfl
theorem j8 : ((Tryz.prog.stopKnobs == [])) = true := by kernel_rfl
theorem j9 : ((Rows.fnMinMaxRow.inPlace == Tryz.prog.inPlace 6)) = true := by kernel_rfl
theorem j10 : ((Rows.fnMinMaxRow.unfollowed == Tryz.prog.unfollowed 6)) = true := by kernel_rfl
theorem j11 : ((Rows.fnMinMaxRow.recurses == Tryz.prog.recurses 6)) = true := by kernel_rfl
theorem j12 : ((Rows.fnMinMaxRow.named == Tryz.prog.varsNamed 6)) = true := by kernel_rfl
theorem j13 : ((Rows.fnMinMaxRow.maps == (Tryz.f6.params.toList ++ Rows.fnMinMaxSpec.plain.varTypes Tryz.prog).any (Tryz.prog.mapsRec ·))) = true := by kernel_rfl
theorem j14 : ((Rows.fnMinMaxRow.ifaces == (Tryz.f6.params.toList ++ Rows.fnMinMaxSpec.plain.varTypes Tryz.prog).any (Tryz.prog.ifacesRec ·))) = true := by kernel_rfl
theorem j15 : ((Rows.fnMinMaxRow.mapsOut == Tryz.prog.mapsAmong Tryz.f6.resultTypes.toList)) = true := by kernel_rfl
theorem j16 : ((Rows.fnMinMaxRow.loops == (Tryz.f6.params.toList ++ Rows.fnMinMaxSpec.plain.varTypes Tryz.prog).any (Tryz.prog.loopsFrom ·))) = true := by kernel_rfl
theorem j17 : ((Rows.fnMinMaxRow.wideKeys == (Tryz.f6.params.toList ++ Rows.fnMinMaxSpec.plain.varTypes Tryz.prog ++ Tryz.f6.resultTypes.toList).any (Tryz.prog.wideKeysFrom ·))) = true := by kernel_rfl
theorem j18 : (Rows.fnMinMaxSpec.vars.all (Tryz.prog.varReadable ·)) = true := by kernel_rfl
theorem j19 : (Tryz.f6.resultTypes.all (fun t => Tryz.prog.readableRec t && decide (t < Tryz.prog.types.size))) = true := by kernel_rfl
theorem j20 : ((Rows.fnMinMaxRow.ifacesOut == Tryz.f6.resultTypes.toList.any (Tryz.prog.ifacesRec ·))) = true := by kernel_rfl
theorem j21 : ((Rows.fnMinMaxRow.loopsOut == Tryz.f6.resultTypes.toList.any (Tryz.prog.loopsFrom ·))) = true := by kernel_rfl
theorem j22 : ((Rows.fnMinMaxRow.plainKeys == Tryz.prog.plainKeys)) = true := by kernel_rfl
theorem j23 : (Rows.fnMinMaxRow.shortTexts.isNone) = true := by kernel_rfl
theorem j24 : (Tryz.prog.stopsHeard) = true := by kernel_rfl
theorem j25 : (Tryz.prog.mayEnter) = true := by kernel_rfl
theorem j26 : ((Rows.fnMinMaxRow.lifted == Tryz.prog.liftsFinal)) = true := by kernel_rfl
theorem j27 : ((Tryz.prog.make == some Rows.fnMinMaxRow.make)) = true := by kernel_rfl
theorem j28 : ((Rows.fnMinMaxRow.kinds == (if Rows.fnMinMaxRow.domain.isEmpty then [] else Tryz.f6.params.toList.map fun t => match Tryz.prog.underlying t with | some (.int k) => some k | _ => none))) = true := by kernel_rfl
theorem j29 : ((Rows.fnMinMaxRow.pinned == Rows.fnMinMaxRow.pinnedBy)) = true := by kernel_rfl
theorem j30 : ((Rows.fnMinMaxRow.veiled == (Tryz.f6.params.toList ++ Rows.fnMinMaxSpec.plain.varTypes Tryz.prog ++ Tryz.f6.resultTypes.toList).any (Tryz.prog.veiledRec ·))) = true := by kernel_rfl
theorem j31 : (Rows.fnMinMaxRow.veiledFits Tryz.prog Tryz.f6.params.toList (Tryz.f6.params.toList ++ Rows.fnMinMaxSpec.plain.varTypes Tryz.prog ++ Tryz.f6.resultTypes.toList)) = true := by kernel_rfl
theorem all : joinedFacts Tryz.pinned.checked.prog 6 Tryz.f6 Rows.fnMinMaxSpec Rows.fnMinMaxRow = true :=
  joined_of (P := Tryz.prog) j0 j1 j2 j3 j4 j5 j6 j7 j8 j9 j10 j11 j12 j13 j14 j15 j16 j17 j18 j19 j20 j21 j22 j23 j24 j25 j26 j27 j28 j29 j30 j31
end Go.Proofs.YtbnfeicpjmfooaaGreatDoor.fnMinMaxFacts
