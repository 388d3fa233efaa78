import Derived.Test.YtdcgjfiknknjfaaGreatDoorEnvJ
import Derived.Test.YtdcgjfiknknjfaaGreatDoorCards
namespace Go.Proofs.YtdcgjfiknknjfaaGreatDoor.fnTypeFirstFacts
open Go
set_option maxRecDepth 100000
theorem j0 : (Rows.fnTypeFirstRow.wf (OpenSpec.ofChange Rows.fnTypeFirstSpec)) = true := by kernel_rfl
theorem j1 : (laidOutB Tryz.prog) = true := by kernel_rfl
theorem j2 : (mapsRowed Tryz.prog) = true := by kernel_rfl
theorem j3 : (Tryz.f7.params.all (Tryz.prog.readableRec ·)) = true := by kernel_rfl
theorem j4 : (namedTie Tryz.prog Rows.fnTypeFirstRow.named Rows.fnTypeFirstSpec.vars) = true := by kernel_rfl
theorem j5 : ((Rows.fnTypeFirstRow.stops == [])) = true := by kernel_rfl
theorem j6 : ((Tryz.prog.stops == [])) = true := by kernel_rfl
theorem j7 : ((Rows.fnTypeFirstRow.knobs == [])) = true := by kernel_rfl
theorem j8 : ((Tryz.prog.stopKnobs == [])) = true := by kernel_rfl
theorem j9 : ((Rows.fnTypeFirstRow.inPlace == Tryz.prog.inPlace 7)) = true := by kernel_rfl
theorem j10 : ((Rows.fnTypeFirstRow.unfollowed == Tryz.prog.unfollowed 7)) = true := by kernel_rfl
theorem j11 : ((Rows.fnTypeFirstRow.recurses == Tryz.prog.recurses 7)) = true := by kernel_rfl
theorem j12 : ((Rows.fnTypeFirstRow.named == Tryz.prog.varsNamed 7)) = true := by kernel_rfl
theorem j13 : ((Rows.fnTypeFirstRow.maps == (Tryz.f7.params.toList ++ Rows.fnTypeFirstSpec.plain.varTypes Tryz.prog).any (Tryz.prog.mapsRec ·))) = true := by kernel_rfl
theorem j14 : ((Rows.fnTypeFirstRow.ifaces == (Tryz.f7.params.toList ++ Rows.fnTypeFirstSpec.plain.varTypes Tryz.prog).any (Tryz.prog.ifacesRec ·))) = true := by kernel_rfl
theorem j15 : ((Rows.fnTypeFirstRow.mapsOut == Tryz.prog.mapsAmong Tryz.f7.resultTypes.toList)) = true := by kernel_rfl
theorem j16 : ((Rows.fnTypeFirstRow.loops == (Tryz.f7.params.toList ++ Rows.fnTypeFirstSpec.plain.varTypes Tryz.prog).any (Tryz.prog.loopsFrom ·))) = true := by kernel_rfl
theorem j17 : ((Rows.fnTypeFirstRow.wideKeys == (Tryz.f7.params.toList ++ Rows.fnTypeFirstSpec.plain.varTypes Tryz.prog ++ Tryz.f7.resultTypes.toList).any (Tryz.prog.wideKeysFrom ·))) = true := by kernel_rfl
theorem j18 : (Rows.fnTypeFirstSpec.vars.all (Tryz.prog.varReadable ·)) = true := by kernel_rfl
theorem j19 : (Tryz.f7.resultTypes.all (fun t => Tryz.prog.readableRec t && decide (t < Tryz.prog.types.size))) = true := by kernel_rfl
theorem j20 : ((Rows.fnTypeFirstRow.ifacesOut == Tryz.f7.resultTypes.toList.any (Tryz.prog.ifacesRec ·))) = true := by kernel_rfl
theorem j21 : ((Rows.fnTypeFirstRow.loopsOut == Tryz.f7.resultTypes.toList.any (Tryz.prog.loopsFrom ·))) = true := by kernel_rfl
theorem j22 : ((Rows.fnTypeFirstRow.plainKeys == Tryz.prog.plainKeys)) = true := by kernel_rfl
theorem j23 : (Rows.fnTypeFirstRow.shortTexts.isNone) = true := by kernel_rfl
theorem j24 : (Tryz.prog.stopsHeard) = true := by kernel_rfl
theorem j25 : (Tryz.prog.mayEnter) = true := by kernel_rfl
theorem j26 : ((Rows.fnTypeFirstRow.lifted == Tryz.prog.liftsFinal)) = true := by kernel_rfl
theorem j27 : ((Tryz.prog.make == some Rows.fnTypeFirstRow.make)) = true := by kernel_rfl
theorem j28 : ((Rows.fnTypeFirstRow.kinds == (if Rows.fnTypeFirstRow.domain.isEmpty then [] else Tryz.f7.params.toList.map fun t => match Tryz.prog.underlying t with | some (.int k) => some k | _ => none))) = true := by kernel_rfl
theorem j29 : ((Rows.fnTypeFirstRow.pinned == Rows.fnTypeFirstRow.pinnedBy)) = true := by kernel_rfl
theorem j30 : ((Rows.fnTypeFirstRow.veiled == (Tryz.f7.params.toList ++ Rows.fnTypeFirstSpec.plain.varTypes Tryz.prog ++ Tryz.f7.resultTypes.toList).any (Tryz.prog.veiledRec ·))) = true := by kernel_rfl
theorem j31 : (Rows.fnTypeFirstRow.veiledFits Tryz.prog Tryz.f7.params.toList (Tryz.f7.params.toList ++ Rows.fnTypeFirstSpec.plain.varTypes Tryz.prog ++ Tryz.f7.resultTypes.toList)) = true := by kernel_rfl
theorem all : joinedFacts Tryz.pinned.checked.prog 7 Tryz.f7 Rows.fnTypeFirstSpec Rows.fnTypeFirstRow = true :=
  joined_of (P := Tryz.prog) j0 j1 j2 j3 j4 j5 j6 j7 j8 j9 j10 j11 j12 j13 j14 j15 j16 j17 j18 j19 j20 j21 j22 j23 j24 j25 j26 j27 j28 j29 j30 j31
end Go.Proofs.YtdcgjfiknknjfaaGreatDoor.fnTypeFirstFacts
