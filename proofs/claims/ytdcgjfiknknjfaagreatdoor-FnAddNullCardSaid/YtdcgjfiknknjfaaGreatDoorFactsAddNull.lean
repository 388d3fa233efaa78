import Derived.Test.YtdcgjfiknknjfaaGreatDoorEnvJ
import Derived.Test.YtdcgjfiknknjfaaGreatDoorCards
namespace Go.Proofs.YtdcgjfiknknjfaaGreatDoor.fnAddNullFacts
open Go
set_option maxRecDepth 100000
theorem j0 : (Rows.fnAddNullRow.wf (OpenSpec.ofChange Rows.fnAddNullSpec)) = true := by kernel_rfl
theorem j1 : (laidOutB Tryz.prog) = true := by kernel_rfl
theorem j2 : (mapsRowed Tryz.prog) = true := by kernel_rfl
theorem j3 : (Tryz.f14.params.all (Tryz.prog.readableRec ·)) = true := by kernel_rfl
theorem j4 : (namedTie Tryz.prog Rows.fnAddNullRow.named Rows.fnAddNullSpec.vars) = true := by kernel_rfl
theorem j5 : ((Rows.fnAddNullRow.stops == [])) = true := by kernel_rfl
theorem j6 : ((Tryz.prog.stops == [])) = true := by kernel_rfl
theorem j7 : ((Rows.fnAddNullRow.knobs == [])) = true := by kernel_rfl
theorem j8 : ((Tryz.prog.stopKnobs == [])) = true := by kernel_rfl
theorem j9 : ((Rows.fnAddNullRow.inPlace == Tryz.prog.inPlace 14)) = true := by kernel_rfl
theorem j10 : ((Rows.fnAddNullRow.unfollowed == Tryz.prog.unfollowed 14)) = true := by kernel_rfl
theorem j11 : ((Rows.fnAddNullRow.recurses == Tryz.prog.recurses 14)) = true := by kernel_rfl
theorem j12 : ((Rows.fnAddNullRow.named == Tryz.prog.varsNamed 14)) = true := by kernel_rfl
theorem j13 : ((Rows.fnAddNullRow.maps == (Tryz.f14.params.toList ++ Rows.fnAddNullSpec.plain.varTypes Tryz.prog).any (Tryz.prog.mapsRec ·))) = true := by kernel_rfl
theorem j14 : ((Rows.fnAddNullRow.ifaces == (Tryz.f14.params.toList ++ Rows.fnAddNullSpec.plain.varTypes Tryz.prog).any (Tryz.prog.ifacesRec ·))) = true := by kernel_rfl
theorem j15 : ((Rows.fnAddNullRow.mapsOut == Tryz.prog.mapsAmong Tryz.f14.resultTypes.toList)) = true := by kernel_rfl
theorem j16 : ((Rows.fnAddNullRow.loops == (Tryz.f14.params.toList ++ Rows.fnAddNullSpec.plain.varTypes Tryz.prog).any (Tryz.prog.loopsFrom ·))) = true := by kernel_rfl
theorem j17 : ((Rows.fnAddNullRow.wideKeys == (Tryz.f14.params.toList ++ Rows.fnAddNullSpec.plain.varTypes Tryz.prog ++ Tryz.f14.resultTypes.toList).any (Tryz.prog.wideKeysFrom ·))) = true := by kernel_rfl
theorem j18 : (Rows.fnAddNullSpec.vars.all (Tryz.prog.varReadable ·)) = true := by kernel_rfl
theorem j19 : (Tryz.f14.resultTypes.all (fun t => Tryz.prog.readableRec t && decide (t < Tryz.prog.types.size))) = true := by kernel_rfl
theorem j20 : ((Rows.fnAddNullRow.ifacesOut == Tryz.f14.resultTypes.toList.any (Tryz.prog.ifacesRec ·))) = true := by kernel_rfl
theorem j21 : ((Rows.fnAddNullRow.loopsOut == Tryz.f14.resultTypes.toList.any (Tryz.prog.loopsFrom ·))) = true := by kernel_rfl
theorem j22 : ((Rows.fnAddNullRow.plainKeys == Tryz.prog.plainKeys)) = true := by kernel_rfl
theorem j23 : (Rows.fnAddNullRow.shortTexts.isNone) = true := by kernel_rfl
theorem j24 : (Tryz.prog.stopsHeard) = true := by kernel_rfl
theorem j25 : (Tryz.prog.mayEnter) = true := by kernel_rfl
theorem j26 : ((Rows.fnAddNullRow.lifted == Tryz.prog.liftsFinal)) = true := by kernel_rfl
theorem j27 : ((Tryz.prog.make == some Rows.fnAddNullRow.make)) = true := by kernel_rfl
theorem j28 : ((Rows.fnAddNullRow.kinds == (if Rows.fnAddNullRow.domain.isEmpty then [] else Tryz.f14.params.toList.map fun t => match Tryz.prog.underlying t with | some (.int k) => some k | _ => none))) = true := by kernel_rfl
theorem j29 : ((Rows.fnAddNullRow.pinned == Rows.fnAddNullRow.pinnedBy)) = true := by kernel_rfl
theorem j30 : ((Rows.fnAddNullRow.veiled == (Tryz.f14.params.toList ++ Rows.fnAddNullSpec.plain.varTypes Tryz.prog ++ Tryz.f14.resultTypes.toList).any (Tryz.prog.veiledRec ·))) = true := by kernel_rfl
theorem j31 : (Rows.fnAddNullRow.veiledFits Tryz.prog Tryz.f14.params.toList (Tryz.f14.params.toList ++ Rows.fnAddNullSpec.plain.varTypes Tryz.prog ++ Tryz.f14.resultTypes.toList)) = true := by kernel_rfl
theorem all : joinedFacts Tryz.pinned.checked.prog 14 Tryz.f14 Rows.fnAddNullSpec Rows.fnAddNullRow = true :=
  joined_of (P := Tryz.prog) j0 j1 j2 j3 j4 j5 j6 j7 j8 j9 j10 j11 j12 j13 j14 j15 j16 j17 j18 j19 j20 j21 j22 j23 j24 j25 j26 j27 j28 j29 j30 j31
end Go.Proofs.YtdcgjfiknknjfaaGreatDoor.fnAddNullFacts
