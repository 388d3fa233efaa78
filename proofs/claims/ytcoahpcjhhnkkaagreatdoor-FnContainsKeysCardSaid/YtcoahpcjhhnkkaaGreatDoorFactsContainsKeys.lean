import Derived.Test.YtcoahpcjhhnkkaaGreatDoorEnvJ
import Derived.Test.YtcoahpcjhhnkkaaGreatDoorCards
namespace Go.Proofs.YtcoahpcjhhnkkaaGreatDoor.fnContainsKeysFacts
open Go
set_option maxRecDepth 100000
theorem j0 : (Rows.fnContainsKeysRow.wf (OpenSpec.ofChange Rows.fnContainsKeysSpec)) = true := by kernel_rfl
theorem j1 : (laidOutB Tryz.prog) = true := by kernel_rfl
theorem j2 : (mapsRowed Tryz.prog) = true := by kernel_rfl
theorem j3 : (Tryz.f6.params.all (Tryz.prog.readableRec ·)) = true := by kernel_rfl
theorem j4 : (namedTie Tryz.prog Rows.fnContainsKeysRow.named Rows.fnContainsKeysSpec.vars) = true := by kernel_rfl
theorem j5 : ((Rows.fnContainsKeysRow.stops == [])) = true := by kernel_rfl
theorem j6 : ((Tryz.prog.stops == [])) = true := by kernel_rfl
theorem j7 : ((Rows.fnContainsKeysRow.knobs == [])) = true := by kernel_rfl
theorem j8 : ((Tryz.prog.stopKnobs == [])) = true := by kernel_rfl
theorem j9 : ((Rows.fnContainsKeysRow.inPlace == Tryz.prog.inPlace 6)) = true := by kernel_rfl
theorem j10 : ((Rows.fnContainsKeysRow.unfollowed == Tryz.prog.unfollowed 6)) = true := by kernel_rfl
theorem j11 : ((Rows.fnContainsKeysRow.recurses == Tryz.prog.recurses 6)) = true := by kernel_rfl
theorem j12 : ((Rows.fnContainsKeysRow.named == Tryz.prog.varsNamed 6)) = true := by kernel_rfl
theorem j13 : ((Rows.fnContainsKeysRow.maps == (Tryz.f6.params.toList ++ Rows.fnContainsKeysSpec.plain.varTypes Tryz.prog).any (Tryz.prog.mapsRec ·))) = true := by kernel_rfl
theorem j14 : ((Rows.fnContainsKeysRow.ifaces == (Tryz.f6.params.toList ++ Rows.fnContainsKeysSpec.plain.varTypes Tryz.prog).any (Tryz.prog.ifacesRec ·))) = true := by kernel_rfl
theorem j15 : ((Rows.fnContainsKeysRow.mapsOut == Tryz.prog.mapsAmong Tryz.f6.resultTypes.toList)) = true := by kernel_rfl
theorem j16 : ((Rows.fnContainsKeysRow.loops == (Tryz.f6.params.toList ++ Rows.fnContainsKeysSpec.plain.varTypes Tryz.prog).any (Tryz.prog.loopsFrom ·))) = true := by kernel_rfl
theorem j17 : ((Rows.fnContainsKeysRow.wideKeys == (Tryz.f6.params.toList ++ Rows.fnContainsKeysSpec.plain.varTypes Tryz.prog ++ Tryz.f6.resultTypes.toList).any (Tryz.prog.wideKeysFrom ·))) = true := by kernel_rfl
theorem j18 : (Rows.fnContainsKeysSpec.vars.all (Tryz.prog.varReadable ·)) = true := by kernel_rfl
theorem j19 : (Tryz.f6.resultTypes.all (fun t => Tryz.prog.readableRec t && decide (t < Tryz.prog.types.size))) = true := by kernel_rfl
theorem j20 : ((Rows.fnContainsKeysRow.ifacesOut == Tryz.f6.resultTypes.toList.any (Tryz.prog.ifacesRec ·))) = true := by kernel_rfl
theorem j21 : ((Rows.fnContainsKeysRow.loopsOut == Tryz.f6.resultTypes.toList.any (Tryz.prog.loopsFrom ·))) = true := by kernel_rfl
theorem j22 : ((Rows.fnContainsKeysRow.plainKeys == Tryz.prog.plainKeys)) = true := by kernel_rfl
theorem j23 : (Rows.fnContainsKeysRow.shortTexts.isNone) = true := by kernel_rfl
theorem j24 : (Tryz.prog.stopsHeard) = true := by kernel_rfl
theorem j25 : (Tryz.prog.mayEnter) = true := by kernel_rfl
theorem j26 : ((Rows.fnContainsKeysRow.lifted == Tryz.prog.liftsFinal)) = true := by kernel_rfl
theorem j27 : ((Tryz.prog.make == some Rows.fnContainsKeysRow.make)) = true := by kernel_rfl
theorem j28 : ((Rows.fnContainsKeysRow.kinds == (if Rows.fnContainsKeysRow.domain.isEmpty then [] else Tryz.f6.params.toList.map fun t => match Tryz.prog.underlying t with | some (.int k) => some k | _ => none))) = true := by kernel_rfl
theorem j29 : ((Rows.fnContainsKeysRow.pinned == Rows.fnContainsKeysRow.pinnedBy)) = true := by kernel_rfl
theorem j30 : ((Rows.fnContainsKeysRow.veiled == (Tryz.f6.params.toList ++ Rows.fnContainsKeysSpec.plain.varTypes Tryz.prog ++ Tryz.f6.resultTypes.toList).any (Tryz.prog.veiledRec ·))) = true := by kernel_rfl
theorem j31 : (Rows.fnContainsKeysRow.veiledFits Tryz.prog Tryz.f6.params.toList (Tryz.f6.params.toList ++ Rows.fnContainsKeysSpec.plain.varTypes Tryz.prog ++ Tryz.f6.resultTypes.toList)) = true := by kernel_rfl
theorem all : joinedFacts Tryz.pinned.checked.prog 6 Tryz.f6 Rows.fnContainsKeysSpec Rows.fnContainsKeysRow = true :=
  joined_of (P := Tryz.prog) j0 j1 j2 j3 j4 j5 j6 j7 j8 j9 j10 j11 j12 j13 j14 j15 j16 j17 j18 j19 j20 j21 j22 j23 j24 j25 j26 j27 j28 j29 j30 j31
end Go.Proofs.YtcoahpcjhhnkkaaGreatDoor.fnContainsKeysFacts
