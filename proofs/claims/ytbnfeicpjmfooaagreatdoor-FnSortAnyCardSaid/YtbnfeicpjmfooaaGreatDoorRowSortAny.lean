import Derived.Test.YtbnfeicpjmfooaaGreatDoorFactsSortAny
import Derived.Test.YtbnfeicpjmfooaaGreatDoorLawAn
import Derived.Test.YtbnfeicpjmfooaaGreatDoorOpenV
import Derived.Test.YtbnfeicpjmfooaaGreatDoorEnvJ
import Derived.Test.YtbnfeicpjmfooaaGreatDoorTie
import Derived.Lib.LaidU8T
import Derived.PinnedBridge
import Derived.Carry
import Derived.ProofKit
import Derived.OpenShut
import Derived.LaidMore
import Derived.Lay
import Derived.SevenTiedAt
import Derived.Stop.Joined
import Derived.ChangeAt
namespace Go.Proofs.YtbnfeicpjmfooaaGreatDoor.fnSortAnyRow
open Go.ChangeShapes Go.WideShapes Go.ChangeAt Go.RowKit Go.Lib Go.Shelf
theorem own : ownKnob Tryz.prog.godebug = none := by kernel_rfl
theorem laidOut : laidOutB Tryz.prog = true := by kernel_rfl
theorem accepts : (Rows.laid_unicode_utf8_acceptRanges : DataW Unit) = acceptData := by kernel_rfl
theorem firsts : (Rows.laid_unicode_utf8_first : DataW Unit) = firstData := Pinned.utf8First_eq
theorem env_of {W : World} (h : laidMetH Tryz.prog Rows.fnSortAnyRow.laid W) : ValA.Env W := by
  rw [MakeChecks.laidMetH_plain _ _ _ (by kernel_rfl)] at h
  have h1 := Lib.laidMet.reads h (.tail _ (.tail _ (.tail _ (.tail _ (.tail _ (.tail _ (.tail _ (.tail _ (.tail _ (.tail _ (.tail _ (.tail _ (.tail _ (.tail _ (.head _)))))))))))))))
  have h2 := Lib.laidMet.reads h (.tail _ (.tail _ (.tail _ (.tail _ (.tail _ (.tail _ (.tail _ (.tail _ (.tail _ (.head _))))))))))
  rw [firsts] at h1
  rw [accepts] at h2
  exact utf8Tabs_of_readsT (U8Types.of196 Tryz.laysValid) ⟨by kernel_rfl, by kernel_rfl, by kernel_rfl, by kernel_rfl, by kernel_rfl, by kernel_rfl, by kernel_rfl⟩ h1 h2
set_option maxRecDepth 100000 in
theorem lifted (os : Os) (started : os.Started) (H : Type) (enc : TypeId × Value → H) :
    ReturnsInHanded {} Tryz.checked os 3 .any (fun w args => (Rows.fnSortAnySpec.pre enc Tryz.prog Tryz.f3 Rows.fnSortAnyRow.domain false w args ∧ laidMetH Tryz.prog Rows.fnSortAnyRow.laid w) ∧ sizedMet enc Tryz.prog Tryz.f3 (OpenSpec.ofChange Rows.fnSortAnySpec) false w args)
      (Rows.fnSortAnySpec.post enc Tryz.prog Tryz.f3 false true false false) := by
  refine returnsInHanded_of_change_and (C := Tryz.checked) (X := fun w _ => laidMetH Tryz.prog Rows.fnSortAnyRow.laid w) (fun _ _ _ hh h => h.of_heap hh) own started (by kernel_rfl) Tryz.func3
    (ChangeSpec.witness_shaped (enc := enc) (C := Tryz.checked) (os := os) (X := fun w _ => laidMetH Tryz.prog Rows.fnSortAnyRow.laid w) false (World.laidAll Tryz.prog os Rows.fnSortAnyRow.laid) #[.slice none 0 0, .int .i64 0, .int .i64 0] 8 (World.laidAll_os _ _ _)
      (World.shaped_of_ZipB (by kernel_rfl) (by kernel_rfl)) (by kernel_rfl) (by kernel_rfl) (by kernel_rfl)
      (by rw [MakeChecks.laidMetH_plain _ _ _ (by kernel_rfl)]; exact laidMet_laidAll _ (by kernel_rfl) (by kernel_rfl))) ?_
  intro W base args ds gs before hval0 hW _ _ hL _
  have hval : ∀ (j : Nat) t v, Tryz.f3.params[j]? = some t → args[j]? = some v → Value.okWide Tryz.prog W .any base t v := hval0
  have hW' := hW
  obtain ⟨p, q, hA0, hV, rfl, _, _⟩ := hW
  have hA : DataW.TrodAll enc Tryz.prog W 0 (fun _ => true) true Tryz.f3.params.toList args.toList ds p := hA0
  rw [Tryz.params3] at hA hval
  obtain ⟨v0, v1, v2, d0, d1, d2, p0, p1, p2, rfl, rfl, rfl, h0, h1, h2⟩ := trodAll_three hA
  obtain ⟨rfl, rfl⟩ := trodVars_none hV
  have k0 := h0
  have lt0 : ∀ x ∈ p0, x.block < W.heap.size := by obtain ⟨m, hm⟩ := k0; exact DataW.trod_lt m _ _ _ hm
  obtain ⟨P0, x0, a0, rfl, hl0, hk0, hz0⟩ := OpenV.open_L (hval 0 22 v0 rfl rfl) h0
  have k1 := h1
  have lt1 : ∀ x ∈ p1, x.block < W.heap.size := by obtain ⟨m, hm⟩ := k1; exact DataW.trod_lt m _ _ _ hm
  obtain ⟨n1, rfl, rfl, rfl, z1⟩ := Go.ChangeShapes.open_int Tryz.underlying3 (hval 1 3 v1 rfl rfl) h1
  have k2 := h2
  have lt2 : ∀ x ∈ p2, x.block < W.heap.size := by obtain ⟨m, hm⟩ := k2; exact DataW.trod_lt m _ _ _ hm
  obtain ⟨n2, rfl, rfl, rfl, z2⟩ := Go.ChangeShapes.open_int Tryz.underlying3 (hval 2 3 v2 rfl rfl) h2
  refine (ValA.fnSortAny_any W (env_of hL) P0 x0 a0 hl0 hk0 hz0 n1 z1 n2 z2).mono fun e W' ⟨he, hb⟩ => ?_
  subst he
  exact ⟨_, rfl, _, _, _, [], _, [], hW', trodAll_mk1 (shut_bool Tryz.underlying4 _), trodAll_mk3 (Below.trod laidOut (by kernel_rfl) (of_decide_eq_true (by kernel_rfl)) k0 hb lt0) (Below.trod laidOut (by kernel_rfl) (of_decide_eq_true (by kernel_rfl)) k1 hb lt1) (Below.trod laidOut (by kernel_rfl) (of_decide_eq_true (by kernel_rfl)) k2 hb lt2), rfl, hb.frame _, fun h => by cases h⟩
theorem named : Tryz.pinned.checked.prog.funcNamed Rows.fnSortAnyRow.func = some 3 := by kernel_rfl
theorem holds : Rows.FnSortAnySaid :=
  OpenClaim.holds_of_wide 3 Tryz.f3 rfl rfl rfl rfl rfl rfl rfl ⟨rfl, rfl, rfl, rfl, rfl⟩ rfl rfl rfl rfl rfl named Tryz.func3 fnSortAnyFacts.all
    (of_decide_eq_true (by kernel_rfl)) (by unfold Func.isWrapper; first | (rw [if_pos (by decide +kernel)]; kernel_rfl) | (rw [if_neg (by decide +kernel)]; exact ⟨rfl, rfl⟩))
    (fun os started H enc _ => lifted os started H enc)
theorem byText : Rows.fnSortAnyRow.wfByText (OpenSpec.ofChange Rows.fnSortAnySpec) = true := by kernel_rfl
theorem mains : Tryz.pinned.checked.prog.mainIs = some ((true, "8e025586758e7fc27dbad7953cdd91cf63cc40469d474bba26375875abcbba6f").1, (true, "8e025586758e7fc27dbad7953cdd91cf63cc40469d474bba26375875abcbba6f").2.toList) := by kernel_rfl
theorem looked : true = Tryz.prog.looks [] := by kernel_rfl
theorem stands : ([22, 3, 3].all fun u => !Tryz.prog.wantsStandIn u) = true := by kernel_rfl
theorem goes : false = Rows.fnSortAnyRow.goesBy Tryz.pinned.checked.prog := by kernel_rfl
theorem card : Rows.FnSortAnyCardSaid :=
  Claim7.holds_tied_plain_at .later [] [.data, .data, .widerDeep, .widerDeep, .data, .data, .data, .data, .data, .data, .sentinel, .sentinel, .pinned, .pinned, .pinned] true (true, "8e025586758e7fc27dbad7953cdd91cf63cc40469d474bba26375875abcbba6f") true holds (fun _ h => by cases h) byText (fun _ h => by cases h) fnSortAny_row_tie rfl ⟨rfl, rfl⟩ mains rfl
    (fun f fn hf hfn => by
      obtain rfl : f = 3 := Option.some.inj (named.symm.trans hf) |>.symm
      obtain rfl : fn = Tryz.f3 := (Option.some.inj (Tryz.func3.symm.trans hfn)).symm
      exact ⟨looked, fun j t ht => by
        rw [Tryz.params3] at ht
        have hm : t ∈ [22, 3, 3] := by simpa using Array.mem_of_getElem? ht
        exact (show Tryz.prog.wantsStandIn t = false by simpa using List.all_eq_true.1 stands t hm)⟩)
    goes
#print axioms card
end Go.Proofs.YtbnfeicpjmfooaaGreatDoor.fnSortAnyRow
