import Derived.Test.YtbnfeicpjmfooaaGreatDoorFactsUniqueSort
import Derived.Test.YtbnfeicpjmfooaaGreatDoorLawUs
import Derived.Test.YtbnfeicpjmfooaaGreatDoorOpenV
import Derived.Test.YtbnfeicpjmfooaaGreatDoorEnvJ
import Derived.Test.YtbnfeicpjmfooaaGreatDoorTie
import Derived.Lib.LaidU8T
import Derived.PinnedBridge
import Derived.Carry
import Derived.ProofKit
import Derived.OpenShut
import Derived.LaidMore
import Derived.Lay
import Derived.SevenTiedAt
import Derived.Stop.Joined
import Derived.ChangeAt
namespace Go.Proofs.YtbnfeicpjmfooaaGreatDoor.fnUniqueSortRow
open Go.ChangeShapes Go.WideShapes Go.ChangeAt Go.RowKit Go.Lib Go.Shelf
theorem own : ownKnob Tryz.prog.godebug = none := by kernel_rfl
theorem laidOut : laidOutB Tryz.prog = true := by kernel_rfl
theorem accepts : (Rows.laid_unicode_utf8_acceptRanges : DataW Unit) = acceptData := by kernel_rfl
theorem firsts : (Rows.laid_unicode_utf8_first : DataW Unit) = firstData := Pinned.utf8First_eq
theorem env_of {W : World} (h : laidMetH Tryz.prog Rows.fnUniqueSortRow.laid W) : ValA.Env W := by
  rw [MakeChecks.laidMetH_plain _ _ _ (by kernel_rfl)] at h
  have h1 := Lib.laidMet.reads h (.tail _ (.tail _ (.tail _ (.tail _ (.tail _ (.tail _ (.tail _ (.tail _ (.tail _ (.tail _ (.tail _ (.tail _ (.tail _ (.tail _ (.head _)))))))))))))))
  have h2 := Lib.laidMet.reads h (.tail _ (.tail _ (.tail _ (.tail _ (.tail _ (.tail _ (.tail _ (.tail _ (.tail _ (.head _))))))))))
  rw [firsts] at h1
  rw [accepts] at h2
  exact utf8Tabs_of_readsT (U8Types.of196 Tryz.laysValid) ⟨by kernel_rfl, by kernel_rfl, by kernel_rfl, by kernel_rfl, by kernel_rfl, by kernel_rfl, by kernel_rfl⟩ h1 h2
set_option maxRecDepth 100000 in
theorem lifted (os : Os) (started : os.Started) (H : Type) (enc : TypeId × Value → H) :
    ReturnsInHanded {} Tryz.checked os 5 .any (fun w args => (Rows.fnUniqueSortSpec.pre enc Tryz.prog Tryz.f5 Rows.fnUniqueSortRow.domain false w args ∧ laidMetH Tryz.prog Rows.fnUniqueSortRow.laid w) ∧ sizedMet enc Tryz.prog Tryz.f5 (OpenSpec.ofChange Rows.fnUniqueSortSpec) false w args)
      (Rows.fnUniqueSortSpec.post enc Tryz.prog Tryz.f5 false true false false) := by
  refine returnsInHanded_of_change_and (C := Tryz.checked) (X := fun w _ => laidMetH Tryz.prog Rows.fnUniqueSortRow.laid w) (fun _ _ _ hh h => h.of_heap hh) own started (by kernel_rfl) Tryz.func5
    (ChangeSpec.witness_shaped (enc := enc) (C := Tryz.checked) (os := os) (X := fun w _ => laidMetH Tryz.prog Rows.fnUniqueSortRow.laid w) false (World.laidAll Tryz.prog os Rows.fnUniqueSortRow.laid) #[.agg #[.int .i64 0, .int .i64 0, .string ⟨#[]⟩, .slice none 0 0, .slice none 0 0, .slice none 0 0]] 8 (World.laidAll_os _ _ _)
      (World.shaped_of_ZipB (by kernel_rfl) (by kernel_rfl)) (by kernel_rfl) (by kernel_rfl) (by kernel_rfl)
      (by rw [MakeChecks.laidMetH_plain _ _ _ (by kernel_rfl)]; exact laidMet_laidAll _ (by kernel_rfl) (by kernel_rfl))) ?_
  intro W base args ds gs before hval0 hW _ _ hL _
  have hval : ∀ (j : Nat) t v, Tryz.f5.params[j]? = some t → args[j]? = some v → Value.okWide Tryz.prog W .any base t v := hval0
  have hW' := hW
  obtain ⟨p, q, hA0, hV, rfl, _, _⟩ := hW
  have hA : DataW.TrodAll enc Tryz.prog W 0 (fun _ => true) true Tryz.f5.params.toList args.toList ds p := hA0
  rw [Tryz.params5] at hA hval
  obtain ⟨v0, d0, rfl, rfl, h0⟩ := trodAll_one hA
  obtain ⟨rfl, rfl⟩ := trodVars_none hV
  have k0 := h0
  have lt0 : ∀ x ∈ p, x.block < W.heap.size := by obtain ⟨m, hm⟩ := k0; exact DataW.trod_lt m _ _ _ hm
  obtain ⟨x0, K0, H0, s0, P0, Q0, R0, a0, b0, c0, e0, f0, g0, rfl, hk0, hz0⟩ := OpenV.open_V (hval 0 26 v0 rfl rfl) h0
  refine (ValA.fnUniqueSort_any W (env_of hL) x0 hz0 K0 H0 s0 P0 Q0 R0 a0 b0 c0 e0 f0 g0 hk0).mono fun e W' ⟨he, hb⟩ => ?_
  subst he
  exact ⟨_, rfl, _, _, _, [], _, [], hW', trodAll_mk1 (shut_bool Tryz.underlying4 _), trodAll_mk1 (Below.trod laidOut (by kernel_rfl) (of_decide_eq_true (by kernel_rfl)) k0 hb lt0), rfl, hb.frame _, fun h => by cases h⟩
theorem named : Tryz.pinned.checked.prog.funcNamed Rows.fnUniqueSortRow.func = some 5 := by kernel_rfl
theorem holds : Rows.FnUniqueSortSaid :=
  OpenClaim.holds_of_wide 5 Tryz.f5 rfl rfl rfl rfl rfl rfl rfl ⟨rfl, rfl, rfl, rfl, rfl⟩ rfl rfl rfl rfl rfl named Tryz.func5 fnUniqueSortFacts.all
    (of_decide_eq_true (by kernel_rfl)) (by unfold Func.isWrapper; first | (rw [if_pos (by decide +kernel)]; kernel_rfl) | (rw [if_neg (by decide +kernel)]; exact ⟨rfl, rfl⟩))
    (fun os started H enc _ => lifted os started H enc)
theorem byText : Rows.fnUniqueSortRow.wfByText (OpenSpec.ofChange Rows.fnUniqueSortSpec) = true := by kernel_rfl
theorem mains : Tryz.pinned.checked.prog.mainIs = some ((true, "8e025586758e7fc27dbad7953cdd91cf63cc40469d474bba26375875abcbba6f").1, (true, "8e025586758e7fc27dbad7953cdd91cf63cc40469d474bba26375875abcbba6f").2.toList) := by kernel_rfl
theorem looked : true = Tryz.prog.looks [] := by kernel_rfl
theorem stands : ([26].all fun u => !Tryz.prog.wantsStandIn u) = true := by kernel_rfl
theorem goes : false = Rows.fnUniqueSortRow.goesBy Tryz.pinned.checked.prog := by kernel_rfl
theorem card : Rows.FnUniqueSortCardSaid :=
  Claim7.holds_tied_plain_at .later [] [.data, .data, .widerDeep, .widerDeep, .data, .data, .data, .data, .data, .data, .sentinel, .sentinel, .pinned, .pinned, .pinned] true (true, "8e025586758e7fc27dbad7953cdd91cf63cc40469d474bba26375875abcbba6f") true holds (fun _ h => by cases h) byText (fun _ h => by cases h) fnUniqueSort_row_tie rfl ⟨rfl, rfl⟩ mains rfl
    (fun f fn hf hfn => by
      obtain rfl : f = 5 := Option.some.inj (named.symm.trans hf) |>.symm
      obtain rfl : fn = Tryz.f5 := (Option.some.inj (Tryz.func5.symm.trans hfn)).symm
      exact ⟨looked, fun j t ht => by
        rw [Tryz.params5] at ht
        have hm : t ∈ [26] := by simpa using Array.mem_of_getElem? ht
        exact (show Tryz.prog.wantsStandIn t = false by simpa using List.all_eq_true.1 stands t hm)⟩)
    goes
#print axioms card
end Go.Proofs.YtbnfeicpjmfooaaGreatDoor.fnUniqueSortRow
