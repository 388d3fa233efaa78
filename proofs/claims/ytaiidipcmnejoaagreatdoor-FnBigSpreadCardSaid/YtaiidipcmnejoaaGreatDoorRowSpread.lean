import Derived.Test.YtaiidipcmnejoaaGreatDoorFactsSpread
import Derived.Test.YtaiidipcmnejoaaGreatDoorLawSpread
import Derived.Test.YtaiidipcmnejoaaGreatDoorEnvJ
namespace Go.Proofs.YtaiidipcmnejoaaGreatDoor.fnBigSpreadRow
open Go.ChangeShapes Go.WideShapes Go.ChangeAt Go.RowKit Go.Lib
open Go.ChangeMaps (open_string shut_string)
theorem own : ownKnob Tryz.prog.godebug = none := by kernel_rfl
theorem env_of {W : World} (h : laidMetH Tryz.prog Rows.fnBigSpreadRow.laid W) : NumV.Env W := by
  rw [MakeChecks.laidMetH_plain _ _ _ (by kernel_rfl)] at h
  exact ⟨NumV.iface_of_reads (Lib.laidMet.reads h (.tail _ (.tail _ (.tail _ (.tail _ (.tail _ (.tail _ (.tail _ (.tail _ (.tail _ (.head _))))))))))), NumV.pow_of_reads (Lib.laidMet.reads h (.tail _ (.tail _ (.tail _ (.tail _ (.tail _ (.tail _ (.tail _ (.tail _ (.head _))))))))))⟩
set_option maxRecDepth 100000 in
theorem lifted (os : Os) (started : os.Started) (H : Type) (enc : TypeId × Value → H) :
    ReturnsInHanded {} Tryz.checked os 7 .any (fun w args => (Rows.fnBigSpreadSpec.pre enc Tryz.prog Tryz.f7 Rows.fnBigSpreadRow.domain false w args ∧ laidMetH Tryz.prog Rows.fnBigSpreadRow.laid w) ∧ sizedMet enc Tryz.prog Tryz.f7 (OpenSpec.ofChange Rows.fnBigSpreadSpec) false w args)
      (Rows.fnBigSpreadSpec.post enc Tryz.prog Tryz.f7 false true false false) := by
  refine returnsInHanded_of_change_and (C := Tryz.checked) (X := fun w _ => laidMetH Tryz.prog Rows.fnBigSpreadRow.laid w) (fun _ _ _ hh h => h.of_heap hh) own started (by kernel_rfl) Tryz.func7
    (ChangeSpec.witness_shaped (enc := enc) (C := Tryz.checked) (os := os) (X := fun w _ => laidMetH Tryz.prog Rows.fnBigSpreadRow.laid w) false (World.laidAll Tryz.prog os Rows.fnBigSpreadRow.laid) #[.string ⟨#[]⟩, .string ⟨#[]⟩, .string ⟨#[]⟩] 8 (World.laidAll_os _ _ _)
      (World.shaped_of_ZipB (by kernel_rfl) (by kernel_rfl)) (by kernel_rfl) (by kernel_rfl) (by kernel_rfl)
      (by rw [MakeChecks.laidMetH_plain _ _ _ (by kernel_rfl)]; exact laidMet_laidAll _ (by kernel_rfl) (by kernel_rfl))) ?_
  intro W base args ds gs before hval0 hW _ _ hL _
  have hval : ∀ (j : Nat) t v, Tryz.f7.params[j]? = some t → args[j]? = some v → Value.okWide Tryz.prog W .any base t v := hval0
  have hW' := hW
  obtain ⟨p, q, hA0, hV, rfl, _, _⟩ := hW
  have hA : DataW.TrodAll enc Tryz.prog W 0 (fun _ => true) true Tryz.f7.params.toList args.toList ds p := hA0
  rw [Tryz.params7] at hA hval
  obtain ⟨v0, v1, v2, d0, d1, d2, p0, p1, p2, rfl, rfl, rfl, h0, h1, h2⟩ := trodAll_three hA
  obtain ⟨rfl, rfl⟩ := trodVars_none hV
  obtain ⟨a, rfl, rfl, rfl, wa⟩ := open_string Tryz.underlying9 (hval 0 9 v0 rfl rfl) h0
  obtain ⟨b, rfl, rfl, rfl, wb⟩ := open_string Tryz.underlying9 (hval 1 9 v1 rfl rfl) h1
  obtain ⟨c, rfl, rfl, rfl, wc⟩ := open_string Tryz.underlying9 (hval 2 9 v2 rfl rfl) h2
  simp only [List.append_nil] at hW'
  refine (LawSpread.fnBigSpread_any a b c W (env_of hL)).mono fun e W' ⟨he, hb⟩ => ?_
  subst he
  exact ⟨_, rfl, _, _, _, [], [], [], hW', trodAll_mk1 (shut_bool Tryz.underlying4 _), trodAll_mk3 (shut_string Tryz.underlying9 wa) (shut_string Tryz.underlying9 wb) (shut_string Tryz.underlying9 wc), rfl, hb.frame _, fun h => by cases h⟩
theorem named : Tryz.pinned.checked.prog.funcNamed Rows.fnBigSpreadRow.func = some 7 := by kernel_rfl
theorem holds : Rows.FnBigSpreadSaid :=
  OpenClaim.holds_of_wide 7 Tryz.f7 rfl rfl rfl rfl rfl rfl rfl ⟨rfl, rfl, rfl, rfl, rfl⟩ rfl rfl rfl rfl rfl named Tryz.func7 fnBigSpreadFacts.all
    (of_decide_eq_true (by kernel_rfl)) (by unfold Func.isWrapper; first | (rw [if_pos (by decide +kernel)]; kernel_rfl) | (rw [if_neg (by decide +kernel)]; exact ⟨rfl, rfl⟩))
    (fun os started H enc _ => lifted os started H enc)
theorem byText : Rows.fnBigSpreadRow.wfByText (OpenSpec.ofChange Rows.fnBigSpreadSpec) = true := by kernel_rfl
theorem mains : Tryz.pinned.checked.prog.mainIs = some ((true, "e0ed874febb56757def2f8199718abeb84c86a2fcd85b4170bf854eab2cf038b").1, (true, "e0ed874febb56757def2f8199718abeb84c86a2fcd85b4170bf854eab2cf038b").2.toList) := by kernel_rfl
theorem looked : true = Tryz.prog.looks [] := by kernel_rfl
theorem stands : ([9, 9, 9].all fun u => !Tryz.prog.wantsStandIn u) = true := by kernel_rfl
theorem goes : false = Rows.fnBigSpreadRow.goesBy Tryz.pinned.checked.prog := by kernel_rfl
theorem card : Rows.FnBigSpreadCardSaid :=
  Claim7.holds_tied_plain_at .later [] [.data, .data, .widerDeep, .widerDeep, .data, .data, .data, .data, .data, .sentinel, .sentinel, .pinned, .pinned] true (true, "e0ed874febb56757def2f8199718abeb84c86a2fcd85b4170bf854eab2cf038b") true holds (fun _ h => by cases h) byText (fun _ h => by cases h) fnBigSpread_row_tie rfl ⟨rfl, rfl⟩ mains rfl
    (fun f fn hf hfn => by
      obtain rfl : f = 7 := Option.some.inj (named.symm.trans hf) |>.symm
      obtain rfl : fn = Tryz.f7 := (Option.some.inj (Tryz.func7.symm.trans hfn)).symm
      exact ⟨looked, fun j t ht => by
        rw [Tryz.params7] at ht
        have hm : t ∈ [9, 9, 9] := by simpa using Array.mem_of_getElem? ht
        exact (show Tryz.prog.wantsStandIn t = false by simpa using List.all_eq_true.1 stands t hm)⟩)
    goes
#print axioms card
end Go.Proofs.YtaiidipcmnejoaaGreatDoor.fnBigSpreadRow
