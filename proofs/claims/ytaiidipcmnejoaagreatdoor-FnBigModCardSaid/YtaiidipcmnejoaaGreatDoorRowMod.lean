/- The row and the card of FnBigMod. -/
import Derived.Test.YtaiidipcmnejoaaGreatDoorFactsMod
import Derived.Test.YtaiidipcmnejoaaGreatDoorLawMod
namespace Go.Proofs.YtaiidipcmnejoaaGreatDoor.NumV
open Go.RowKit Go.Lib
set_option maxRecDepth 100000 in
theorem iface_of_reads {W : World} {D : DataW Unit} (h : VarReads Tryz.prog W "strconv.ErrRange" (.iface "*errors.errorString" D)) : ∃ tp p, W.var? Tryz.prog "strconv.ErrRange" = some #[.iface tp p] := by
  obtain ⟨g, t, cs, fuel, p, hg, ht, hv, hd⟩ := h
  obtain rfl := Option.some.inj (globRange.symm.trans hg)
  obtain rfl := Option.some.inj ((show (Tryz.prog.globals[7]?).map (·.type) = some 51 by kernel_rfl).symm.trans ht)
  rw [hv]
  obtain ⟨l⟩ := cs
  cases fuel with
  | zero => simp [DataW.trod] at hd
  | succ fuel =>
    simp only [DataW.trod, Tryz.underlying51] at hd
    match l, hd with
    | [.iface u v], _ => exact ⟨u, v, rfl⟩
    | [.nilIface], hd => simp at hd
theorem pow_of_reads {W : World} (h : VarReads Tryz.prog W "internal/strconv.uint64pow10" (tabData .u64 Lib.pow10Tab)) : Lib.TabIs Tryz.prog W "internal/strconv.uint64pow10" .u64 Lib.pow10Tab := by
  obtain ⟨g, t, cs, fuel, p, hg, ht, hv, hd⟩ := h
  obtain rfl := Option.some.inj (globPow.symm.trans hg)
  have hty : (Tryz.prog.globals[1]?).map (·.type) = some t := ht
  unfold Lib.TabIs
  rw [hv]
  have ht0 : t = 252 := Option.some.inj (hty.symm.trans (show _ = some 252 by kernel_rfl))
  subst ht0
  rw [← cells_of_tab (n := 20) (e := 152) (by kernel_rfl) (by kernel_rfl) (by kernel_rfl) (by kernel_rfl) hd]
end Go.Proofs.YtaiidipcmnejoaaGreatDoor.NumV
namespace Go.Proofs.YtaiidipcmnejoaaGreatDoor.fnBigModRow
open Go.ChangeShapes Go.WideShapes Go.ChangeAt Go.RowKit Go.Lib
open Go.ChangeMaps (open_string shut_string)
theorem own : ownKnob Tryz.prog.godebug = none := by kernel_rfl
theorem env_of {W : World} (h : laidMetH Tryz.prog Rows.fnBigModRow.laid W) : NumV.Env W := by
  rw [MakeChecks.laidMetH_plain _ _ _ (by kernel_rfl)] at h
  exact ⟨NumV.iface_of_reads (Lib.laidMet.reads h (.tail _ (.tail _ (.tail _ (.tail _ (.tail _ (.tail _ (.tail _ (.tail _ (.tail _ (.head _))))))))))), NumV.pow_of_reads (Lib.laidMet.reads h (.tail _ (.tail _ (.tail _ (.tail _ (.tail _ (.tail _ (.tail _ (.tail _ (.head _))))))))))⟩
set_option maxRecDepth 100000 in
theorem lifted (os : Os) (started : os.Started) (H : Type) (enc : TypeId × Value → H) :
    ReturnsInHanded {} Tryz.checked os 4 .any (fun w args => (Rows.fnBigModSpec.pre enc Tryz.prog Tryz.f4 Rows.fnBigModRow.domain false w args ∧ laidMetH Tryz.prog Rows.fnBigModRow.laid w) ∧ sizedMet enc Tryz.prog Tryz.f4 (OpenSpec.ofChange Rows.fnBigModSpec) false w args)
      (Rows.fnBigModSpec.post enc Tryz.prog Tryz.f4 false true false false) := by
  refine returnsInHanded_of_change_and (C := Tryz.checked) (X := fun w _ => laidMetH Tryz.prog Rows.fnBigModRow.laid w) (fun _ _ _ hh h => h.of_heap hh) own started (by kernel_rfl) Tryz.func4
    (ChangeSpec.witness_shaped (enc := enc) (C := Tryz.checked) (os := os) (X := fun w _ => laidMetH Tryz.prog Rows.fnBigModRow.laid w) false (World.laidAll Tryz.prog os Rows.fnBigModRow.laid) #[.string ⟨#[]⟩, .string ⟨#[]⟩] 8 (World.laidAll_os _ _ _)
      (World.shaped_of_ZipB (by kernel_rfl) (by kernel_rfl)) (by kernel_rfl) (by kernel_rfl) (by kernel_rfl)
      (by rw [MakeChecks.laidMetH_plain _ _ _ (by kernel_rfl)]; exact laidMet_laidAll _ (by kernel_rfl) (by kernel_rfl))) ?_
  intro W base args ds gs before hval0 hW _ _ hL _
  have hval : ∀ (j : Nat) t v, Tryz.f4.params[j]? = some t → args[j]? = some v → Value.okWide Tryz.prog W .any base t v := hval0
  have hW' := hW
  obtain ⟨p, q, hA0, hV, rfl, _, _⟩ := hW
  have hA : DataW.TrodAll enc Tryz.prog W 0 (fun _ => true) true Tryz.f4.params.toList args.toList ds p := hA0
  rw [Tryz.params4] at hA hval
  obtain ⟨v0, v1, d0, d1, p0, p1, rfl, rfl, rfl, h0, h1⟩ := trodAll_two hA
  obtain ⟨rfl, rfl⟩ := trodVars_none hV
  obtain ⟨a, rfl, rfl, rfl, wa⟩ := open_string Tryz.underlying9 (hval 0 9 v0 rfl rfl) h0
  obtain ⟨b, rfl, rfl, rfl, wb⟩ := open_string Tryz.underlying9 (hval 1 9 v1 rfl rfl) h1
  simp only [List.append_nil] at hW'
  refine (LawMod.fnBigMod_any a b W (env_of hL)).mono fun e W' ⟨he, hb⟩ => ?_
  subst he
  exact ⟨_, rfl, _, _, _, [], [], [], hW', trodAll_mk1 (shut_bool Tryz.underlying4 _), trodAll_mk2 (shut_string Tryz.underlying9 wa) (shut_string Tryz.underlying9 wb), rfl, hb.frame _, fun h => by cases h⟩
theorem named : Tryz.pinned.checked.prog.funcNamed Rows.fnBigModRow.func = some 4 := by kernel_rfl
theorem holds : Rows.FnBigModSaid :=
  OpenClaim.holds_of_wide 4 Tryz.f4 rfl rfl rfl rfl rfl rfl rfl ⟨rfl, rfl, rfl, rfl, rfl⟩ rfl rfl rfl rfl rfl named Tryz.func4 fnBigModFacts.all
    (of_decide_eq_true (by kernel_rfl)) (by unfold Func.isWrapper; first | (rw [if_pos (by decide +kernel)]; kernel_rfl) | (rw [if_neg (by decide +kernel)]; exact ⟨rfl, rfl⟩))
    (fun os started H enc _ => lifted os started H enc)
theorem byText : Rows.fnBigModRow.wfByText (OpenSpec.ofChange Rows.fnBigModSpec) = true := by kernel_rfl
theorem mains : Tryz.pinned.checked.prog.mainIs = some ((true, "e0ed874febb56757def2f8199718abeb84c86a2fcd85b4170bf854eab2cf038b").1, (true, "e0ed874febb56757def2f8199718abeb84c86a2fcd85b4170bf854eab2cf038b").2.toList) := by kernel_rfl
theorem looked : true = Tryz.prog.looks [] := by kernel_rfl
theorem stands : ([9, 9].all fun u => !Tryz.prog.wantsStandIn u) = true := by kernel_rfl
theorem goes : false = Rows.fnBigModRow.goesBy Tryz.pinned.checked.prog := by kernel_rfl
theorem card : Rows.FnBigModCardSaid :=
  Claim7.holds_tied_plain_at .later [] [.data, .data, .widerDeep, .widerDeep, .data, .data, .data, .data, .data, .sentinel, .sentinel, .pinned, .pinned] true (true, "e0ed874febb56757def2f8199718abeb84c86a2fcd85b4170bf854eab2cf038b") true holds (fun _ h => by cases h) byText (fun _ h => by cases h) fnBigMod_row_tie rfl ⟨rfl, rfl⟩ mains rfl
    (fun f fn hf hfn => by
      obtain rfl : f = 4 := Option.some.inj (named.symm.trans hf) |>.symm
      obtain rfl : fn = Tryz.f4 := (Option.some.inj (Tryz.func4.symm.trans hfn)).symm
      exact ⟨looked, fun j t ht => by
        rw [Tryz.params4] at ht
        have hm : t ∈ [9, 9] := by simpa using Array.mem_of_getElem? ht
        exact (show Tryz.prog.wantsStandIn t = false by simpa using List.all_eq_true.1 stands t hm)⟩)
    goes
#print axioms card
end Go.Proofs.YtaiidipcmnejoaaGreatDoor.fnBigModRow
