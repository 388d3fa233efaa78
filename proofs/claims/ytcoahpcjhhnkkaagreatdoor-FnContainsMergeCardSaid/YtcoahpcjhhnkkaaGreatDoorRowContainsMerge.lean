import Derived.Test.YtcoahpcjhhnkkaaGreatDoorFactsContainsMerge
import Derived.Test.YtcoahpcjhhnkkaaGreatDoorLawCe
import Derived.Test.YtcoahpcjhhnkkaaGreatDoorMP
import Derived.Test.YtcoahpcjhhnkkaaGreatDoorEnvJ
import Derived.Test.YtcoahpcjhhnkkaaGreatDoorTie
import Derived.Lib.LaidU8T
import Derived.PinnedBridge
import Derived.Carry
import Derived.ProofKit
import Derived.OpenShut
import Derived.LaidMore
import Derived.Lay
import Derived.SevenTiedAt
import Derived.Stop.Joined
import Derived.ChangeAt
namespace Go.Proofs.YtcoahpcjhhnkkaaGreatDoor.fnContainsMergeRow
open Go.ChangeShapes Go.WideShapes Go.ChangeAt Go.RowKit Go.Lib Go.Shelf
theorem own : ownKnob Tryz.prog.godebug = none := by kernel_rfl
theorem laidOut : laidOutB Tryz.prog = true := by kernel_rfl
theorem accepts : (Rows.laid_unicode_utf8_acceptRanges : DataW Unit) = acceptData := by kernel_rfl
theorem firsts : (Rows.laid_unicode_utf8_first : DataW Unit) = firstData := Pinned.utf8First_eq
theorem env_of {W : World} (h : laidMetH Tryz.prog Rows.fnContainsMergeRow.laid W) : ValA.Env W := by
  rw [MakeChecks.laidMetH_plain _ _ _ (by kernel_rfl)] at h
  have h1 := Lib.laidMet.reads h (.tail _ (.tail _ (.tail _ (.tail _ (.tail _ (.tail _ (.tail _ (.tail _ (.tail _ (.tail _ (.tail _ (.tail _ (.tail _ (.tail _ (.head _)))))))))))))))
  have h2 := Lib.laidMet.reads h (.tail _ (.tail _ (.tail _ (.tail _ (.tail _ (.tail _ (.tail _ (.tail _ (.tail _ (.head _))))))))))
  rw [firsts] at h1
  rw [accepts] at h2
  exact utf8Tabs_of_readsT (U8Types.of196 Tryz.laysValid) ⟨by kernel_rfl, by kernel_rfl, by kernel_rfl, by kernel_rfl, by kernel_rfl, by kernel_rfl, by kernel_rfl⟩ h1 h2
set_option maxRecDepth 100000 in
theorem lifted (os : Os) (started : os.Started) (H : Type) (enc : TypeId × Value → H) :
    ReturnsInHanded {} Tryz.checked os 8 .any (fun w args => (Rows.fnContainsMergeSpec.pre enc Tryz.prog Tryz.f8 Rows.fnContainsMergeRow.domain false w args ∧ laidMetH Tryz.prog Rows.fnContainsMergeRow.laid w) ∧ sizedMet enc Tryz.prog Tryz.f8 (OpenSpec.ofChange Rows.fnContainsMergeSpec) false w args)
      (Rows.fnContainsMergeSpec.post enc Tryz.prog Tryz.f8 false true false false) := by
  refine returnsInHanded_of_change_and (C := Tryz.checked) (X := fun w _ => laidMetH Tryz.prog Rows.fnContainsMergeRow.laid w) (fun _ _ _ hh h => h.of_heap hh) own started (by kernel_rfl) Tryz.func8
    (ChangeSpec.witness_shaped (enc := enc) (C := Tryz.checked) (os := os) (X := fun w _ => laidMetH Tryz.prog Rows.fnContainsMergeRow.laid w) false (World.laidAll Tryz.prog os Rows.fnContainsMergeRow.laid) #[.agg #[.int .i64 0, .int .i64 0, .string ⟨#[]⟩, .slice none 0 0, .slice none 0 0, .slice none 0 0], .agg #[.int .i64 0, .int .i64 0, .string ⟨#[]⟩, .slice none 0 0, .slice none 0 0, .slice none 0 0]] 8 (World.laidAll_os _ _ _)
      (World.shaped_of_ZipB (by kernel_rfl) (by kernel_rfl)) (by kernel_rfl) (by kernel_rfl) (by kernel_rfl)
      (by rw [MakeChecks.laidMetH_plain _ _ _ (by kernel_rfl)]; exact laidMet_laidAll _ (by kernel_rfl) (by kernel_rfl))) ?_
  intro W base args ds gs before hval0 hW _ hsz hL _
  have hval : ∀ (j : Nat) t v, Tryz.f8.params[j]? = some t → args[j]? = some v → Value.okWide Tryz.prog W .any base t v := hval0
  have hW' := hW
  obtain ⟨p, q, hA0, hV, rfl, _, _⟩ := hW
  have hA : DataW.TrodAll enc Tryz.prog W 0 (fun _ => true) true Tryz.f8.params.toList args.toList ds p := hA0
  rw [Tryz.params8] at hA hval
  obtain ⟨v0, v1, d0, d1, p0, p1, rfl, rfl, rfl, h0, h1⟩ := trodAll_two hA
  obtain ⟨rfl, rfl⟩ := trodVars_none hV
  have k0 := h0
  have lt0 : ∀ x ∈ p0, x.block < W.heap.size := by obtain ⟨m, hm⟩ := k0; exact DataW.trod_lt m _ _ _ hm
  obtain ⟨x0, K0, H0, s0, P0, Q0, R0, a0, b0, c0, e0, f0, g0, rfl, hk0, hz0⟩ := OpenT.open_V (fun z hz => by simpa using List.all_eq_true.1 hsz z (DataW.weights_mem_each (j := 0) (t := 26) (d := d0) rfl rfl z hz)) (hval 0 26 v0 rfl rfl) h0
  have k1 := h1
  have lt1 : ∀ x ∈ p1, x.block < W.heap.size := by obtain ⟨m, hm⟩ := k1; exact DataW.trod_lt m _ _ _ hm
  obtain ⟨x1, K1, H1, s1, P1, Q1, R1, a1, b1, c1, e1, f1, g1, rfl, hk1, hz1⟩ := OpenT.open_V (fun z hz => by simpa using List.all_eq_true.1 hsz z (DataW.weights_mem_each (j := 1) (t := 26) (d := d1) rfl rfl z hz)) (hval 1 26 v1 rfl rfl) h1
  refine (ValA.fnContainsMerge_any W (env_of hL) x0 hz0 K0 H0 s0 P0 Q0 R0 a0 b0 c0 e0 f0 g0 hk0 x1 hz1 K1 H1 s1 P1 Q1 R1 a1 b1 c1 e1 f1 g1 hk1).mono fun e W' ⟨he, hb⟩ => ?_
  subst he
  exact ⟨_, rfl, _, _, _, [], _, [], hW', trodAll_mk1 (shut_bool Tryz.underlying4 _), trodAll_mk2 (Below.trod laidOut (by kernel_rfl) (of_decide_eq_true (by kernel_rfl)) k0 hb lt0) (Below.trod laidOut (by kernel_rfl) (of_decide_eq_true (by kernel_rfl)) k1 hb lt1), rfl, hb.frame _, fun h => by cases h⟩
theorem named : Tryz.pinned.checked.prog.funcNamed Rows.fnContainsMergeRow.func = some 8 := by kernel_rfl
theorem holds : Rows.FnContainsMergeSaid :=
  OpenClaim.holds_of_wide 8 Tryz.f8 rfl rfl rfl rfl rfl rfl rfl ⟨rfl, rfl, rfl, rfl, rfl⟩ rfl rfl rfl rfl rfl named Tryz.func8 fnContainsMergeFacts.all
    (of_decide_eq_true (by kernel_rfl)) (by unfold Func.isWrapper; first | (rw [if_pos (by decide +kernel)]; kernel_rfl) | (rw [if_neg (by decide +kernel)]; exact ⟨rfl, rfl⟩))
    (fun os started H enc _ => lifted os started H enc)
theorem byText : Rows.fnContainsMergeRow.wfByText (OpenSpec.ofChange Rows.fnContainsMergeSpec) = true := by kernel_rfl
theorem mains : Tryz.pinned.checked.prog.mainIs = some ((true, "30191c2a7c726e2f405ce39ebb79992364e35cfd1b0b8cd5f1b30d31dc90deb9").1, (true, "30191c2a7c726e2f405ce39ebb79992364e35cfd1b0b8cd5f1b30d31dc90deb9").2.toList) := by kernel_rfl
theorem looked : true = Tryz.prog.looks [] := by kernel_rfl
theorem stands : ([26, 26].all fun u => !Tryz.prog.wantsStandIn u) = true := by kernel_rfl
theorem goes : false = Rows.fnContainsMergeRow.goesBy Tryz.pinned.checked.prog := by kernel_rfl
theorem card : Rows.FnContainsMergeCardSaid :=
  Claim7.holds_tied_plain_at .later [] [.data, .data, .widerDeep, .widerDeep, .data, .data, .data, .data, .data, .data, .sentinel, .sentinel, .pinned, .pinned, .pinned] true (true, "30191c2a7c726e2f405ce39ebb79992364e35cfd1b0b8cd5f1b30d31dc90deb9") true holds (fun _ h => by cases h) byText (fun _ h => by cases h) fnContainsMerge_row_tie rfl ⟨rfl, rfl⟩ mains rfl
    (fun f fn hf hfn => by
      obtain rfl : f = 8 := Option.some.inj (named.symm.trans hf) |>.symm
      obtain rfl : fn = Tryz.f8 := (Option.some.inj (Tryz.func8.symm.trans hfn)).symm
      exact ⟨looked, fun j t ht => by
        rw [Tryz.params8] at ht
        have hm : t ∈ [26, 26] := by simpa using Array.mem_of_getElem? ht
        exact (show Tryz.prog.wantsStandIn t = false by simpa using List.all_eq_true.1 stands t hm)⟩)
    goes
#print axioms card
end Go.Proofs.YtcoahpcjhhnkkaaGreatDoor.fnContainsMergeRow
