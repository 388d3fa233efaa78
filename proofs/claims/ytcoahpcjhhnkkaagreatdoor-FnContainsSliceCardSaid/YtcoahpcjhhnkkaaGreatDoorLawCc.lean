/-
FnContainsSlice: an array, or a string, contains each of its slices.
-/
import Derived.Test.YtcoahpcjhhnkkaaGreatDoorMQ
set_option linter.unusedSimpArgs false
set_option linter.unusedVariables false
namespace Go.Proofs.YtcoahpcjhhnkkaaGreatDoor.ValA
open Go.RowKit Go.Lib Go.Proofs.YtcoahpcjhhnkkaaGreatDoorW.PrintWords Go.Proofs.YtcoahpcjhhnkkaaGreatDoorW.PrintLast Go.Proofs.YtcoahpcjhhnkkaaGreatDoorW.PrintMore Go.Proofs.YtcoahpcjhhnkkaaGreatDoor.PzzFits1 Go.Proofs.YtcoahpcjhhnkkaaGreatDoor.NumA Go.Proofs.YtcoahpcjhhnkkaaGreatDoor.TxtA
attribute [local go_sem] run_val
set_option maxRecDepth 100000 in
set_option maxHeartbeats 20000000 in
theorem fnContainsSlice_1 (w0 : World) (hE : Env w0) (x : V) (hzt : Sz x ∧ Tz x) (K H : Int) (s : ByteArray) (A3 A4 A5 : Option Addr) (n3 c3 n4 c4 n5 c5 : Nat) (hK : k26.K w0 x [.int .i64 K, .int .i64 H, .string s, .slice A3 n3 c3, .slice A4 n4 c4, .slice A5 n5 c5]) (m1 : Int) (zm1 : (Lit.int .i8 m1).wf = true) (m2 : Int) (zm2 : (Lit.int .i8 m2).wf = true) (hk : x.f0 = 4 ∨ x.f0 = 5) :
    Calls Tryz.prog 7 #[.agg #[.int .i64 K, .int .i64 H, .string s, .slice A3 n3 c3, .slice A4 n4 c4, .slice A5 n5 c5], .int .i8 m1, .int .i8 m2] w0 fun e w' => e = .returned (.bool true) ∧ Below w0.heap.size w0 w' := by
  have hz := hzt.1
  have HTZ := Lib.hid hzt.2
  clear hzt
  have HKX := Lib.hid hk
  clear hk
  obtain ⟨w, hw⟩ : ∃ w, w = w0 := ⟨_, rfl⟩
  obtain ⟨B3, e3, B4, e4, B5, e5, he, l3, g3, l4, g4, l5, g5⟩ := k26_open hK
  simp only [List.cons.injEq, Value.int.injEq, Value.string.injEq, Value.slice.injEq, true_and, and_true] at he
  obtain ⟨rfl, rfl, rfl, ⟨rfl, rfl, rfl⟩, ⟨rfl, rfl, rfl⟩, ⟨rfl, rfl, rfl⟩⟩ := he
  clear l3 g3 l4 g4 l5 g5
  have bm1 := i8_in zm1
  have bm2 := i8_in zm2
  clear zm1 zm2
  have HZ := Lib.hid hz
  have HF1 := Lib.hid (fun w1 hb => fits1_size w0 x x.f0 x.f1 x.f2 A3 A4 A5 x.f3.length c3 x.f4.length c4 x.f5.length c5 hK w1 hb)
  have HF := Lib.hid (fun w1 g (hg : g = w1.heap.size) hb => fits_at w0 hE hz hK w1 g hg hb)
  have HT := Lib.hid (fun h => toGo_any w0 _ x (Nat.lt_succ_self _) hz h _ hK)
  have HNU := Lib.hid (fun n w => number_any n w)
  have HKW := Lib.hid hK
  clear hE hz hK
  subst hw
  go_enter Tryz.func7, Tryz.ntmps7
  go_wp2_with fail
  obtain ⟨V, hV⟩ : ∃ V, V = w.heap.size := ⟨_, rfl⟩
  obtain ⟨W0, hW0⟩ : ∃ W0, W0 = w.alloc (.cells #[.int .i64 x.f0, .int .i64 x.f1, .string x.f2, .slice A3 x.f3.length c3, .slice A4 x.f4.length c4, .slice A5 x.f5.length c5] 26) := ⟨_, rfl⟩
  have hS0 : SPR w [(V, cv x A3 c3 A4 c4 A5 c5, 26)] [] W0 := by rw [hV, hW0]; exact (spr0 (Below.refl _ w)).more _ _
  rw [← hW0]
  try rw [← hV]
  have H0 := Lib.hid hS0
  clear hS0 hW0 hV
  have y := six_cells (H0.out.get 0 rfl)
  try go_wp2_with fail
  refine (HF1.out W0 H0.out.bel).mono ?_
  rintro e w1 ⟨r, rfl, hr, hb⟩
  have H1 := Lib.hid (H0.out.below hb)
  clear hb H0 y HF1
  cases r with
  | false =>
    go_wp2_with fail
    go_ret
    exact ⟨rfl, H1.out.bel⟩
  | true =>
  have SZ := Lib.hid (hr (by trivial))
  clear hr
  have y := six_cells (H1.out.get 0 rfl)
  go_wp2_with fail
  refine (HF.out w1 _ rfl H1.out.bel).mono ?_
  rintro e w2 ⟨r, rfl, hr, hb⟩
  have H2 := Lib.hid (((H1.out.more _ _).below hb).tk 1 0)
  clear hb H1 HF y
  have ya := six_cells (H2.out.get 0 rfl)
  cases r with
  | false =>
    go_wp2_with fail
    go_ret
    exact ⟨rfl, H2.out.bel⟩
  | true =>
  have HW := Lib.hid (hr (by trivial))
  clear hr
  have hk := HKX.out
  have hq : ((x.f0 != 5) = true ∧ (x.f0 != 4) = false) ∨ ((x.f0 != 5) = false ∧ (x.f0 != 4) = true) := by
    rcases hk with h | h
    · exact Or.inl ⟨by rw [h]; rfl, by rw [h]; rfl⟩
    · exact Or.inr ⟨by rw [h]; rfl, by rw [h]; rfl⟩
  have HT := Lib.hid (HT.out (loose HW.out))
  have HWL := Lib.hid (loose HW.out)
  obtain ⟨x1, hx1⟩ : ∃ x1, x1 = slV x (some m1) (some m2) := ⟨_, rfl⟩
  have HX1 : Hid (WL x1 ∧ Sz x1 ∧ Tz x1 ∧ con x x1 = some true) := Lib.hid (by rw [hx1]; exact ⟨part_wl HWL.out _ _, part_sz HZ.out _ _, part_tz HTZ.out _ _, con_part HWL.out HTZ.out hk _ _ (hi_in _ _ _).1⟩)
  have HSA : Hid (∀ L rs w1, SPR w L rs w1 → Calls Tryz.prog 25 #[.agg #[.int .i64 x.f0, .int .i64 x.f1, .string x.f2, .slice A3 x.f3.length c3, .slice A4 x.f4.length c4, .slice A5 x.f5.length c5], .agg #[.int .i64 3, .int .i64 (2 * m1), .string ⟨#[]⟩, .slice none 0 0, .slice none 0 0, .slice none 0 0], .agg #[.int .i64 3, .int .i64 (2 * m2), .string ⟨#[]⟩, .slice none 0 0, .slice none 0 0, .slice none 0 0]] w1 fun e w' => ∃ cs, e = .returned (.agg cs) ∧ SPR w L (rs ++ [(x1, cs)]) w') := Lib.hid (by
    intro L rs w1 h
    rw [hx1]
    exact slice_resV w HT.out HWL.out HZ.out hk SZ.out (some m1) (some m2) (tiny_some (by omega) (by omega)) (tiny_some (by omega) (by omega)) h h.bel)
  have HE : Hid (wrap64 m1 = m1 ∧ wrap64 m2 = m2 ∧ wrap64 (2 * m1) = 2 * m1 ∧ wrap64 (2 * m2) = 2 * m2) := Lib.hid ⟨by unfold wrap64; omega, by unfold wrap64; omega, by unfold wrap64; omega, by unfold wrap64; omega⟩
  have HN1 : Hid (∀ w1, Calls Tryz.prog 26 #[.int .i64 (wrap64 m1)] w1 fun e w' => e = .returned (.agg #[.int .i64 3, .int .i64 (2 * m1), .string ⟨#[]⟩, .slice none 0 0, .slice none 0 0, .slice none 0 0]) ∧ Below w1.heap.size w1 w') := Lib.hid (by
    intro w1
    have h := number_any m1 w1
    rw [HE.out.2.2.1] at h
    rw [HE.out.1]
    exact h)
  have HN2 : Hid (∀ w1, Calls Tryz.prog 26 #[.int .i64 (wrap64 m2)] w1 fun e w' => e = .returned (.agg #[.int .i64 3, .int .i64 (2 * m2), .string ⟨#[]⟩, .slice none 0 0, .slice none 0 0, .slice none 0 0]) ∧ Below w1.heap.size w1 w') := Lib.hid (by
    intro w1
    have h := number_any m2 w1
    rw [HE.out.2.2.2] at h
    rw [HE.out.2.1]
    exact h)
  clear hx1 bm1 bm2 hk
  rcases hq with ⟨q3, q4⟩ | ⟨q3, q4⟩
  all_goals
  go_wp2_with fail
  clear q3 q4 ya
  have HSa : ∀ w', SPR w [(V, cv x A3 c3 A4 c4 A5 c5, 26)] [] w' → w'.cell? ⟨V, 0, none⟩ = some (.int .i64 x.f0) ∧ w'.cell? ⟨V, 1, none⟩ = some (.int .i64 x.f1) ∧ w'.cell? ⟨V, 2, none⟩ = some (.string x.f2) ∧ w'.cell? ⟨V, 3, none⟩ = some (.slice A3 x.f3.length c3) ∧ w'.cell? ⟨V, 4, none⟩ = some (.slice A4 x.f4.length c4) ∧ w'.cell? ⟨V, 5, none⟩ = some (.slice A5 x.f5.length c5) ∧ SPR w [(V, cv x A3 c3 A4 c4 A5 c5, 26)] [] w' := fun w' h => ⟨((six_cells ((SPR.spl h).get 0 rfl)).1), ((six_cells ((SPR.spl h).get 0 rfl)).2.1), ((six_cells ((SPR.spl h).get 0 rfl)).2.2.1), ((six_cells ((SPR.spl h).get 0 rfl)).2.2.2.1), ((six_cells ((SPR.spl h).get 0 rfl)).2.2.2.2.1), ((six_cells ((SPR.spl h).get 0 rfl)).2.2.2.2.2.1), h⟩
  refine start_ (n := 10) (S := fun w' => w'.cell? ⟨V, 0, none⟩ = some (.int .i64 x.f0) ∧ w'.cell? ⟨V, 1, none⟩ = some (.int .i64 x.f1) ∧ w'.cell? ⟨V, 2, none⟩ = some (.string x.f2) ∧ w'.cell? ⟨V, 3, none⟩ = some (.slice A3 x.f3.length c3) ∧ w'.cell? ⟨V, 4, none⟩ = some (.slice A4 x.f4.length c4) ∧ w'.cell? ⟨V, 5, none⟩ = some (.slice A5 x.f5.length c5) ∧ SPR w [(V, cv x A3 c3 A4 c4 A5 c5, 26)] [] w') (ds := []) #[false, false, false, false, false, false, false, false, false, false] (by kernel_rfl) rfl rfl (HSa _ (SPR.drew H2.out)) (fun hHeld => ?_)
  refine pure_ (i := 1) (N := some 26) (v := ?_) (a' := ?_) #[false, true, false, false, false, false, false, false, false, false] rfl rfl (by kernel_rfl) (fun _ _ _ h => h) (Or.inl ⟨by rfl, ?_⟩) ?_ ?_
  rotate_left
  · intro w'
    go_simp
    with_reducible rfl
  rotate_left
  · simp only [Act.put, List.setIfInBounds_toArray, List.set_cons_zero, List.set_cons_succ, i64_w, i32_w]
    rfl
  refine pure_ (i := 2) (N := some 27) (v := ?_) (a' := ?_) #[false, true, true, false, false, false, false, false, false, false] rfl rfl (by kernel_rfl) (fun _ _ _ h => h) (Or.inl ⟨by rfl, ?_⟩) ?_ ?_
  rotate_left
  · intro w'
    go_simp
    with_reducible rfl
  rotate_left
  · simp only [Act.put, List.setIfInBounds_toArray, List.set_cons_zero, List.set_cons_succ, i64_w, i32_w]
    rfl
  refine pure_ (i := 4) (N := some 29) (v := ?_) (a' := ?_) #[false, true, true, false, true, false, false, false, false, false] rfl rfl (by kernel_rfl) (fun _ _ _ h => h) (Or.inl ⟨by rfl, ?_⟩) ?_ ?_
  rotate_left
  · intro w'
    go_simp
    with_reducible rfl
  rotate_left
  · simp only [Act.put, List.setIfInBounds_toArray, List.set_cons_zero, List.set_cons_succ, i64_w, i32_w]
    rfl
  refine pure_ (i := 5) (N := some 30) (v := ?_) (a' := ?_) #[false, true, true, false, true, true, false, false, false, false] rfl rfl (by kernel_rfl) (fun _ _ _ h => h) (Or.inl ⟨by rfl, ?_⟩) ?_ ?_
  rotate_left
  · intro w'
    go_simp
    with_reducible rfl
  rotate_left
  · simp only [Act.put, List.setIfInBounds_toArray, List.set_cons_zero, List.set_cons_succ, i64_w, i32_w]
    rfl
  refine take_ (i := 0) (N := some 25) (v := ?_) (a' := ?_) #[true, true, true, false, true, true, false, false, false, false] rfl rfl (by kernel_rfl) (fun _ _ _ h => h) (Or.inl ⟨by rfl, ?_⟩) hHeld ?_ ?_
  rotate_left
  · rintro w' ⟨s0, s1, s2, s3, s4, s5, s6⟩
    go_simp
    with_reducible rfl
  rotate_left
  · simp only [Act.put, List.setIfInBounds_toArray, List.set_cons_zero, List.set_cons_succ, i64_w, i32_w]
    rfl
  refine join_ (σ := Nat × Array Value × Unit) 1 #[true, true, true, true, true, true, true, true, true, false] (fun s => [(28, .agg #[.int .i64 3, .int .i64 (2 * m1), .string ⟨#[]⟩, .slice none 0 0, .slice none 0 0, .slice none 0 0]), (31, .agg #[.int .i64 3, .int .i64 (2 * m2), .string ⟨#[]⟩, .slice none 0 0, .slice none 0 0, .slice none 0 0]), (32, .agg s.2.1), (7, .pointer (some ⟨s.1, 0, none⟩))]) (fun s w' => SPR w [(V, cv x A3 c3 A4 c4 A5 c5, 26), (s.1, z7, 36)] [(x1, s.2.1)] w') ?_ ?_
  rotate_left
  · intro hJ3_6_7_8
    refine join_ (σ := Array Value × Unit) 2 #[true, true, true, true, true, true, true, true, false, false] (fun s => [(28, .agg #[.int .i64 3, .int .i64 (2 * m1), .string ⟨#[]⟩, .slice none 0 0, .slice none 0 0, .slice none 0 0]), (31, .agg #[.int .i64 3, .int .i64 (2 * m2), .string ⟨#[]⟩, .slice none 0 0, .slice none 0 0, .slice none 0 0]), (32, .agg s.1)]) (fun s w' => SPR w [(V, cv x A3 c3 A4 c4 A5 c5, 26)] [(x1, s.1)] w') ?_ ?_
    rotate_left
    · intro hJ3_6_7
      refine join_ (σ := Nat × Unit) 2 #[true, true, true, true, true, true, true, false, true, false] (fun s => [(28, .agg #[.int .i64 3, .int .i64 (2 * m1), .string ⟨#[]⟩, .slice none 0 0, .slice none 0 0, .slice none 0 0]), (31, .agg #[.int .i64 3, .int .i64 (2 * m2), .string ⟨#[]⟩, .slice none 0 0, .slice none 0 0, .slice none 0 0]), (7, .pointer (some ⟨s.1, 0, none⟩))]) (fun s w' => SPR w [(V, cv x A3 c3 A4 c4 A5 c5, 26), (s.1, z7, 36)] [] w') ?_ ?_
      rotate_left
      · intro hJ3_6_8
        refine join_ (σ := Unit) 3 #[true, true, true, true, true, true, true, false, false, false] (fun s => [(28, .agg #[.int .i64 3, .int .i64 (2 * m1), .string ⟨#[]⟩, .slice none 0 0, .slice none 0 0, .slice none 0 0]), (31, .agg #[.int .i64 3, .int .i64 (2 * m2), .string ⟨#[]⟩, .slice none 0 0, .slice none 0 0, .slice none 0 0])]) (fun s w' => SPR w [(V, cv x A3 c3 A4 c4 A5 c5, 26)] [] w') ?_ ?_
        rotate_left
        · intro hJ3_6
          refine join_ (σ := Nat × Unit) 3 #[true, true, true, true, true, true, false, false, true, false] (fun s => [(28, .agg #[.int .i64 3, .int .i64 (2 * m1), .string ⟨#[]⟩, .slice none 0 0, .slice none 0 0, .slice none 0 0]), (7, .pointer (some ⟨s.1, 0, none⟩))]) (fun s w' => SPR w [(V, cv x A3 c3 A4 c4 A5 c5, 26), (s.1, z7, 36)] [] w') ?_ ?_
          rotate_left
          · intro hJ3_8
            refine join_ (σ := Unit) 4 #[true, true, true, true, true, true, false, false, false, false] (fun s => [(28, .agg #[.int .i64 3, .int .i64 (2 * m1), .string ⟨#[]⟩, .slice none 0 0, .slice none 0 0, .slice none 0 0])]) (fun s w' => SPR w [(V, cv x A3 c3 A4 c4 A5 c5, 26)] [] w') ?_ ?_
            rotate_left
            · intro hJ3
              refine join_ (σ := Nat × Unit) 4 #[true, true, true, false, true, true, false, false, true, false] (fun s => [(7, .pointer (some ⟨s.1, 0, none⟩))]) (fun s w' => SPR w [(V, cv x A3 c3 A4 c4 A5 c5, 26), (s.1, z7, 36)] [] w') ?_ ?_
              rotate_left
              · intro hJ8
                refine two_ (i := 3) (j := 8) (Ni := some 28) (Nj := some 7) #[true, true, true, true, true, true, false, false, false, false] #[true, true, true, false, true, true, false, false, true, false] rfl rfl rfl rfl (by kernel_rfl) (by decide) (by decide) (fun K hK => ?_) (fun K hK => ?_)
                · skip
                  refine goes_ Tryz.func26 (by kernel_rfl) rfl #[.int .i64 (wrap64 m1)] (by rfl) rfl rfl (by simp only [List.map_toArray, List.map_cons, List.map_nil]; rfl) ?_
                  with_reducible refine ((HN1.out _)).mono ?_
                  rintro e wz ⟨rfl, hb⟩
                  refine ⟨_, rfl, ?_⟩
                  have hz := SPR.below (hHeld.2.2.2.2.2.2) hb
                  have hzb : SPR w [(V, cv x A3 c3 A4 c4 A5 c5, 26)] [] wz := SPR.tk 1 0 hz
                  refine hK.out _ _ (HSa _ hzb) (fun hHeld => ?_)
                  clear hK K
                  refine norm_ (a' := ?_) ?_ ?_
                  rotate_left
                  · show Act.put _ (some 28) _ = _
                    simp only [Act.put, List.setIfInBounds_toArray, List.set_cons_zero, List.set_cons_succ, i64_w, i32_w]
                    rfl
                  exact norm_ (by first | (simp only [putAll, Act.put, List.setIfInBounds_toArray, List.set_cons_zero, List.set_cons_succ]; done) | (simp only [putAll, Act.put, List.setIfInBounds_toArray, List.set_cons_zero, List.set_cons_succ]; rfl)) (hJ3 (()) _ hz)
                · skip
                  refine freshR_ (c := #[.int .i64 0, .int .i64 0, .string ⟨#[]⟩, .slice none 0 0, .slice none 0 0, .slice none 0 0, .int .i64 0]) (t := 36) (hHeld.2.2.2.2.2.2) (by rfl) rfl ?_ ?_
                  · first | (go_simp; done) | (go_simp; rfl)
                  intro Ra8 wz hz
                  have hzb : SPR w [(V, cv x A3 c3 A4 c4 A5 c5, 26)] [] wz := SPR.tk 1 0 hz
                  refine hK.out _ _ (HSa _ hzb) (fun hHeld => ?_)
                  clear hK K
                  refine norm_ (a' := ?_) ?_ ?_
                  rotate_left
                  · show Act.put _ (some 7) _ = _
                    simp only [Act.put, List.setIfInBounds_toArray, List.set_cons_zero, List.set_cons_succ, i64_w, i32_w]
                    rfl
                  exact norm_ (by first | (simp only [putAll, Act.put, List.setIfInBounds_toArray, List.set_cons_zero, List.set_cons_succ]; done) | (simp only [putAll, Act.put, List.setIfInBounds_toArray, List.set_cons_zero, List.set_cons_succ]; rfl)) (hJ8 (Ra8, ()) _ hz)
              · skip
                rintro ⟨Ra8, _⟩ w' hF
                change SPR w [(V, cv x A3 c3 A4 c4 A5 c5, 26), (Ra8, z7, 36)] [] w' at hF
                have hFb : SPR w [(V, cv x A3 c3 A4 c4 A5 c5, 26)] [] w' := SPR.tk 1 0 hF
                have hHeld := HSa _ hFb
                clear hFb
                refine norm_ (a' := ?_) ?_ ?_
                rotate_left
                · simp only [putAll, Act.put, List.setIfInBounds_toArray, List.set_cons_zero, List.set_cons_succ]
                  rfl
                refine one_ (i := 3) (N := some 28) #[true, true, true, true, true, true, false, false, true, false] rfl rfl (by kernel_rfl) (by decide) (fun K hK => ?_)
                refine goes_ Tryz.func26 (by kernel_rfl) rfl #[.int .i64 (wrap64 m1)] (by rfl) rfl rfl (by simp only [List.map_toArray, List.map_cons, List.map_nil]; rfl) ?_
                with_reducible refine ((HN1.out _)).mono ?_
                rintro e wz ⟨rfl, hb⟩
                refine ⟨_, rfl, ?_⟩
                have hz := SPR.below (hF) hb
                have hzb : SPR w [(V, cv x A3 c3 A4 c4 A5 c5, 26)] [] wz := SPR.tk 1 0 hz
                refine hK.out _ _ (HSa _ hzb) (fun hHeld => ?_)
                clear hK K
                refine norm_ (a' := ?_) ?_ ?_
                rotate_left
                · show Act.put _ (some 28) _ = _
                  simp only [Act.put, List.setIfInBounds_toArray, List.set_cons_zero, List.set_cons_succ, i64_w, i32_w]
                  rfl
                exact norm_ (by first | (simp only [putAll, Act.put, List.setIfInBounds_toArray, List.set_cons_zero, List.set_cons_succ]; done) | (simp only [putAll, Act.put, List.setIfInBounds_toArray, List.set_cons_zero, List.set_cons_succ]; rfl)) (hJ3_8 (Ra8, ()) _ hz)
            · skip
              rintro ⟨_⟩ w' hF
              change SPR w [(V, cv x A3 c3 A4 c4 A5 c5, 26)] [] w' at hF
              have hFb : SPR w [(V, cv x A3 c3 A4 c4 A5 c5, 26)] [] w' := SPR.tk 1 0 hF
              have hHeld := HSa _ hFb
              clear hFb
              refine norm_ (a' := ?_) ?_ ?_
              rotate_left
              · simp only [putAll, Act.put, List.setIfInBounds_toArray, List.set_cons_zero, List.set_cons_succ]
                rfl
              refine two_ (i := 6) (j := 8) (Ni := some 31) (Nj := some 7) #[true, true, true, true, true, true, true, false, false, false] #[true, true, true, true, true, true, false, false, true, false] rfl rfl rfl rfl (by kernel_rfl) (by decide) (by decide) (fun K hK => ?_) (fun K hK => ?_)
              · skip
                refine goes_ Tryz.func26 (by kernel_rfl) rfl #[.int .i64 (wrap64 m2)] (by rfl) rfl rfl (by simp only [List.map_toArray, List.map_cons, List.map_nil]; rfl) ?_
                with_reducible refine ((HN2.out _)).mono ?_
                rintro e wz ⟨rfl, hb⟩
                refine ⟨_, rfl, ?_⟩
                have hz := SPR.below (hF) hb
                have hzb : SPR w [(V, cv x A3 c3 A4 c4 A5 c5, 26)] [] wz := SPR.tk 1 0 hz
                refine hK.out _ _ (HSa _ hzb) (fun hHeld => ?_)
                clear hK K
                refine norm_ (a' := ?_) ?_ ?_
                rotate_left
                · show Act.put _ (some 31) _ = _
                  simp only [Act.put, List.setIfInBounds_toArray, List.set_cons_zero, List.set_cons_succ, i64_w, i32_w]
                  rfl
                exact norm_ (by first | (simp only [putAll, Act.put, List.setIfInBounds_toArray, List.set_cons_zero, List.set_cons_succ]; done) | (simp only [putAll, Act.put, List.setIfInBounds_toArray, List.set_cons_zero, List.set_cons_succ]; rfl)) (hJ3_6 (()) _ hz)
              · skip
                refine freshR_ (c := #[.int .i64 0, .int .i64 0, .string ⟨#[]⟩, .slice none 0 0, .slice none 0 0, .slice none 0 0, .int .i64 0]) (t := 36) (hF) (by rfl) rfl ?_ ?_
                · first | (go_simp; done) | (go_simp; rfl)
                intro Ra8 wz hz
                have hzb : SPR w [(V, cv x A3 c3 A4 c4 A5 c5, 26)] [] wz := SPR.tk 1 0 hz
                refine hK.out _ _ (HSa _ hzb) (fun hHeld => ?_)
                clear hK K
                refine norm_ (a' := ?_) ?_ ?_
                rotate_left
                · show Act.put _ (some 7) _ = _
                  simp only [Act.put, List.setIfInBounds_toArray, List.set_cons_zero, List.set_cons_succ, i64_w, i32_w]
                  rfl
                exact norm_ (by first | (simp only [putAll, Act.put, List.setIfInBounds_toArray, List.set_cons_zero, List.set_cons_succ]; done) | (simp only [putAll, Act.put, List.setIfInBounds_toArray, List.set_cons_zero, List.set_cons_succ]; rfl)) (hJ3_8 (Ra8, ()) _ hz)
          · skip
            rintro ⟨Ra8, _⟩ w' hF
            change SPR w [(V, cv x A3 c3 A4 c4 A5 c5, 26), (Ra8, z7, 36)] [] w' at hF
            have hFb : SPR w [(V, cv x A3 c3 A4 c4 A5 c5, 26)] [] w' := SPR.tk 1 0 hF
            have hHeld := HSa _ hFb
            clear hFb
            refine norm_ (a' := ?_) ?_ ?_
            rotate_left
            · simp only [putAll, Act.put, List.setIfInBounds_toArray, List.set_cons_zero, List.set_cons_succ]
              rfl
            refine one_ (i := 6) (N := some 31) #[true, true, true, true, true, true, true, false, true, false] rfl rfl (by kernel_rfl) (by decide) (fun K hK => ?_)
            refine goes_ Tryz.func26 (by kernel_rfl) rfl #[.int .i64 (wrap64 m2)] (by rfl) rfl rfl (by simp only [List.map_toArray, List.map_cons, List.map_nil]; rfl) ?_
            with_reducible refine ((HN2.out _)).mono ?_
            rintro e wz ⟨rfl, hb⟩
            refine ⟨_, rfl, ?_⟩
            have hz := SPR.below (hF) hb
            have hzb : SPR w [(V, cv x A3 c3 A4 c4 A5 c5, 26)] [] wz := SPR.tk 1 0 hz
            refine hK.out _ _ (HSa _ hzb) (fun hHeld => ?_)
            clear hK K
            refine norm_ (a' := ?_) ?_ ?_
            rotate_left
            · show Act.put _ (some 31) _ = _
              simp only [Act.put, List.setIfInBounds_toArray, List.set_cons_zero, List.set_cons_succ, i64_w, i32_w]
              rfl
            exact norm_ (by first | (simp only [putAll, Act.put, List.setIfInBounds_toArray, List.set_cons_zero, List.set_cons_succ]; done) | (simp only [putAll, Act.put, List.setIfInBounds_toArray, List.set_cons_zero, List.set_cons_succ]; rfl)) (hJ3_6_8 (Ra8, ()) _ hz)
        · skip
          rintro ⟨_⟩ w' hF
          change SPR w [(V, cv x A3 c3 A4 c4 A5 c5, 26)] [] w' at hF
          have hFb : SPR w [(V, cv x A3 c3 A4 c4 A5 c5, 26)] [] w' := SPR.tk 1 0 hF
          have hHeld := HSa _ hFb
          clear hFb
          refine norm_ (a' := ?_) ?_ ?_
          rotate_left
          · simp only [putAll, Act.put, List.setIfInBounds_toArray, List.set_cons_zero, List.set_cons_succ]
            rfl
          refine two_ (i := 7) (j := 8) (Ni := some 32) (Nj := some 7) #[true, true, true, true, true, true, true, true, false, false] #[true, true, true, true, true, true, true, false, true, false] rfl rfl rfl rfl (by kernel_rfl) (by decide) (by decide) (fun K hK => ?_) (fun K hK => ?_)
          · skip
            refine goes_ Tryz.func25 (by kernel_rfl) rfl #[.agg #[.int .i64 x.f0, .int .i64 x.f1, .string x.f2, .slice A3 x.f3.length c3, .slice A4 x.f4.length c4, .slice A5 x.f5.length c5], .agg #[.int .i64 3, .int .i64 (2 * m1), .string ⟨#[]⟩, .slice none 0 0, .slice none 0 0, .slice none 0 0], .agg #[.int .i64 3, .int .i64 (2 * m2), .string ⟨#[]⟩, .slice none 0 0, .slice none 0 0, .slice none 0 0]] (by rfl) rfl rfl (by simp only [List.map_toArray, List.map_cons, List.map_nil]; rfl) ?_
            with_reducible refine ((HSA.out _ _ _ (hF))).mono ?_
            rintro e wz ⟨u7, rfl, hz⟩
            refine ⟨_, rfl, ?_⟩
            have hzb : SPR w [(V, cv x A3 c3 A4 c4 A5 c5, 26)] [] wz := SPR.tk 1 0 hz
            refine hK.out _ _ (HSa _ hzb) (fun hHeld => ?_)
            clear hK K
            refine norm_ (a' := ?_) ?_ ?_
            rotate_left
            · show Act.put _ (some 32) _ = _
              simp only [Act.put, List.setIfInBounds_toArray, List.set_cons_zero, List.set_cons_succ, i64_w, i32_w]
              rfl
            exact norm_ (by first | (simp only [putAll, Act.put, List.setIfInBounds_toArray, List.set_cons_zero, List.set_cons_succ]; done) | (simp only [putAll, Act.put, List.setIfInBounds_toArray, List.set_cons_zero, List.set_cons_succ]; rfl)) (hJ3_6_7 (u7, ()) _ hz)
          · skip
            refine freshR_ (c := #[.int .i64 0, .int .i64 0, .string ⟨#[]⟩, .slice none 0 0, .slice none 0 0, .slice none 0 0, .int .i64 0]) (t := 36) (hF) (by rfl) rfl ?_ ?_
            · first | (go_simp; done) | (go_simp; rfl)
            intro Ra8 wz hz
            have hzb : SPR w [(V, cv x A3 c3 A4 c4 A5 c5, 26)] [] wz := SPR.tk 1 0 hz
            refine hK.out _ _ (HSa _ hzb) (fun hHeld => ?_)
            clear hK K
            refine norm_ (a' := ?_) ?_ ?_
            rotate_left
            · show Act.put _ (some 7) _ = _
              simp only [Act.put, List.setIfInBounds_toArray, List.set_cons_zero, List.set_cons_succ, i64_w, i32_w]
              rfl
            exact norm_ (by first | (simp only [putAll, Act.put, List.setIfInBounds_toArray, List.set_cons_zero, List.set_cons_succ]; done) | (simp only [putAll, Act.put, List.setIfInBounds_toArray, List.set_cons_zero, List.set_cons_succ]; rfl)) (hJ3_6_8 (Ra8, ()) _ hz)
      · skip
        rintro ⟨Ra8, _⟩ w' hF
        change SPR w [(V, cv x A3 c3 A4 c4 A5 c5, 26), (Ra8, z7, 36)] [] w' at hF
        have hFb : SPR w [(V, cv x A3 c3 A4 c4 A5 c5, 26)] [] w' := SPR.tk 1 0 hF
        have hHeld := HSa _ hFb
        clear hFb
        refine norm_ (a' := ?_) ?_ ?_
        rotate_left
        · simp only [putAll, Act.put, List.setIfInBounds_toArray, List.set_cons_zero, List.set_cons_succ]
          rfl
        refine one_ (i := 7) (N := some 32) #[true, true, true, true, true, true, true, true, true, false] rfl rfl (by kernel_rfl) (by decide) (fun K hK => ?_)
        refine goes_ Tryz.func25 (by kernel_rfl) rfl #[.agg #[.int .i64 x.f0, .int .i64 x.f1, .string x.f2, .slice A3 x.f3.length c3, .slice A4 x.f4.length c4, .slice A5 x.f5.length c5], .agg #[.int .i64 3, .int .i64 (2 * m1), .string ⟨#[]⟩, .slice none 0 0, .slice none 0 0, .slice none 0 0], .agg #[.int .i64 3, .int .i64 (2 * m2), .string ⟨#[]⟩, .slice none 0 0, .slice none 0 0, .slice none 0 0]] (by rfl) rfl rfl (by simp only [List.map_toArray, List.map_cons, List.map_nil]; rfl) ?_
        with_reducible refine ((HSA.out _ _ _ (hF))).mono ?_
        rintro e wz ⟨u7, rfl, hz⟩
        refine ⟨_, rfl, ?_⟩
        have hzb : SPR w [(V, cv x A3 c3 A4 c4 A5 c5, 26)] [] wz := SPR.tk 1 0 hz
        refine hK.out _ _ (HSa _ hzb) (fun hHeld => ?_)
        clear hK K
        refine norm_ (a' := ?_) ?_ ?_
        rotate_left
        · show Act.put _ (some 32) _ = _
          simp only [Act.put, List.setIfInBounds_toArray, List.set_cons_zero, List.set_cons_succ, i64_w, i32_w]
          rfl
        exact norm_ (by first | (simp only [putAll, Act.put, List.setIfInBounds_toArray, List.set_cons_zero, List.set_cons_succ]; done) | (simp only [putAll, Act.put, List.setIfInBounds_toArray, List.set_cons_zero, List.set_cons_succ]; rfl)) (hJ3_6_7_8 (Ra8, u7, ()) _ hz)
    · skip
      rintro ⟨cz7, _⟩ w' hF
      change SPR w [(V, cv x A3 c3 A4 c4 A5 c5, 26)] [(x1, cz7)] w' at hF
      obtain ⟨B3x, d3x, B4x, d4x, B5x, d5x, rfl⟩ := hF.cells 0 rfl
      have hFb : SPR w [(V, cv x A3 c3 A4 c4 A5 c5, 26)] [] w' := SPR.tk 1 0 hF
      have hHeld := HSa _ hFb
      clear hFb
      refine norm_ (a' := ?_) ?_ ?_
      rotate_left
      · simp only [putAll, Act.put, List.setIfInBounds_toArray, List.set_cons_zero, List.set_cons_succ]
        rfl
      refine one_ (i := 8) (N := some 7) #[true, true, true, true, true, true, true, true, true, false] rfl rfl (by kernel_rfl) (by decide) (fun K hK => ?_)
      refine freshR_ (c := #[.int .i64 0, .int .i64 0, .string ⟨#[]⟩, .slice none 0 0, .slice none 0 0, .slice none 0 0, .int .i64 0]) (t := 36) (hF) (by rfl) rfl ?_ ?_
      · first | (go_simp; done) | (go_simp; rfl)
      intro Ra8 wz hz
      have hzb : SPR w [(V, cv x A3 c3 A4 c4 A5 c5, 26)] [] wz := SPR.tk 1 0 hz
      refine hK.out _ _ (HSa _ hzb) (fun hHeld => ?_)
      clear hK K
      refine norm_ (a' := ?_) ?_ ?_
      rotate_left
      · show Act.put _ (some 7) _ = _
        simp only [Act.put, List.setIfInBounds_toArray, List.set_cons_zero, List.set_cons_succ, i64_w, i32_w]
        rfl
      exact norm_ (by first | (simp only [putAll, Act.put, List.setIfInBounds_toArray, List.set_cons_zero, List.set_cons_succ]; done) | (simp only [putAll, Act.put, List.setIfInBounds_toArray, List.set_cons_zero, List.set_cons_succ]; rfl)) (hJ3_6_7_8 (Ra8, #[.int .i64 x1.f0, .int .i64 x1.f1, .string x1.f2, .slice B3x x1.f3.length d3x, .slice B4x x1.f4.length d4x, .slice B5x x1.f5.length d5x, .int .i64 0], ()) _ hz)
  rintro ⟨Ra8, cz7, _⟩ w' hF
  change SPR w [(V, cv x A3 c3 A4 c4 A5 c5, 26), (Ra8, z7, 36)] [(x1, cz7)] w' at hF
  obtain ⟨B3x, d3x, B4x, d4x, B5x, d5x, rfl⟩ := hF.cells 0 rfl
  have hFb : SPR w [(V, cv x A3 c3 A4 c4 A5 c5, 26)] [] w' := SPR.tk 1 0 hF
  have hHeld := HSa _ hFb
  clear hFb
  refine norm_ (a' := ?_) ?_ ?_
  rotate_left
  · simp only [putAll, Act.put, List.setIfInBounds_toArray, List.set_cons_zero, List.set_cons_succ]
    rfl
  refine one_ (i := 9) (N := none) #[true, true, true, true, true, true, true, true, true, true] rfl rfl (by kernel_rfl) (by decide) (fun K hK => ?_)
  obtain ⟨y0, y1, y2, y3, y4, y5, y6, f0, f1, f2, f3, f4, f5, f6⟩ := sev_cells (SPR.get hF 1 rfl)
  refine put7R_ (v0 := .int .i64 x1.f0) (v1 := .int .i64 x1.f1) (v2 := .string x1.f2) (v3 := .slice B3x x1.f3.length d3x) (v4 := .slice B4x x1.f4.length d4x) (v5 := .slice B5x x1.f5.length d5x) (v6 := .int .i64 0) hF 1 rfl (by rfl) rfl ?_ ?_
  · first | (go_simp; done) | (go_simp; rfl)
  clear y0 y1 y2 y3 y4 y5 y6 f0 f1 f2 f3 f4 f5 f6
  intro wsa0 hsa0
  change SPR w [(V, cv x A3 c3 A4 c4 A5 c5, 26), (Ra8, rc x1 B3x d3x B4x d4x B5x d5x, 36)] [(x1, rc x1 B3x d3x B4x d4x B5x d5x)] wsa0 at hsa0
  have hzb : SPR w [(V, cv x A3 c3 A4 c4 A5 c5, 26)] [] wsa0 := SPR.tk 1 0 hsa0
  refine hK.out _ _ (HSa _ hzb) (fun hHeld => ?_)
  clear hK K
  refine done_ (by kernel_rfl) ?_
  have HQ := Lib.hid hsa0
  clear hsa0 hF hHeld
  have ya := six_cells (HQ.out.get 0 rfl)
  have yb := sev_cells (HQ.out.get 1 rfl)
  go_wp2_with fail
  refine (con_vals _ x x1 _ _ _ _ _ _ _ _ _ _ _ _ _ _ _ _ _ _ _ _ _ _ _ _ (HT.out.later HQ.out.bel) (HQ.out.toGo 0 rfl HX1.out.1 HX1.out.2.1) HWL.out HZ.out HTZ.out HX1.out.1 HX1.out.2.1 HX1.out.2.2.1 true HX1.out.2.2.2 _ (Below.refl _ _)).mono ?_
  rintro e w8 ⟨rfl, hb⟩
  have H8 := Lib.hid (HQ.out.below hb)
  clear hb ya yb
  go_wp2_with fail
  refine (lc_yes true _).mono ?_
  rintro e w9 ⟨rfl, hb⟩
  have H9 := Lib.hid (H8.out.below hb)
  clear hb
  go_wp2_with fail
  go_ret
  exact ⟨rfl, H9.out.bel⟩
set_option maxRecDepth 100000 in
set_option maxHeartbeats 20000000 in
theorem fnContainsSlice_0 (w0 : World) (hE : Env w0) (x : V) (hzt : Sz x ∧ Tz x) (K H : Int) (s : ByteArray) (A3 A4 A5 : Option Addr) (n3 c3 n4 c4 n5 c5 : Nat) (hK : k26.K w0 x [.int .i64 K, .int .i64 H, .string s, .slice A3 n3 c3, .slice A4 n4 c4, .slice A5 n5 c5]) (m1 : Int) (zm1 : (Lit.int .i8 m1).wf = true) (m2 : Int) (zm2 : (Lit.int .i8 m2).wf = true) (hk : ¬(x.f0 = 4 ∨ x.f0 = 5)) :
    Calls Tryz.prog 7 #[.agg #[.int .i64 K, .int .i64 H, .string s, .slice A3 n3 c3, .slice A4 n4 c4, .slice A5 n5 c5], .int .i8 m1, .int .i8 m2] w0 fun e w' => e = .returned (.bool true) ∧ Below w0.heap.size w0 w' := by
  have hz := hzt.1
  have HTZ := Lib.hid hzt.2
  clear hzt
  have HKX := Lib.hid hk
  clear hk
  obtain ⟨w, hw⟩ : ∃ w, w = w0 := ⟨_, rfl⟩
  obtain ⟨B3, e3, B4, e4, B5, e5, he, l3, g3, l4, g4, l5, g5⟩ := k26_open hK
  simp only [List.cons.injEq, Value.int.injEq, Value.string.injEq, Value.slice.injEq, true_and, and_true] at he
  obtain ⟨rfl, rfl, rfl, ⟨rfl, rfl, rfl⟩, ⟨rfl, rfl, rfl⟩, ⟨rfl, rfl, rfl⟩⟩ := he
  clear l3 g3 l4 g4 l5 g5
  have bm1 := i8_in zm1
  have bm2 := i8_in zm2
  clear zm1 zm2
  have HZ := Lib.hid hz
  have HF1 := Lib.hid (fun w1 hb => fits1_size w0 x x.f0 x.f1 x.f2 A3 A4 A5 x.f3.length c3 x.f4.length c4 x.f5.length c5 hK w1 hb)
  have HF := Lib.hid (fun w1 g (hg : g = w1.heap.size) hb => fits_at w0 hE hz hK w1 g hg hb)
  have HT := Lib.hid (fun h => toGo_any w0 _ x (Nat.lt_succ_self _) hz h _ hK)
  have HNU := Lib.hid (fun n w => number_any n w)
  have HKW := Lib.hid hK
  clear hE hz hK
  subst hw
  go_enter Tryz.func7, Tryz.ntmps7
  go_wp2_with fail
  obtain ⟨V, hV⟩ : ∃ V, V = w.heap.size := ⟨_, rfl⟩
  obtain ⟨W0, hW0⟩ : ∃ W0, W0 = w.alloc (.cells #[.int .i64 x.f0, .int .i64 x.f1, .string x.f2, .slice A3 x.f3.length c3, .slice A4 x.f4.length c4, .slice A5 x.f5.length c5] 26) := ⟨_, rfl⟩
  have hS0 : SPR w [(V, cv x A3 c3 A4 c4 A5 c5, 26)] [] W0 := by rw [hV, hW0]; exact (spr0 (Below.refl _ w)).more _ _
  rw [← hW0]
  try rw [← hV]
  have H0 := Lib.hid hS0
  clear hS0 hW0 hV
  have y := six_cells (H0.out.get 0 rfl)
  try go_wp2_with fail
  refine (HF1.out W0 H0.out.bel).mono ?_
  rintro e w1 ⟨r, rfl, hr, hb⟩
  have H1 := Lib.hid (H0.out.below hb)
  clear hb H0 y HF1
  cases r with
  | false =>
    go_wp2_with fail
    go_ret
    exact ⟨rfl, H1.out.bel⟩
  | true =>
  have SZ := Lib.hid (hr (by trivial))
  clear hr
  have y := six_cells (H1.out.get 0 rfl)
  go_wp2_with fail
  refine (HF.out w1 _ rfl H1.out.bel).mono ?_
  rintro e w2 ⟨r, rfl, hr, hb⟩
  have H2 := Lib.hid (((H1.out.more _ _).below hb).tk 1 0)
  clear hb H1 HF y
  have ya := six_cells (H2.out.get 0 rfl)
  cases r with
  | false =>
    go_wp2_with fail
    go_ret
    exact ⟨rfl, H2.out.bel⟩
  | true =>
  have HW := Lib.hid (hr (by trivial))
  clear hr
  have q3 : (x.f0 != 5) = true := by have := HKX.out; simp; omega
  have q4 : (x.f0 != 4) = true := by have := HKX.out; simp; omega
  go_wp2_with fail
  go_ret
  exact ⟨rfl, H2.out.bel⟩
set_option maxRecDepth 100000 in
set_option maxHeartbeats 20000000 in
theorem fnContainsSlice_any (w0 : World) (hE : Env w0) (x : V) (hzt : Sz x ∧ Tz x) (K H : Int) (s : ByteArray) (A3 A4 A5 : Option Addr) (n3 c3 n4 c4 n5 c5 : Nat) (hK : k26.K w0 x [.int .i64 K, .int .i64 H, .string s, .slice A3 n3 c3, .slice A4 n4 c4, .slice A5 n5 c5]) (m1 : Int) (zm1 : (Lit.int .i8 m1).wf = true) (m2 : Int) (zm2 : (Lit.int .i8 m2).wf = true) :
    Calls Tryz.prog 7 #[.agg #[.int .i64 K, .int .i64 H, .string s, .slice A3 n3 c3, .slice A4 n4 c4, .slice A5 n5 c5], .int .i8 m1, .int .i8 m2] w0 fun e w' => e = .returned (.bool true) ∧ Below w0.heap.size w0 w' := by
  by_cases k : x.f0 = 4 ∨ x.f0 = 5
  · exact fnContainsSlice_1 w0 hE x hzt K H s A3 A4 A5 n3 c3 n4 c4 n5 c5 hK m1 zm1 m2 zm2 k
  exact fnContainsSlice_0 w0 hE x hzt K H s A3 A4 A5 n3 c3 n4 c4 n5 c5 hK m1 zm1 m2 zm2 k
end Go.Proofs.YtcoahpcjhhnkkaaGreatDoor.ValA
