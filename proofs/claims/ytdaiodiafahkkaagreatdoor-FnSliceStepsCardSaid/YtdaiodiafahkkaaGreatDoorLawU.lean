/-
FnSliceSteps: a slice of a slice is one slice.
-/
import Derived.Test.YtdaiodiafahkkaaGreatDoorML
set_option linter.unusedSimpArgs false
set_option linter.unusedVariables false
namespace Go.Proofs.YtdaiodiafahkkaaGreatDoor.ValA
open Go.RowKit Go.Lib Go.Proofs.YtdaiodiafahkkaaGreatDoorW.PrintWords Go.Proofs.YtdaiodiafahkkaaGreatDoorW.PrintLast Go.Proofs.YtdaiodiafahkkaaGreatDoorW.PrintMore Go.Proofs.YtdaiodiafahkkaaGreatDoor.PzzFits1 Go.Proofs.YtdaiodiafahkkaaGreatDoor.NumA
attribute [local go_sem] run_val
set_option maxRecDepth 100000 in
set_option maxHeartbeats 20000000 in
theorem fnSliceSteps_4 (w0 : World) (hE : Env w0) (x : V) (hz : Sz x) (K H : Int) (s : ByteArray) (A3 A4 A5 : Option Addr) (n3 c3 n4 c4 n5 c5 : Nat) (hK : k26.K w0 x [.int .i64 K, .int .i64 H, .string s, .slice A3 n3 c3, .slice A4 n4 c4, .slice A5 n5 c5]) (m1 : Int) (zm1 : (Lit.int .u8 m1).wf = true) (m2 : Int) (zm2 : (Lit.int .u8 m2).wf = true) (m3 : Int) (zm3 : (Lit.int .u8 m3).wf = true) (hk : x.f0 = 4) :
    Calls Tryz.prog 9 #[.agg #[.int .i64 K, .int .i64 H, .string s, .slice A3 n3 c3, .slice A4 n4 c4, .slice A5 n5 c5], .int .u8 m1, .int .u8 m2, .int .u8 m3] w0 fun e w' => e = .returned (.bool true) ∧ Below w0.heap.size w0 w' := by
  have HKX := Lib.hid hk
  clear hk
  obtain ⟨w, hw⟩ : ∃ w, w = w0 := ⟨_, rfl⟩
  obtain ⟨B3, e3, B4, e4, B5, e5, he, l3, g3, l4, g4, l5, g5⟩ := k26_open hK
  simp only [List.cons.injEq, Value.int.injEq, Value.string.injEq, Value.slice.injEq, true_and, and_true] at he
  obtain ⟨rfl, rfl, rfl, ⟨rfl, rfl, rfl⟩, ⟨rfl, rfl, rfl⟩, ⟨rfl, rfl, rfl⟩⟩ := he
  clear l3 g3 l4 g4 l5 g5
  have bm1 := u8_in zm1
  have bm2 := u8_in zm2
  have bm3 := u8_in zm3
  clear zm1 zm2 zm3
  have HZ := Lib.hid hz
  have HF1 := Lib.hid (fun w1 hb => fits1_size w0 x x.f0 x.f1 x.f2 A3 A4 A5 x.f3.length c3 x.f4.length c4 x.f5.length c5 hK w1 hb)
  have HF := Lib.hid (fun w1 g (hg : g = w1.heap.size) hb => fits_at w0 hE hz hK w1 g hg hb)
  have HT := Lib.hid (fun h => toGo_any w0 _ x (Nat.lt_succ_self _) hz h _ hK)
  have HNU := Lib.hid (fun n w => number_any n w)
  have HKW := Lib.hid hK
  clear hE hz hK
  subst hw
  go_enter Tryz.func9, Tryz.ntmps9
  go_wp2_with fail
  obtain ⟨V, hV⟩ : ∃ V, V = w.heap.size := ⟨_, rfl⟩
  obtain ⟨W0, hW0⟩ : ∃ W0, W0 = w.alloc (.cells #[.int .i64 x.f0, .int .i64 x.f1, .string x.f2, .slice A3 x.f3.length c3, .slice A4 x.f4.length c4, .slice A5 x.f5.length c5] 26) := ⟨_, rfl⟩
  have hS0 : SPR w [(V, cv x A3 c3 A4 c4 A5 c5, 26)] [] W0 := by rw [hV, hW0]; exact (spr0 (Below.refl _ w)).more _ _
  rw [← hW0]
  try rw [← hV]
  have H0 := Lib.hid hS0
  clear hS0 hW0 hV
  have y := six_cells (H0.out.get 0 rfl)
  try go_wp2_with fail
  refine (HF1.out W0 H0.out.bel).mono ?_
  rintro e w1 ⟨r, rfl, hr, hb⟩
  have H1 := Lib.hid (H0.out.below hb)
  clear hb H0 y HF1
  cases r with
  | false =>
    go_wp2_with fail
    go_ret
    exact ⟨rfl, H1.out.bel⟩
  | true =>
  have SZ := Lib.hid (hr (by trivial))
  clear hr
  have y := six_cells (H1.out.get 0 rfl)
  go_wp2_with fail
  refine (HF.out w1 _ rfl H1.out.bel).mono ?_
  rintro e w2 ⟨r, rfl, hr, hb⟩
  have H2 := Lib.hid (((H1.out.more _ _).below hb).tk 1 0)
  clear hb H1 HF y
  have ya := six_cells (H2.out.get 0 rfl)
  cases r with
  | false =>
    go_wp2_with fail
    go_ret
    exact ⟨rfl, H2.out.bel⟩
  | true =>
  have HW := Lib.hid (hr (by trivial))
  clear hr
  have hk : x.f0 = 4 ∨ x.f0 = 5 := Or.inl HKX.out
  have q3 : (x.f0 != 5) = true := by rw [HKX.out]; rfl
  have q4 : (x.f0 != 4) = false := by rw [HKX.out]; rfl
  have HT := Lib.hid (HT.out (loose HW.out))
  have HWL := Lib.hid (loose HW.out)
  have HKK := Lib.hid hk
  obtain ⟨x1, hx1⟩ : ∃ x1, x1 = slV x (some m1) none := ⟨_, rfl⟩
  obtain ⟨x2, hx2⟩ : ∃ x2, x2 = slV x1 (some m2) (some (m2 + m3)) := ⟨_, rfl⟩
  obtain ⟨x3, hx3⟩ : ∃ x3, x3 = slV x none none := ⟨_, rfl⟩
  obtain ⟨x4, hx4⟩ : ∃ x4, x4 = slV x (some (m1 + m2)) (some (m1 + m2 + m3)) := ⟨_, rfl⟩
  have HX1 : Hid (WL x1 ∧ Sz x1 ∧ (x1.f0 = 4 ∨ x1.f0 = 5) ∧ x1.f2.size ≤ 2147483647) := Lib.hid (by rw [hx1]; exact ⟨part_wl HWL.out _ _, part_sz HZ.out _ _, by unfold slV; rw [part_f0 hk]; exact hk, part_size _ _ _ SZ.out⟩)
  have HX2 : Hid (WL x2 ∧ Sz x2) := Lib.hid (by rw [hx2]; exact ⟨part_wl HX1.out.1 _ _, part_sz HX1.out.2.1 _ _⟩)
  have HX3 : Hid (x3 = x) := Lib.hid (by rw [hx3]; exact part_all HWL.out hk)
  have HX4 : Hid (x4 = x2) := Lib.hid (by rw [hx4, hx2, hx1]; exact (slice_slice hk bm1.1 bm2.1 bm3.1).symm)
  have HSA : Hid (∀ L rs w1, SPR w L rs w1 → Calls Tryz.prog 33 #[.agg #[.int .i64 x.f0, .int .i64 x.f1, .string x.f2, .slice A3 x.f3.length c3, .slice A4 x.f4.length c4, .slice A5 x.f5.length c5], .agg #[.int .i64 3, .int .i64 (2 * m1), .string ⟨#[]⟩, .slice none 0 0, .slice none 0 0, .slice none 0 0], .agg #[.int .i64 0, .int .i64 0, .string ⟨#[]⟩, .slice none 0 0, .slice none 0 0, .slice none 0 0]] w1 fun e w' => ∃ cs, e = .returned (.agg cs) ∧ SPR w L (rs ++ [(x1, cs)]) w') := Lib.hid (by
    intro L rs w1 h
    rw [hx1]
    exact slice_resV w HT.out HWL.out HZ.out hk SZ.out (some m1) none (tiny_some (by omega) (by omega)) tiny_none h h.bel)
  have HSC : Hid (∀ L rs w1, SPR w L rs w1 → Calls Tryz.prog 33 #[.agg #[.int .i64 x.f0, .int .i64 x.f1, .string x.f2, .slice A3 x.f3.length c3, .slice A4 x.f4.length c4, .slice A5 x.f5.length c5], .agg #[.int .i64 0, .int .i64 0, .string ⟨#[]⟩, .slice none 0 0, .slice none 0 0, .slice none 0 0], .agg #[.int .i64 0, .int .i64 0, .string ⟨#[]⟩, .slice none 0 0, .slice none 0 0, .slice none 0 0]] w1 fun e w' => ∃ cs, e = .returned (.agg cs) ∧ SPR w L (rs ++ [(x3, cs)]) w') := Lib.hid (by
    intro L rs w1 h
    rw [hx3]
    exact slice_resV w HT.out HWL.out HZ.out hk SZ.out none none tiny_none tiny_none h h.bel)
  have HSD : Hid (∀ L rs w1, SPR w L rs w1 → Calls Tryz.prog 33 #[.agg #[.int .i64 x.f0, .int .i64 x.f1, .string x.f2, .slice A3 x.f3.length c3, .slice A4 x.f4.length c4, .slice A5 x.f5.length c5], .agg #[.int .i64 3, .int .i64 (2 * (m1 + m2)), .string ⟨#[]⟩, .slice none 0 0, .slice none 0 0, .slice none 0 0], .agg #[.int .i64 3, .int .i64 (2 * (m1 + m2 + m3)), .string ⟨#[]⟩, .slice none 0 0, .slice none 0 0, .slice none 0 0]] w1 fun e w' => ∃ cs, e = .returned (.agg cs) ∧ SPR w L (rs ++ [(x4, cs)]) w') := Lib.hid (by
    intro L rs w1 h
    rw [hx4]
    exact slice_resV w HT.out HWL.out HZ.out hk SZ.out (some (m1 + m2)) (some (m1 + m2 + m3)) (tiny_some (by omega) (by omega)) (tiny_some (by omega) (by omega)) h h.bel)
  have HSB : Hid (∀ L rs w1, SPR w L rs w1 → ∀ {B3 B4 B5 : Option Addr} {d3 d4 d5 : Nat} (i : Nat), rs[i]? = some (x1, #[.int .i64 x1.f0, .int .i64 x1.f1, .string x1.f2, .slice B3 x1.f3.length d3, .slice B4 x1.f4.length d4, .slice B5 x1.f5.length d5, .int .i64 0]) → Calls Tryz.prog 33 #[.agg #[.int .i64 x1.f0, .int .i64 x1.f1, .string x1.f2, .slice B3 x1.f3.length d3, .slice B4 x1.f4.length d4, .slice B5 x1.f5.length d5], .agg #[.int .i64 3, .int .i64 (2 * m2), .string ⟨#[]⟩, .slice none 0 0, .slice none 0 0, .slice none 0 0], .agg #[.int .i64 3, .int .i64 (2 * (m2 + m3)), .string ⟨#[]⟩, .slice none 0 0, .slice none 0 0, .slice none 0 0]] w1 fun e w' => ∃ cs, e = .returned (.agg cs) ∧ SPR w L (rs ++ [(x2, cs)]) w') := Lib.hid (by
    intro L rs w1 h B3 B4 B5 d3 d4 d5 i hi
    rw [hx2]
    exact slice_resV w1 (h.toGo i hi HX1.out.1 HX1.out.2.1) HX1.out.1 HX1.out.2.1 HX1.out.2.2.1 HX1.out.2.2.2 (some m2) (some (m2 + m3)) (tiny_some (by omega) (by omega)) (tiny_some (by omega) (by omega)) h (Below.refl _ _))
  have HN : Hid (∀ m w1, m = m1 ∨ m = m2 ∨ m = m2 + m3 ∨ m = m1 + m2 ∨ m = m1 + m2 + m3 → Calls Tryz.prog 34 #[.int .i64 m] w1 fun e w' => e = .returned (.agg #[.int .i64 3, .int .i64 (2 * m), .string ⟨#[]⟩, .slice none 0 0, .slice none 0 0, .slice none 0 0]) ∧ Below w1.heap.size w1 w') := Lib.hid (by
    intro m w1 hm
    have h := number_any m w1
    rw [show wrap64 (2 * m) = 2 * m by unfold wrap64; omega] at h
    exact h)
  have HE : Hid (wrap64 m1 = m1 ∧ wrap64 m2 = m2 ∧ wrap64 m3 = m3 ∧ wrap64 (m2 + m3) = m2 + m3 ∧ wrap64 (m1 + m2) = m1 + m2 ∧ wrap64 (m1 + m2 + m3) = m1 + m2 + m3) := Lib.hid ⟨by unfold wrap64; omega, by unfold wrap64; omega, by unfold wrap64; omega, by unfold wrap64; omega, by unfold wrap64; omega, by unfold wrap64; omega⟩
  clear hx1 hx2 hx3 hx4 bm1 bm2 bm3 hk
  go_wp2_with fail
  simp only [HE.out.1, HE.out.2.1, HE.out.2.2.1]
  have HNa : Hid (∀ w1, Calls Tryz.prog 34 #[.int .i64 (m1)] w1 fun e w' => e = .returned (.agg #[.int .i64 3, .int .i64 (2 * m1), .string ⟨#[]⟩, .slice none 0 0, .slice none 0 0, .slice none 0 0]) ∧ Below w1.heap.size w1 w') := Lib.hid (by
    intro w1
    exact HN.out _ w1 (by omega))
  have HNb : Hid (∀ w1, Calls Tryz.prog 34 #[.int .i64 (m2)] w1 fun e w' => e = .returned (.agg #[.int .i64 3, .int .i64 (2 * m2), .string ⟨#[]⟩, .slice none 0 0, .slice none 0 0, .slice none 0 0]) ∧ Below w1.heap.size w1 w') := Lib.hid (by
    intro w1
    exact HN.out _ w1 (by omega))
  have HNc : Hid (∀ w1, Calls Tryz.prog 34 #[.int .i64 (wrap64 (m2 + m3))] w1 fun e w' => e = .returned (.agg #[.int .i64 3, .int .i64 (2 * (m2 + m3)), .string ⟨#[]⟩, .slice none 0 0, .slice none 0 0, .slice none 0 0]) ∧ Below w1.heap.size w1 w') := Lib.hid (by
    intro w1
    rw [HE.out.2.2.2.1]
    exact HN.out _ w1 (by omega))
  have HNd : Hid (∀ w1, Calls Tryz.prog 34 #[.int .i64 (wrap64 (m1 + m2))] w1 fun e w' => e = .returned (.agg #[.int .i64 3, .int .i64 (2 * (m1 + m2)), .string ⟨#[]⟩, .slice none 0 0, .slice none 0 0, .slice none 0 0]) ∧ Below w1.heap.size w1 w') := Lib.hid (by
    intro w1
    rw [HE.out.2.2.2.2.1]
    exact HN.out _ w1 (by omega))
  have HNe : Hid (∀ w1, Calls Tryz.prog 34 #[.int .i64 (wrap64 (wrap64 (m1 + m2) + m3))] w1 fun e w' => e = .returned (.agg #[.int .i64 3, .int .i64 (2 * (m1 + m2 + m3)), .string ⟨#[]⟩, .slice none 0 0, .slice none 0 0, .slice none 0 0]) ∧ Below w1.heap.size w1 w') := Lib.hid (by
    intro w1
    rw [HE.out.2.2.2.2.1]
    rw [HE.out.2.2.2.2.2]
    exact HN.out _ w1 (by omega))
  have HSa : ∀ w', SPR w [(V, cv x A3 c3 A4 c4 A5 c5, 26)] [] w' → w'.cell? ⟨V, 0, none⟩ = some (.int .i64 x.f0) ∧ w'.cell? ⟨V, 1, none⟩ = some (.int .i64 x.f1) ∧ w'.cell? ⟨V, 2, none⟩ = some (.string x.f2) ∧ w'.cell? ⟨V, 3, none⟩ = some (.slice A3 x.f3.length c3) ∧ w'.cell? ⟨V, 4, none⟩ = some (.slice A4 x.f4.length c4) ∧ w'.cell? ⟨V, 5, none⟩ = some (.slice A5 x.f5.length c5) ∧ SPR w [(V, cv x A3 c3 A4 c4 A5 c5, 26)] [] w' := fun w' h => ⟨((six_cells ((SPR.spl h).get 0 rfl)).1), ((six_cells ((SPR.spl h).get 0 rfl)).2.1), ((six_cells ((SPR.spl h).get 0 rfl)).2.2.1), ((six_cells ((SPR.spl h).get 0 rfl)).2.2.2.1), ((six_cells ((SPR.spl h).get 0 rfl)).2.2.2.2.1), ((six_cells ((SPR.spl h).get 0 rfl)).2.2.2.2.2.1), h⟩
  refine start_ (n := 7) (S := fun w' => w'.cell? ⟨V, 0, none⟩ = some (.int .i64 x.f0) ∧ w'.cell? ⟨V, 1, none⟩ = some (.int .i64 x.f1) ∧ w'.cell? ⟨V, 2, none⟩ = some (.string x.f2) ∧ w'.cell? ⟨V, 3, none⟩ = some (.slice A3 x.f3.length c3) ∧ w'.cell? ⟨V, 4, none⟩ = some (.slice A4 x.f4.length c4) ∧ w'.cell? ⟨V, 5, none⟩ = some (.slice A5 x.f5.length c5) ∧ SPR w [(V, cv x A3 c3 A4 c4 A5 c5, 26)] [] w') (ds := []) #[false, false, false, false, false, false, false] (by kernel_rfl) rfl rfl (HSa _ (SPR.drew H2.out)) (fun hHeld => ?_)
  refine pure_ (i := 1) (N := some 38) (v := ?_) (a' := ?_) #[false, true, false, false, false, false, false] rfl rfl (by kernel_rfl) (fun _ _ _ h => h) (Or.inl ⟨by rfl, ?_⟩) ?_ ?_
  rotate_left
  · intro w'
    go_simp
    with_reducible rfl
  rotate_left
  · simp only [Act.put, List.setIfInBounds_toArray, List.set_cons_zero, List.set_cons_succ, i64_w, i32_w]
    rfl
  refine pure_ (i := 3) (N := some 40) (v := ?_) (a' := ?_) #[false, true, false, true, false, false, false] rfl rfl (by kernel_rfl) (fun _ _ _ h => h) (Or.inl ⟨by rfl, ?_⟩) ?_ ?_
  rotate_left
  · intro w'
    go_simp
    with_reducible rfl
  rotate_left
  · simp only [Act.put, List.setIfInBounds_toArray, List.set_cons_zero, List.set_cons_succ, i64_w, i32_w]
    rfl
  refine take_ (i := 0) (N := some 37) (v := ?_) (a' := ?_) #[true, true, false, true, false, false, false] rfl rfl (by kernel_rfl) (fun _ _ _ h => h) (Or.inl ⟨by rfl, ?_⟩) hHeld ?_ ?_
  rotate_left
  · rintro w' ⟨s0, s1, s2, s3, s4, s5, s6⟩
    go_simp
    with_reducible rfl
  rotate_left
  · simp only [Act.put, List.setIfInBounds_toArray, List.set_cons_zero, List.set_cons_succ, i64_w, i32_w]
    rfl
  refine join_ (σ := Nat × Array Value × Unit) 1 #[true, true, true, true, true, true, false] (fun s => [(39, .agg #[.int .i64 3, .int .i64 (2 * m1), .string ⟨#[]⟩, .slice none 0 0, .slice none 0 0, .slice none 0 0]), (41, .agg s.2.1), (12, .pointer (some ⟨s.1, 0, none⟩))]) (fun s w' => SPR w [(V, cv x A3 c3 A4 c4 A5 c5, 26), (s.1, z7, 30)] [(x1, s.2.1)] w') ?_ ?_
  rotate_left
  · intro hJ2_4_5
    refine join_ (σ := Array Value × Unit) 2 #[true, true, true, true, true, false, false] (fun s => [(39, .agg #[.int .i64 3, .int .i64 (2 * m1), .string ⟨#[]⟩, .slice none 0 0, .slice none 0 0, .slice none 0 0]), (41, .agg s.1)]) (fun s w' => SPR w [(V, cv x A3 c3 A4 c4 A5 c5, 26)] [(x1, s.1)] w') ?_ ?_
    rotate_left
    · intro hJ2_4
      refine join_ (σ := Nat × Unit) 2 #[true, true, true, true, false, true, false] (fun s => [(39, .agg #[.int .i64 3, .int .i64 (2 * m1), .string ⟨#[]⟩, .slice none 0 0, .slice none 0 0, .slice none 0 0]), (12, .pointer (some ⟨s.1, 0, none⟩))]) (fun s w' => SPR w [(V, cv x A3 c3 A4 c4 A5 c5, 26), (s.1, z7, 30)] [] w') ?_ ?_
      rotate_left
      · intro hJ2_5
        refine join_ (σ := Unit) 3 #[true, true, true, true, false, false, false] (fun s => [(39, .agg #[.int .i64 3, .int .i64 (2 * m1), .string ⟨#[]⟩, .slice none 0 0, .slice none 0 0, .slice none 0 0])]) (fun s w' => SPR w [(V, cv x A3 c3 A4 c4 A5 c5, 26)] [] w') ?_ ?_
        rotate_left
        · intro hJ2
          refine join_ (σ := Nat × Unit) 3 #[true, true, false, true, false, true, false] (fun s => [(12, .pointer (some ⟨s.1, 0, none⟩))]) (fun s w' => SPR w [(V, cv x A3 c3 A4 c4 A5 c5, 26), (s.1, z7, 30)] [] w') ?_ ?_
          rotate_left
          · intro hJ5
            refine two_ (i := 2) (j := 5) (Ni := some 39) (Nj := some 12) #[true, true, true, true, false, false, false] #[true, true, false, true, false, true, false] rfl rfl rfl rfl (by kernel_rfl) (by decide) (by decide) (fun K hK => ?_) (fun K hK => ?_)
            · skip
              refine goes_ Tryz.func34 (by kernel_rfl) rfl #[.int .i64 m1] (by rfl) rfl rfl (by simp only [List.map_toArray, List.map_cons, List.map_nil]; rfl) ?_
              with_reducible refine ((HNa.out _)).mono ?_
              rintro e wz ⟨rfl, hb⟩
              refine ⟨_, rfl, ?_⟩
              have hz := SPR.below (hHeld.2.2.2.2.2.2) hb
              have hzb : SPR w [(V, cv x A3 c3 A4 c4 A5 c5, 26)] [] wz := SPR.tk 1 0 hz
              refine hK.out _ _ (HSa _ hzb) (fun hHeld => ?_)
              clear hK K
              refine norm_ (a' := ?_) ?_ ?_
              rotate_left
              · show Act.put _ (some 39) _ = _
                simp only [Act.put, List.setIfInBounds_toArray, List.set_cons_zero, List.set_cons_succ, i64_w, i32_w]
                rfl
              exact norm_ (by first | (simp only [putAll, Act.put, List.setIfInBounds_toArray, List.set_cons_zero, List.set_cons_succ]; done) | (simp only [putAll, Act.put, List.setIfInBounds_toArray, List.set_cons_zero, List.set_cons_succ]; rfl)) (hJ2 (()) _ hz)
            · skip
              refine freshR_ (c := #[.int .i64 0, .int .i64 0, .string ⟨#[]⟩, .slice none 0 0, .slice none 0 0, .slice none 0 0, .int .i64 0]) (t := 30) (hHeld.2.2.2.2.2.2) (by rfl) rfl ?_ ?_
              · first | (go_simp; done) | (go_simp; rfl)
              intro Ra5 wz hz
              have hzb : SPR w [(V, cv x A3 c3 A4 c4 A5 c5, 26)] [] wz := SPR.tk 1 0 hz
              refine hK.out _ _ (HSa _ hzb) (fun hHeld => ?_)
              clear hK K
              refine norm_ (a' := ?_) ?_ ?_
              rotate_left
              · show Act.put _ (some 12) _ = _
                simp only [Act.put, List.setIfInBounds_toArray, List.set_cons_zero, List.set_cons_succ, i64_w, i32_w]
                rfl
              exact norm_ (by first | (simp only [putAll, Act.put, List.setIfInBounds_toArray, List.set_cons_zero, List.set_cons_succ]; done) | (simp only [putAll, Act.put, List.setIfInBounds_toArray, List.set_cons_zero, List.set_cons_succ]; rfl)) (hJ5 (Ra5, ()) _ hz)
          · skip
            rintro ⟨Ra5, _⟩ w' hF
            change SPR w [(V, cv x A3 c3 A4 c4 A5 c5, 26), (Ra5, z7, 30)] [] w' at hF
            have hFb : SPR w [(V, cv x A3 c3 A4 c4 A5 c5, 26)] [] w' := SPR.tk 1 0 hF
            have hHeld := HSa _ hFb
            clear hFb
            refine norm_ (a' := ?_) ?_ ?_
            rotate_left
            · simp only [putAll, Act.put, List.setIfInBounds_toArray, List.set_cons_zero, List.set_cons_succ]
              rfl
            refine one_ (i := 2) (N := some 39) #[true, true, true, true, false, true, false] rfl rfl (by kernel_rfl) (by decide) (fun K hK => ?_)
            refine goes_ Tryz.func34 (by kernel_rfl) rfl #[.int .i64 m1] (by rfl) rfl rfl (by simp only [List.map_toArray, List.map_cons, List.map_nil]; rfl) ?_
            with_reducible refine ((HNa.out _)).mono ?_
            rintro e wz ⟨rfl, hb⟩
            refine ⟨_, rfl, ?_⟩
            have hz := SPR.below (hF) hb
            have hzb : SPR w [(V, cv x A3 c3 A4 c4 A5 c5, 26)] [] wz := SPR.tk 1 0 hz
            refine hK.out _ _ (HSa _ hzb) (fun hHeld => ?_)
            clear hK K
            refine norm_ (a' := ?_) ?_ ?_
            rotate_left
            · show Act.put _ (some 39) _ = _
              simp only [Act.put, List.setIfInBounds_toArray, List.set_cons_zero, List.set_cons_succ, i64_w, i32_w]
              rfl
            exact norm_ (by first | (simp only [putAll, Act.put, List.setIfInBounds_toArray, List.set_cons_zero, List.set_cons_succ]; done) | (simp only [putAll, Act.put, List.setIfInBounds_toArray, List.set_cons_zero, List.set_cons_succ]; rfl)) (hJ2_5 (Ra5, ()) _ hz)
        · skip
          rintro ⟨_⟩ w' hF
          change SPR w [(V, cv x A3 c3 A4 c4 A5 c5, 26)] [] w' at hF
          have hFb : SPR w [(V, cv x A3 c3 A4 c4 A5 c5, 26)] [] w' := SPR.tk 1 0 hF
          have hHeld := HSa _ hFb
          clear hFb
          refine norm_ (a' := ?_) ?_ ?_
          rotate_left
          · simp only [putAll, Act.put, List.setIfInBounds_toArray, List.set_cons_zero, List.set_cons_succ]
            rfl
          refine two_ (i := 4) (j := 5) (Ni := some 41) (Nj := some 12) #[true, true, true, true, true, false, false] #[true, true, true, true, false, true, false] rfl rfl rfl rfl (by kernel_rfl) (by decide) (by decide) (fun K hK => ?_) (fun K hK => ?_)
          · skip
            refine goes_ Tryz.func33 (by kernel_rfl) rfl #[.agg #[.int .i64 x.f0, .int .i64 x.f1, .string x.f2, .slice A3 x.f3.length c3, .slice A4 x.f4.length c4, .slice A5 x.f5.length c5], .agg #[.int .i64 3, .int .i64 (2 * m1), .string ⟨#[]⟩, .slice none 0 0, .slice none 0 0, .slice none 0 0], .agg #[.int .i64 0, .int .i64 0, .string ⟨#[]⟩, .slice none 0 0, .slice none 0 0, .slice none 0 0]] (by rfl) rfl rfl (by simp only [List.map_toArray, List.map_cons, List.map_nil]; rfl) ?_
            with_reducible refine ((HSA.out _ _ _ (hF))).mono ?_
            rintro e wz ⟨u4, rfl, hz⟩
            refine ⟨_, rfl, ?_⟩
            have hzb : SPR w [(V, cv x A3 c3 A4 c4 A5 c5, 26)] [] wz := SPR.tk 1 0 hz
            refine hK.out _ _ (HSa _ hzb) (fun hHeld => ?_)
            clear hK K
            refine norm_ (a' := ?_) ?_ ?_
            rotate_left
            · show Act.put _ (some 41) _ = _
              simp only [Act.put, List.setIfInBounds_toArray, List.set_cons_zero, List.set_cons_succ, i64_w, i32_w]
              rfl
            exact norm_ (by first | (simp only [putAll, Act.put, List.setIfInBounds_toArray, List.set_cons_zero, List.set_cons_succ]; done) | (simp only [putAll, Act.put, List.setIfInBounds_toArray, List.set_cons_zero, List.set_cons_succ]; rfl)) (hJ2_4 (u4, ()) _ hz)
          · skip
            refine freshR_ (c := #[.int .i64 0, .int .i64 0, .string ⟨#[]⟩, .slice none 0 0, .slice none 0 0, .slice none 0 0, .int .i64 0]) (t := 30) (hF) (by rfl) rfl ?_ ?_
            · first | (go_simp; done) | (go_simp; rfl)
            intro Ra5 wz hz
            have hzb : SPR w [(V, cv x A3 c3 A4 c4 A5 c5, 26)] [] wz := SPR.tk 1 0 hz
            refine hK.out _ _ (HSa _ hzb) (fun hHeld => ?_)
            clear hK K
            refine norm_ (a' := ?_) ?_ ?_
            rotate_left
            · show Act.put _ (some 12) _ = _
              simp only [Act.put, List.setIfInBounds_toArray, List.set_cons_zero, List.set_cons_succ, i64_w, i32_w]
              rfl
            exact norm_ (by first | (simp only [putAll, Act.put, List.setIfInBounds_toArray, List.set_cons_zero, List.set_cons_succ]; done) | (simp only [putAll, Act.put, List.setIfInBounds_toArray, List.set_cons_zero, List.set_cons_succ]; rfl)) (hJ2_5 (Ra5, ()) _ hz)
      · skip
        rintro ⟨Ra5, _⟩ w' hF
        change SPR w [(V, cv x A3 c3 A4 c4 A5 c5, 26), (Ra5, z7, 30)] [] w' at hF
        have hFb : SPR w [(V, cv x A3 c3 A4 c4 A5 c5, 26)] [] w' := SPR.tk 1 0 hF
        have hHeld := HSa _ hFb
        clear hFb
        refine norm_ (a' := ?_) ?_ ?_
        rotate_left
        · simp only [putAll, Act.put, List.setIfInBounds_toArray, List.set_cons_zero, List.set_cons_succ]
          rfl
        refine one_ (i := 4) (N := some 41) #[true, true, true, true, true, true, false] rfl rfl (by kernel_rfl) (by decide) (fun K hK => ?_)
        refine goes_ Tryz.func33 (by kernel_rfl) rfl #[.agg #[.int .i64 x.f0, .int .i64 x.f1, .string x.f2, .slice A3 x.f3.length c3, .slice A4 x.f4.length c4, .slice A5 x.f5.length c5], .agg #[.int .i64 3, .int .i64 (2 * m1), .string ⟨#[]⟩, .slice none 0 0, .slice none 0 0, .slice none 0 0], .agg #[.int .i64 0, .int .i64 0, .string ⟨#[]⟩, .slice none 0 0, .slice none 0 0, .slice none 0 0]] (by rfl) rfl rfl (by simp only [List.map_toArray, List.map_cons, List.map_nil]; rfl) ?_
        with_reducible refine ((HSA.out _ _ _ (hF))).mono ?_
        rintro e wz ⟨u4, rfl, hz⟩
        refine ⟨_, rfl, ?_⟩
        have hzb : SPR w [(V, cv x A3 c3 A4 c4 A5 c5, 26)] [] wz := SPR.tk 1 0 hz
        refine hK.out _ _ (HSa _ hzb) (fun hHeld => ?_)
        clear hK K
        refine norm_ (a' := ?_) ?_ ?_
        rotate_left
        · show Act.put _ (some 41) _ = _
          simp only [Act.put, List.setIfInBounds_toArray, List.set_cons_zero, List.set_cons_succ, i64_w, i32_w]
          rfl
        exact norm_ (by first | (simp only [putAll, Act.put, List.setIfInBounds_toArray, List.set_cons_zero, List.set_cons_succ]; done) | (simp only [putAll, Act.put, List.setIfInBounds_toArray, List.set_cons_zero, List.set_cons_succ]; rfl)) (hJ2_4_5 (Ra5, u4, ()) _ hz)
    · skip
      rintro ⟨cz4, _⟩ w' hF
      change SPR w [(V, cv x A3 c3 A4 c4 A5 c5, 26)] [(x1, cz4)] w' at hF
      obtain ⟨B3x, d3x, B4x, d4x, B5x, d5x, rfl⟩ := hF.cells 0 rfl
      have hFb : SPR w [(V, cv x A3 c3 A4 c4 A5 c5, 26)] [] w' := SPR.tk 1 0 hF
      have hHeld := HSa _ hFb
      clear hFb
      refine norm_ (a' := ?_) ?_ ?_
      rotate_left
      · simp only [putAll, Act.put, List.setIfInBounds_toArray, List.set_cons_zero, List.set_cons_succ]
        rfl
      refine one_ (i := 5) (N := some 12) #[true, true, true, true, true, true, false] rfl rfl (by kernel_rfl) (by decide) (fun K hK => ?_)
      refine freshR_ (c := #[.int .i64 0, .int .i64 0, .string ⟨#[]⟩, .slice none 0 0, .slice none 0 0, .slice none 0 0, .int .i64 0]) (t := 30) (hF) (by rfl) rfl ?_ ?_
      · first | (go_simp; done) | (go_simp; rfl)
      intro Ra5 wz hz
      have hzb : SPR w [(V, cv x A3 c3 A4 c4 A5 c5, 26)] [] wz := SPR.tk 1 0 hz
      refine hK.out _ _ (HSa _ hzb) (fun hHeld => ?_)
      clear hK K
      refine norm_ (a' := ?_) ?_ ?_
      rotate_left
      · show Act.put _ (some 12) _ = _
        simp only [Act.put, List.setIfInBounds_toArray, List.set_cons_zero, List.set_cons_succ, i64_w, i32_w]
        rfl
      exact norm_ (by first | (simp only [putAll, Act.put, List.setIfInBounds_toArray, List.set_cons_zero, List.set_cons_succ]; done) | (simp only [putAll, Act.put, List.setIfInBounds_toArray, List.set_cons_zero, List.set_cons_succ]; rfl)) (hJ2_4_5 (Ra5, #[.int .i64 x1.f0, .int .i64 x1.f1, .string x1.f2, .slice B3x x1.f3.length d3x, .slice B4x x1.f4.length d4x, .slice B5x x1.f5.length d5x, .int .i64 0], ()) _ hz)
  rintro ⟨Ra5, cz4, _⟩ w' hF
  change SPR w [(V, cv x A3 c3 A4 c4 A5 c5, 26), (Ra5, z7, 30)] [(x1, cz4)] w' at hF
  obtain ⟨B3x, d3x, B4x, d4x, B5x, d5x, rfl⟩ := hF.cells 0 rfl
  have hFb : SPR w [(V, cv x A3 c3 A4 c4 A5 c5, 26)] [] w' := SPR.tk 1 0 hF
  have hHeld := HSa _ hFb
  clear hFb
  refine norm_ (a' := ?_) ?_ ?_
  rotate_left
  · simp only [putAll, Act.put, List.setIfInBounds_toArray, List.set_cons_zero, List.set_cons_succ]
    rfl
  refine one_ (i := 6) (N := none) #[true, true, true, true, true, true, true] rfl rfl (by kernel_rfl) (by decide) (fun K hK => ?_)
  obtain ⟨y0, y1, y2, y3, y4, y5, y6, f0, f1, f2, f3, f4, f5, f6⟩ := sev_cells (SPR.get hF 1 rfl)
  refine put7R_ (v0 := .int .i64 x1.f0) (v1 := .int .i64 x1.f1) (v2 := .string x1.f2) (v3 := .slice B3x x1.f3.length d3x) (v4 := .slice B4x x1.f4.length d4x) (v5 := .slice B5x x1.f5.length d5x) (v6 := .int .i64 0) hF 1 rfl (by rfl) rfl ?_ ?_
  · first | (go_simp; done) | (go_simp; rfl)
  clear y0 y1 y2 y3 y4 y5 y6 f0 f1 f2 f3 f4 f5 f6
  intro wsa0 hsa0
  change SPR w [(V, cv x A3 c3 A4 c4 A5 c5, 26), (Ra5, rc x1 B3x d3x B4x d4x B5x d5x, 30)] [(x1, rc x1 B3x d3x B4x d4x B5x d5x)] wsa0 at hsa0
  have hzb : SPR w [(V, cv x A3 c3 A4 c4 A5 c5, 26)] [] wsa0 := SPR.tk 1 0 hsa0
  refine hK.out _ _ (HSa _ hzb) (fun hHeld => ?_)
  clear hK K
  refine done_ (by kernel_rfl) ?_
  have HQ := Lib.hid hsa0
  clear hsa0 hF hHeld
  go_wp2_with fail
  have HSb : ∀ w', SPR w [(V, cv x A3 c3 A4 c4 A5 c5, 26), (Ra5, rc x1 B3x d3x B4x d4x B5x d5x, 30)] [(x1, rc x1 B3x d3x B4x d4x B5x d5x)] w' → w'.cell? ⟨V, 0, none⟩ = some (.int .i64 x.f0) ∧ w'.cell? ⟨V, 1, none⟩ = some (.int .i64 x.f1) ∧ w'.cell? ⟨V, 2, none⟩ = some (.string x.f2) ∧ w'.cell? ⟨V, 3, none⟩ = some (.slice A3 x.f3.length c3) ∧ w'.cell? ⟨V, 4, none⟩ = some (.slice A4 x.f4.length c4) ∧ w'.cell? ⟨V, 5, none⟩ = some (.slice A5 x.f5.length c5) ∧ w'.cell? ⟨Ra5, 0, none⟩ = some (.int .i64 x1.f0) ∧ w'.cell? ⟨Ra5, 1, none⟩ = some (.int .i64 x1.f1) ∧ w'.cell? ⟨Ra5, 2, none⟩ = some (.string x1.f2) ∧ w'.cell? ⟨Ra5, 3, none⟩ = some (.slice B3x x1.f3.length d3x) ∧ w'.cell? ⟨Ra5, 4, none⟩ = some (.slice B4x x1.f4.length d4x) ∧ w'.cell? ⟨Ra5, 5, none⟩ = some (.slice B5x x1.f5.length d5x) ∧ w'.cell? ⟨Ra5, 6, none⟩ = some (.int .i64 0) ∧ SPR w [(V, cv x A3 c3 A4 c4 A5 c5, 26), (Ra5, rc x1 B3x d3x B4x d4x B5x d5x, 30)] [(x1, rc x1 B3x d3x B4x d4x B5x d5x)] w' := fun w' h => ⟨((six_cells ((SPR.spl h).get 0 rfl)).1), ((six_cells ((SPR.spl h).get 0 rfl)).2.1), ((six_cells ((SPR.spl h).get 0 rfl)).2.2.1), ((six_cells ((SPR.spl h).get 0 rfl)).2.2.2.1), ((six_cells ((SPR.spl h).get 0 rfl)).2.2.2.2.1), ((six_cells ((SPR.spl h).get 0 rfl)).2.2.2.2.2.1), ((sev_cells ((SPR.spl h).get 1 rfl)).1), ((sev_cells ((SPR.spl h).get 1 rfl)).2.1), ((sev_cells ((SPR.spl h).get 1 rfl)).2.2.1), ((sev_cells ((SPR.spl h).get 1 rfl)).2.2.2.1), ((sev_cells ((SPR.spl h).get 1 rfl)).2.2.2.2.1), ((sev_cells ((SPR.spl h).get 1 rfl)).2.2.2.2.2.1), ((sev_cells ((SPR.spl h).get 1 rfl)).2.2.2.2.2.2.1), h⟩
  refine start_ (n := 11) (S := fun w' => w'.cell? ⟨V, 0, none⟩ = some (.int .i64 x.f0) ∧ w'.cell? ⟨V, 1, none⟩ = some (.int .i64 x.f1) ∧ w'.cell? ⟨V, 2, none⟩ = some (.string x.f2) ∧ w'.cell? ⟨V, 3, none⟩ = some (.slice A3 x.f3.length c3) ∧ w'.cell? ⟨V, 4, none⟩ = some (.slice A4 x.f4.length c4) ∧ w'.cell? ⟨V, 5, none⟩ = some (.slice A5 x.f5.length c5) ∧ w'.cell? ⟨Ra5, 0, none⟩ = some (.int .i64 x1.f0) ∧ w'.cell? ⟨Ra5, 1, none⟩ = some (.int .i64 x1.f1) ∧ w'.cell? ⟨Ra5, 2, none⟩ = some (.string x1.f2) ∧ w'.cell? ⟨Ra5, 3, none⟩ = some (.slice B3x x1.f3.length d3x) ∧ w'.cell? ⟨Ra5, 4, none⟩ = some (.slice B4x x1.f4.length d4x) ∧ w'.cell? ⟨Ra5, 5, none⟩ = some (.slice B5x x1.f5.length d5x) ∧ w'.cell? ⟨Ra5, 6, none⟩ = some (.int .i64 0) ∧ SPR w [(V, cv x A3 c3 A4 c4 A5 c5, 26), (Ra5, rc x1 B3x d3x B4x d4x B5x d5x, 30)] [(x1, rc x1 B3x d3x B4x d4x B5x d5x)] w') (ds := []) #[false, false, false, false, false, false, false, false, false, false, false] (by kernel_rfl) rfl rfl (HSb _ (SPR.drew HQ.out)) (fun hHeld => ?_)
  refine pure_ (i := 0) (N := some 42) (v := ?_) (a' := ?_) #[true, false, false, false, false, false, false, false, false, false, false] rfl rfl (by kernel_rfl) (fun _ _ _ h => h) (Or.inl ⟨by rfl, ?_⟩) ?_ ?_
  rotate_left
  · intro w'
    go_simp
    with_reducible rfl
  rotate_left
  · simp only [Act.put, List.setIfInBounds_toArray, List.set_cons_zero, List.set_cons_succ, i64_w, i32_w]
    rfl
  refine pure_ (i := 2) (N := some 44) (v := ?_) (a' := ?_) #[true, false, true, false, false, false, false, false, false, false, false] rfl rfl (by kernel_rfl) (fun _ _ _ h => h) (Or.inl ⟨by rfl, ?_⟩) ?_ ?_
  rotate_left
  · intro w'
    go_simp
    with_reducible rfl
  rotate_left
  · simp only [Act.put, List.setIfInBounds_toArray, List.set_cons_zero, List.set_cons_succ, i64_w, i32_w]
    rfl
  refine pure_ (i := 4) (N := some 46) (v := ?_) (a' := ?_) #[true, false, true, false, true, false, false, false, false, false, false] rfl rfl (by kernel_rfl) (fun _ _ _ h => h) (Or.inl ⟨by rfl, ?_⟩) ?_ ?_
  rotate_left
  · intro w'
    go_simp
    with_reducible rfl
  rotate_left
  · simp only [Act.put, List.setIfInBounds_toArray, List.set_cons_zero, List.set_cons_succ, i64_w, i32_w]
    rfl
  refine pure_ (i := 5) (N := some 47) (v := ?_) (a' := ?_) #[true, false, true, false, true, true, false, false, false, false, false] rfl rfl (by kernel_rfl) (fun _ _ _ h => h) (Or.inl ⟨by rfl, ?_⟩) ?_ ?_
  rotate_left
  · intro w'
    go_simp
    with_reducible rfl
  rotate_left
  · simp only [Act.put, List.setIfInBounds_toArray, List.set_cons_zero, List.set_cons_succ, i64_w, i32_w]
    rfl
  refine pure_ (i := 6) (N := some 48) (v := ?_) (a' := ?_) #[true, false, true, false, true, true, true, false, false, false, false] rfl rfl (by kernel_rfl) (fun _ _ _ h => h) (Or.inl ⟨by rfl, ?_⟩) ?_ ?_
  rotate_left
  · intro w'
    go_simp
    with_reducible rfl
  rotate_left
  · simp only [Act.put, List.setIfInBounds_toArray, List.set_cons_zero, List.set_cons_succ, i64_w, i32_w]
    rfl
  refine take_ (i := 1) (N := some 43) (v := ?_) (a' := ?_) #[true, true, true, false, true, true, true, false, false, false, false] rfl rfl (by kernel_rfl) (fun _ _ _ h => h) (Or.inl ⟨by rfl, ?_⟩) hHeld ?_ ?_
  rotate_left
  · rintro w' ⟨s0, s1, s2, s3, s4, s5, s6, s7, s8, s9, s10, s11, s12, s13⟩
    go_simp
    with_reducible rfl
  rotate_left
  · simp only [Act.put, List.setIfInBounds_toArray, List.set_cons_zero, List.set_cons_succ, i64_w, i32_w]
    rfl
  refine join_ (σ := Nat × Array Value × Unit) 1 #[true, true, true, true, true, true, true, true, true, true, false] (fun s => [(45, .agg #[.int .i64 3, .int .i64 (2 * m2), .string ⟨#[]⟩, .slice none 0 0, .slice none 0 0, .slice none 0 0]), (49, .agg #[.int .i64 3, .int .i64 (2 * (m2 + m3)), .string ⟨#[]⟩, .slice none 0 0, .slice none 0 0, .slice none 0 0]), (50, .agg s.2.1), (13, .pointer (some ⟨s.1, 0, none⟩))]) (fun s w' => SPR w [(V, cv x A3 c3 A4 c4 A5 c5, 26), (Ra5, rc x1 B3x d3x B4x d4x B5x d5x, 30), (s.1, z7, 30)] [(x1, rc x1 B3x d3x B4x d4x B5x d5x), (x2, s.2.1)] w') ?_ ?_
  rotate_left
  · intro hJ3_7_8_9
    refine join_ (σ := Array Value × Unit) 2 #[true, true, true, true, true, true, true, true, true, false, false] (fun s => [(45, .agg #[.int .i64 3, .int .i64 (2 * m2), .string ⟨#[]⟩, .slice none 0 0, .slice none 0 0, .slice none 0 0]), (49, .agg #[.int .i64 3, .int .i64 (2 * (m2 + m3)), .string ⟨#[]⟩, .slice none 0 0, .slice none 0 0, .slice none 0 0]), (50, .agg s.1)]) (fun s w' => SPR w [(V, cv x A3 c3 A4 c4 A5 c5, 26), (Ra5, rc x1 B3x d3x B4x d4x B5x d5x, 30)] [(x1, rc x1 B3x d3x B4x d4x B5x d5x), (x2, s.1)] w') ?_ ?_
    rotate_left
    · intro hJ3_7_8
      refine join_ (σ := Nat × Unit) 2 #[true, true, true, true, true, true, true, true, false, true, false] (fun s => [(45, .agg #[.int .i64 3, .int .i64 (2 * m2), .string ⟨#[]⟩, .slice none 0 0, .slice none 0 0, .slice none 0 0]), (49, .agg #[.int .i64 3, .int .i64 (2 * (m2 + m3)), .string ⟨#[]⟩, .slice none 0 0, .slice none 0 0, .slice none 0 0]), (13, .pointer (some ⟨s.1, 0, none⟩))]) (fun s w' => SPR w [(V, cv x A3 c3 A4 c4 A5 c5, 26), (Ra5, rc x1 B3x d3x B4x d4x B5x d5x, 30), (s.1, z7, 30)] [(x1, rc x1 B3x d3x B4x d4x B5x d5x)] w') ?_ ?_
      rotate_left
      · intro hJ3_7_9
        refine join_ (σ := Unit) 3 #[true, true, true, true, true, true, true, true, false, false, false] (fun s => [(45, .agg #[.int .i64 3, .int .i64 (2 * m2), .string ⟨#[]⟩, .slice none 0 0, .slice none 0 0, .slice none 0 0]), (49, .agg #[.int .i64 3, .int .i64 (2 * (m2 + m3)), .string ⟨#[]⟩, .slice none 0 0, .slice none 0 0, .slice none 0 0])]) (fun s w' => SPR w [(V, cv x A3 c3 A4 c4 A5 c5, 26), (Ra5, rc x1 B3x d3x B4x d4x B5x d5x, 30)] [(x1, rc x1 B3x d3x B4x d4x B5x d5x)] w') ?_ ?_
        rotate_left
        · intro hJ3_7
          refine join_ (σ := Nat × Unit) 3 #[true, true, true, true, true, true, true, false, false, true, false] (fun s => [(45, .agg #[.int .i64 3, .int .i64 (2 * m2), .string ⟨#[]⟩, .slice none 0 0, .slice none 0 0, .slice none 0 0]), (13, .pointer (some ⟨s.1, 0, none⟩))]) (fun s w' => SPR w [(V, cv x A3 c3 A4 c4 A5 c5, 26), (Ra5, rc x1 B3x d3x B4x d4x B5x d5x, 30), (s.1, z7, 30)] [(x1, rc x1 B3x d3x B4x d4x B5x d5x)] w') ?_ ?_
          rotate_left
          · intro hJ3_9
            refine join_ (σ := Unit) 4 #[true, true, true, true, true, true, true, false, false, false, false] (fun s => [(45, .agg #[.int .i64 3, .int .i64 (2 * m2), .string ⟨#[]⟩, .slice none 0 0, .slice none 0 0, .slice none 0 0])]) (fun s w' => SPR w [(V, cv x A3 c3 A4 c4 A5 c5, 26), (Ra5, rc x1 B3x d3x B4x d4x B5x d5x, 30)] [(x1, rc x1 B3x d3x B4x d4x B5x d5x)] w') ?_ ?_
            rotate_left
            · intro hJ3
              refine join_ (σ := Nat × Unit) 4 #[true, true, true, false, true, true, true, false, false, true, false] (fun s => [(13, .pointer (some ⟨s.1, 0, none⟩))]) (fun s w' => SPR w [(V, cv x A3 c3 A4 c4 A5 c5, 26), (Ra5, rc x1 B3x d3x B4x d4x B5x d5x, 30), (s.1, z7, 30)] [(x1, rc x1 B3x d3x B4x d4x B5x d5x)] w') ?_ ?_
              rotate_left
              · intro hJ9
                refine two_ (i := 3) (j := 9) (Ni := some 45) (Nj := some 13) #[true, true, true, true, true, true, true, false, false, false, false] #[true, true, true, false, true, true, true, false, false, true, false] rfl rfl rfl rfl (by kernel_rfl) (by decide) (by decide) (fun K hK => ?_) (fun K hK => ?_)
                · skip
                  refine goes_ Tryz.func34 (by kernel_rfl) rfl #[.int .i64 m2] (by rfl) rfl rfl (by simp only [List.map_toArray, List.map_cons, List.map_nil]; rfl) ?_
                  with_reducible refine ((HNb.out _)).mono ?_
                  rintro e wz ⟨rfl, hb⟩
                  refine ⟨_, rfl, ?_⟩
                  have hz := SPR.below (hHeld.2.2.2.2.2.2.2.2.2.2.2.2.2) hb
                  have hzb : SPR w [(V, cv x A3 c3 A4 c4 A5 c5, 26), (Ra5, rc x1 B3x d3x B4x d4x B5x d5x, 30)] [(x1, rc x1 B3x d3x B4x d4x B5x d5x)] wz := SPR.tk 2 1 hz
                  refine hK.out _ _ (HSb _ hzb) (fun hHeld => ?_)
                  clear hK K
                  refine norm_ (a' := ?_) ?_ ?_
                  rotate_left
                  · show Act.put _ (some 45) _ = _
                    simp only [Act.put, List.setIfInBounds_toArray, List.set_cons_zero, List.set_cons_succ, i64_w, i32_w]
                    rfl
                  exact norm_ (by first | (simp only [putAll, Act.put, List.setIfInBounds_toArray, List.set_cons_zero, List.set_cons_succ]; done) | (simp only [putAll, Act.put, List.setIfInBounds_toArray, List.set_cons_zero, List.set_cons_succ]; rfl)) (hJ3 (()) _ hz)
                · skip
                  refine freshR_ (c := #[.int .i64 0, .int .i64 0, .string ⟨#[]⟩, .slice none 0 0, .slice none 0 0, .slice none 0 0, .int .i64 0]) (t := 30) (hHeld.2.2.2.2.2.2.2.2.2.2.2.2.2) (by rfl) rfl ?_ ?_
                  · first | (go_simp; done) | (go_simp; rfl)
                  intro Rb9 wz hz
                  have hzb : SPR w [(V, cv x A3 c3 A4 c4 A5 c5, 26), (Ra5, rc x1 B3x d3x B4x d4x B5x d5x, 30)] [(x1, rc x1 B3x d3x B4x d4x B5x d5x)] wz := SPR.tk 2 1 hz
                  refine hK.out _ _ (HSb _ hzb) (fun hHeld => ?_)
                  clear hK K
                  refine norm_ (a' := ?_) ?_ ?_
                  rotate_left
                  · show Act.put _ (some 13) _ = _
                    simp only [Act.put, List.setIfInBounds_toArray, List.set_cons_zero, List.set_cons_succ, i64_w, i32_w]
                    rfl
                  exact norm_ (by first | (simp only [putAll, Act.put, List.setIfInBounds_toArray, List.set_cons_zero, List.set_cons_succ]; done) | (simp only [putAll, Act.put, List.setIfInBounds_toArray, List.set_cons_zero, List.set_cons_succ]; rfl)) (hJ9 (Rb9, ()) _ hz)
              · skip
                rintro ⟨Rb9, _⟩ w' hF
                change SPR w [(V, cv x A3 c3 A4 c4 A5 c5, 26), (Ra5, rc x1 B3x d3x B4x d4x B5x d5x, 30), (Rb9, z7, 30)] [(x1, rc x1 B3x d3x B4x d4x B5x d5x)] w' at hF
                have hFb : SPR w [(V, cv x A3 c3 A4 c4 A5 c5, 26), (Ra5, rc x1 B3x d3x B4x d4x B5x d5x, 30)] [(x1, rc x1 B3x d3x B4x d4x B5x d5x)] w' := SPR.tk 2 1 hF
                have hHeld := HSb _ hFb
                clear hFb
                refine norm_ (a' := ?_) ?_ ?_
                rotate_left
                · simp only [putAll, Act.put, List.setIfInBounds_toArray, List.set_cons_zero, List.set_cons_succ]
                  rfl
                refine one_ (i := 3) (N := some 45) #[true, true, true, true, true, true, true, false, false, true, false] rfl rfl (by kernel_rfl) (by decide) (fun K hK => ?_)
                refine goes_ Tryz.func34 (by kernel_rfl) rfl #[.int .i64 m2] (by rfl) rfl rfl (by simp only [List.map_toArray, List.map_cons, List.map_nil]; rfl) ?_
                with_reducible refine ((HNb.out _)).mono ?_
                rintro e wz ⟨rfl, hb⟩
                refine ⟨_, rfl, ?_⟩
                have hz := SPR.below (hF) hb
                have hzb : SPR w [(V, cv x A3 c3 A4 c4 A5 c5, 26), (Ra5, rc x1 B3x d3x B4x d4x B5x d5x, 30)] [(x1, rc x1 B3x d3x B4x d4x B5x d5x)] wz := SPR.tk 2 1 hz
                refine hK.out _ _ (HSb _ hzb) (fun hHeld => ?_)
                clear hK K
                refine norm_ (a' := ?_) ?_ ?_
                rotate_left
                · show Act.put _ (some 45) _ = _
                  simp only [Act.put, List.setIfInBounds_toArray, List.set_cons_zero, List.set_cons_succ, i64_w, i32_w]
                  rfl
                exact norm_ (by first | (simp only [putAll, Act.put, List.setIfInBounds_toArray, List.set_cons_zero, List.set_cons_succ]; done) | (simp only [putAll, Act.put, List.setIfInBounds_toArray, List.set_cons_zero, List.set_cons_succ]; rfl)) (hJ3_9 (Rb9, ()) _ hz)
            · skip
              rintro ⟨_⟩ w' hF
              change SPR w [(V, cv x A3 c3 A4 c4 A5 c5, 26), (Ra5, rc x1 B3x d3x B4x d4x B5x d5x, 30)] [(x1, rc x1 B3x d3x B4x d4x B5x d5x)] w' at hF
              have hFb : SPR w [(V, cv x A3 c3 A4 c4 A5 c5, 26), (Ra5, rc x1 B3x d3x B4x d4x B5x d5x, 30)] [(x1, rc x1 B3x d3x B4x d4x B5x d5x)] w' := SPR.tk 2 1 hF
              have hHeld := HSb _ hFb
              clear hFb
              refine norm_ (a' := ?_) ?_ ?_
              rotate_left
              · simp only [putAll, Act.put, List.setIfInBounds_toArray, List.set_cons_zero, List.set_cons_succ]
                rfl
              refine two_ (i := 7) (j := 9) (Ni := some 49) (Nj := some 13) #[true, true, true, true, true, true, true, true, false, false, false] #[true, true, true, true, true, true, true, false, false, true, false] rfl rfl rfl rfl (by kernel_rfl) (by decide) (by decide) (fun K hK => ?_) (fun K hK => ?_)
              · skip
                refine goes_ Tryz.func34 (by kernel_rfl) rfl #[.int .i64 (wrap64 (m2 + m3))] (by rfl) rfl rfl (by simp only [List.map_toArray, List.map_cons, List.map_nil]; rfl) ?_
                with_reducible refine ((HNc.out _)).mono ?_
                rintro e wz ⟨rfl, hb⟩
                refine ⟨_, rfl, ?_⟩
                have hz := SPR.below (hF) hb
                have hzb : SPR w [(V, cv x A3 c3 A4 c4 A5 c5, 26), (Ra5, rc x1 B3x d3x B4x d4x B5x d5x, 30)] [(x1, rc x1 B3x d3x B4x d4x B5x d5x)] wz := SPR.tk 2 1 hz
                refine hK.out _ _ (HSb _ hzb) (fun hHeld => ?_)
                clear hK K
                refine norm_ (a' := ?_) ?_ ?_
                rotate_left
                · show Act.put _ (some 49) _ = _
                  simp only [Act.put, List.setIfInBounds_toArray, List.set_cons_zero, List.set_cons_succ, i64_w, i32_w]
                  rfl
                exact norm_ (by first | (simp only [putAll, Act.put, List.setIfInBounds_toArray, List.set_cons_zero, List.set_cons_succ]; done) | (simp only [putAll, Act.put, List.setIfInBounds_toArray, List.set_cons_zero, List.set_cons_succ]; rfl)) (hJ3_7 (()) _ hz)
              · skip
                refine freshR_ (c := #[.int .i64 0, .int .i64 0, .string ⟨#[]⟩, .slice none 0 0, .slice none 0 0, .slice none 0 0, .int .i64 0]) (t := 30) (hF) (by rfl) rfl ?_ ?_
                · first | (go_simp; done) | (go_simp; rfl)
                intro Rb9 wz hz
                have hzb : SPR w [(V, cv x A3 c3 A4 c4 A5 c5, 26), (Ra5, rc x1 B3x d3x B4x d4x B5x d5x, 30)] [(x1, rc x1 B3x d3x B4x d4x B5x d5x)] wz := SPR.tk 2 1 hz
                refine hK.out _ _ (HSb _ hzb) (fun hHeld => ?_)
                clear hK K
                refine norm_ (a' := ?_) ?_ ?_
                rotate_left
                · show Act.put _ (some 13) _ = _
                  simp only [Act.put, List.setIfInBounds_toArray, List.set_cons_zero, List.set_cons_succ, i64_w, i32_w]
                  rfl
                exact norm_ (by first | (simp only [putAll, Act.put, List.setIfInBounds_toArray, List.set_cons_zero, List.set_cons_succ]; done) | (simp only [putAll, Act.put, List.setIfInBounds_toArray, List.set_cons_zero, List.set_cons_succ]; rfl)) (hJ3_9 (Rb9, ()) _ hz)
          · skip
            rintro ⟨Rb9, _⟩ w' hF
            change SPR w [(V, cv x A3 c3 A4 c4 A5 c5, 26), (Ra5, rc x1 B3x d3x B4x d4x B5x d5x, 30), (Rb9, z7, 30)] [(x1, rc x1 B3x d3x B4x d4x B5x d5x)] w' at hF
            have hFb : SPR w [(V, cv x A3 c3 A4 c4 A5 c5, 26), (Ra5, rc x1 B3x d3x B4x d4x B5x d5x, 30)] [(x1, rc x1 B3x d3x B4x d4x B5x d5x)] w' := SPR.tk 2 1 hF
            have hHeld := HSb _ hFb
            clear hFb
            refine norm_ (a' := ?_) ?_ ?_
            rotate_left
            · simp only [putAll, Act.put, List.setIfInBounds_toArray, List.set_cons_zero, List.set_cons_succ]
              rfl
            refine one_ (i := 7) (N := some 49) #[true, true, true, true, true, true, true, true, false, true, false] rfl rfl (by kernel_rfl) (by decide) (fun K hK => ?_)
            refine goes_ Tryz.func34 (by kernel_rfl) rfl #[.int .i64 (wrap64 (m2 + m3))] (by rfl) rfl rfl (by simp only [List.map_toArray, List.map_cons, List.map_nil]; rfl) ?_
            with_reducible refine ((HNc.out _)).mono ?_
            rintro e wz ⟨rfl, hb⟩
            refine ⟨_, rfl, ?_⟩
            have hz := SPR.below (hF) hb
            have hzb : SPR w [(V, cv x A3 c3 A4 c4 A5 c5, 26), (Ra5, rc x1 B3x d3x B4x d4x B5x d5x, 30)] [(x1, rc x1 B3x d3x B4x d4x B5x d5x)] wz := SPR.tk 2 1 hz
            refine hK.out _ _ (HSb _ hzb) (fun hHeld => ?_)
            clear hK K
            refine norm_ (a' := ?_) ?_ ?_
            rotate_left
            · show Act.put _ (some 49) _ = _
              simp only [Act.put, List.setIfInBounds_toArray, List.set_cons_zero, List.set_cons_succ, i64_w, i32_w]
              rfl
            exact norm_ (by first | (simp only [putAll, Act.put, List.setIfInBounds_toArray, List.set_cons_zero, List.set_cons_succ]; done) | (simp only [putAll, Act.put, List.setIfInBounds_toArray, List.set_cons_zero, List.set_cons_succ]; rfl)) (hJ3_7_9 (Rb9, ()) _ hz)
        · skip
          rintro ⟨_⟩ w' hF
          change SPR w [(V, cv x A3 c3 A4 c4 A5 c5, 26), (Ra5, rc x1 B3x d3x B4x d4x B5x d5x, 30)] [(x1, rc x1 B3x d3x B4x d4x B5x d5x)] w' at hF
          have hFb : SPR w [(V, cv x A3 c3 A4 c4 A5 c5, 26), (Ra5, rc x1 B3x d3x B4x d4x B5x d5x, 30)] [(x1, rc x1 B3x d3x B4x d4x B5x d5x)] w' := SPR.tk 2 1 hF
          have hHeld := HSb _ hFb
          clear hFb
          refine norm_ (a' := ?_) ?_ ?_
          rotate_left
          · simp only [putAll, Act.put, List.setIfInBounds_toArray, List.set_cons_zero, List.set_cons_succ]
            rfl
          refine two_ (i := 8) (j := 9) (Ni := some 50) (Nj := some 13) #[true, true, true, true, true, true, true, true, true, false, false] #[true, true, true, true, true, true, true, true, false, true, false] rfl rfl rfl rfl (by kernel_rfl) (by decide) (by decide) (fun K hK => ?_) (fun K hK => ?_)
          · skip
            refine goes_ Tryz.func33 (by kernel_rfl) rfl #[.agg #[.int .i64 x1.f0, .int .i64 x1.f1, .string x1.f2, .slice B3x x1.f3.length d3x, .slice B4x x1.f4.length d4x, .slice B5x x1.f5.length d5x], .agg #[.int .i64 3, .int .i64 (2 * m2), .string ⟨#[]⟩, .slice none 0 0, .slice none 0 0, .slice none 0 0], .agg #[.int .i64 3, .int .i64 (2 * (m2 + m3)), .string ⟨#[]⟩, .slice none 0 0, .slice none 0 0, .slice none 0 0]] (by rfl) rfl rfl (by simp only [List.map_toArray, List.map_cons, List.map_nil]; rfl) ?_
            with_reducible refine ((HSB.out _ _ _ (hF) 0 rfl)).mono ?_
            rintro e wz ⟨u8, rfl, hz⟩
            refine ⟨_, rfl, ?_⟩
            have hzb : SPR w [(V, cv x A3 c3 A4 c4 A5 c5, 26), (Ra5, rc x1 B3x d3x B4x d4x B5x d5x, 30)] [(x1, rc x1 B3x d3x B4x d4x B5x d5x)] wz := SPR.tk 2 1 hz
            refine hK.out _ _ (HSb _ hzb) (fun hHeld => ?_)
            clear hK K
            refine norm_ (a' := ?_) ?_ ?_
            rotate_left
            · show Act.put _ (some 50) _ = _
              simp only [Act.put, List.setIfInBounds_toArray, List.set_cons_zero, List.set_cons_succ, i64_w, i32_w]
              rfl
            exact norm_ (by first | (simp only [putAll, Act.put, List.setIfInBounds_toArray, List.set_cons_zero, List.set_cons_succ]; done) | (simp only [putAll, Act.put, List.setIfInBounds_toArray, List.set_cons_zero, List.set_cons_succ]; rfl)) (hJ3_7_8 (u8, ()) _ hz)
          · skip
            refine freshR_ (c := #[.int .i64 0, .int .i64 0, .string ⟨#[]⟩, .slice none 0 0, .slice none 0 0, .slice none 0 0, .int .i64 0]) (t := 30) (hF) (by rfl) rfl ?_ ?_
            · first | (go_simp; done) | (go_simp; rfl)
            intro Rb9 wz hz
            have hzb : SPR w [(V, cv x A3 c3 A4 c4 A5 c5, 26), (Ra5, rc x1 B3x d3x B4x d4x B5x d5x, 30)] [(x1, rc x1 B3x d3x B4x d4x B5x d5x)] wz := SPR.tk 2 1 hz
            refine hK.out _ _ (HSb _ hzb) (fun hHeld => ?_)
            clear hK K
            refine norm_ (a' := ?_) ?_ ?_
            rotate_left
            · show Act.put _ (some 13) _ = _
              simp only [Act.put, List.setIfInBounds_toArray, List.set_cons_zero, List.set_cons_succ, i64_w, i32_w]
              rfl
            exact norm_ (by first | (simp only [putAll, Act.put, List.setIfInBounds_toArray, List.set_cons_zero, List.set_cons_succ]; done) | (simp only [putAll, Act.put, List.setIfInBounds_toArray, List.set_cons_zero, List.set_cons_succ]; rfl)) (hJ3_7_9 (Rb9, ()) _ hz)
      · skip
        rintro ⟨Rb9, _⟩ w' hF
        change SPR w [(V, cv x A3 c3 A4 c4 A5 c5, 26), (Ra5, rc x1 B3x d3x B4x d4x B5x d5x, 30), (Rb9, z7, 30)] [(x1, rc x1 B3x d3x B4x d4x B5x d5x)] w' at hF
        have hFb : SPR w [(V, cv x A3 c3 A4 c4 A5 c5, 26), (Ra5, rc x1 B3x d3x B4x d4x B5x d5x, 30)] [(x1, rc x1 B3x d3x B4x d4x B5x d5x)] w' := SPR.tk 2 1 hF
        have hHeld := HSb _ hFb
        clear hFb
        refine norm_ (a' := ?_) ?_ ?_
        rotate_left
        · simp only [putAll, Act.put, List.setIfInBounds_toArray, List.set_cons_zero, List.set_cons_succ]
          rfl
        refine one_ (i := 8) (N := some 50) #[true, true, true, true, true, true, true, true, true, true, false] rfl rfl (by kernel_rfl) (by decide) (fun K hK => ?_)
        refine goes_ Tryz.func33 (by kernel_rfl) rfl #[.agg #[.int .i64 x1.f0, .int .i64 x1.f1, .string x1.f2, .slice B3x x1.f3.length d3x, .slice B4x x1.f4.length d4x, .slice B5x x1.f5.length d5x], .agg #[.int .i64 3, .int .i64 (2 * m2), .string ⟨#[]⟩, .slice none 0 0, .slice none 0 0, .slice none 0 0], .agg #[.int .i64 3, .int .i64 (2 * (m2 + m3)), .string ⟨#[]⟩, .slice none 0 0, .slice none 0 0, .slice none 0 0]] (by rfl) rfl rfl (by simp only [List.map_toArray, List.map_cons, List.map_nil]; rfl) ?_
        with_reducible refine ((HSB.out _ _ _ (hF) 0 rfl)).mono ?_
        rintro e wz ⟨u8, rfl, hz⟩
        refine ⟨_, rfl, ?_⟩
        have hzb : SPR w [(V, cv x A3 c3 A4 c4 A5 c5, 26), (Ra5, rc x1 B3x d3x B4x d4x B5x d5x, 30)] [(x1, rc x1 B3x d3x B4x d4x B5x d5x)] wz := SPR.tk 2 1 hz
        refine hK.out _ _ (HSb _ hzb) (fun hHeld => ?_)
        clear hK K
        refine norm_ (a' := ?_) ?_ ?_
        rotate_left
        · show Act.put _ (some 50) _ = _
          simp only [Act.put, List.setIfInBounds_toArray, List.set_cons_zero, List.set_cons_succ, i64_w, i32_w]
          rfl
        exact norm_ (by first | (simp only [putAll, Act.put, List.setIfInBounds_toArray, List.set_cons_zero, List.set_cons_succ]; done) | (simp only [putAll, Act.put, List.setIfInBounds_toArray, List.set_cons_zero, List.set_cons_succ]; rfl)) (hJ3_7_8_9 (Rb9, u8, ()) _ hz)
    · skip
      rintro ⟨cz8, _⟩ w' hF
      change SPR w [(V, cv x A3 c3 A4 c4 A5 c5, 26), (Ra5, rc x1 B3x d3x B4x d4x B5x d5x, 30)] [(x1, rc x1 B3x d3x B4x d4x B5x d5x), (x2, cz8)] w' at hF
      obtain ⟨B3y, d3y, B4y, d4y, B5y, d5y, rfl⟩ := hF.cells 1 rfl
      have hFb : SPR w [(V, cv x A3 c3 A4 c4 A5 c5, 26), (Ra5, rc x1 B3x d3x B4x d4x B5x d5x, 30)] [(x1, rc x1 B3x d3x B4x d4x B5x d5x)] w' := SPR.tk 2 1 hF
      have hHeld := HSb _ hFb
      clear hFb
      refine norm_ (a' := ?_) ?_ ?_
      rotate_left
      · simp only [putAll, Act.put, List.setIfInBounds_toArray, List.set_cons_zero, List.set_cons_succ]
        rfl
      refine one_ (i := 9) (N := some 13) #[true, true, true, true, true, true, true, true, true, true, false] rfl rfl (by kernel_rfl) (by decide) (fun K hK => ?_)
      refine freshR_ (c := #[.int .i64 0, .int .i64 0, .string ⟨#[]⟩, .slice none 0 0, .slice none 0 0, .slice none 0 0, .int .i64 0]) (t := 30) (hF) (by rfl) rfl ?_ ?_
      · first | (go_simp; done) | (go_simp; rfl)
      intro Rb9 wz hz
      have hzb : SPR w [(V, cv x A3 c3 A4 c4 A5 c5, 26), (Ra5, rc x1 B3x d3x B4x d4x B5x d5x, 30)] [(x1, rc x1 B3x d3x B4x d4x B5x d5x)] wz := SPR.tk 2 1 hz
      refine hK.out _ _ (HSb _ hzb) (fun hHeld => ?_)
      clear hK K
      refine norm_ (a' := ?_) ?_ ?_
      rotate_left
      · show Act.put _ (some 13) _ = _
        simp only [Act.put, List.setIfInBounds_toArray, List.set_cons_zero, List.set_cons_succ, i64_w, i32_w]
        rfl
      exact norm_ (by first | (simp only [putAll, Act.put, List.setIfInBounds_toArray, List.set_cons_zero, List.set_cons_succ]; done) | (simp only [putAll, Act.put, List.setIfInBounds_toArray, List.set_cons_zero, List.set_cons_succ]; rfl)) (hJ3_7_8_9 (Rb9, #[.int .i64 x2.f0, .int .i64 x2.f1, .string x2.f2, .slice B3y x2.f3.length d3y, .slice B4y x2.f4.length d4y, .slice B5y x2.f5.length d5y, .int .i64 0], ()) _ hz)
  rintro ⟨Rb9, cz8, _⟩ w' hF
  change SPR w [(V, cv x A3 c3 A4 c4 A5 c5, 26), (Ra5, rc x1 B3x d3x B4x d4x B5x d5x, 30), (Rb9, z7, 30)] [(x1, rc x1 B3x d3x B4x d4x B5x d5x), (x2, cz8)] w' at hF
  obtain ⟨B3y, d3y, B4y, d4y, B5y, d5y, rfl⟩ := hF.cells 1 rfl
  have hFb : SPR w [(V, cv x A3 c3 A4 c4 A5 c5, 26), (Ra5, rc x1 B3x d3x B4x d4x B5x d5x, 30)] [(x1, rc x1 B3x d3x B4x d4x B5x d5x)] w' := SPR.tk 2 1 hF
  have hHeld := HSb _ hFb
  clear hFb
  refine norm_ (a' := ?_) ?_ ?_
  rotate_left
  · simp only [putAll, Act.put, List.setIfInBounds_toArray, List.set_cons_zero, List.set_cons_succ]
    rfl
  refine one_ (i := 10) (N := none) #[true, true, true, true, true, true, true, true, true, true, true] rfl rfl (by kernel_rfl) (by decide) (fun K hK => ?_)
  obtain ⟨y0, y1, y2, y3, y4, y5, y6, f0, f1, f2, f3, f4, f5, f6⟩ := sev_cells (SPR.get hF 2 rfl)
  refine put7R_ (v0 := .int .i64 x2.f0) (v1 := .int .i64 x2.f1) (v2 := .string x2.f2) (v3 := .slice B3y x2.f3.length d3y) (v4 := .slice B4y x2.f4.length d4y) (v5 := .slice B5y x2.f5.length d5y) (v6 := .int .i64 0) hF 2 rfl (by rfl) rfl ?_ ?_
  · first | (go_simp; done) | (go_simp; rfl)
  clear y0 y1 y2 y3 y4 y5 y6 f0 f1 f2 f3 f4 f5 f6
  intro wsb0 hsb0
  change SPR w [(V, cv x A3 c3 A4 c4 A5 c5, 26), (Ra5, rc x1 B3x d3x B4x d4x B5x d5x, 30), (Rb9, rc x2 B3y d3y B4y d4y B5y d5y, 30)] [(x1, rc x1 B3x d3x B4x d4x B5x d5x), (x2, rc x2 B3y d3y B4y d4y B5y d5y)] wsb0 at hsb0
  have hzb : SPR w [(V, cv x A3 c3 A4 c4 A5 c5, 26), (Ra5, rc x1 B3x d3x B4x d4x B5x d5x, 30)] [(x1, rc x1 B3x d3x B4x d4x B5x d5x)] wsb0 := SPR.tk 2 1 hsb0
  refine hK.out _ _ (HSb _ hzb) (fun hHeld => ?_)
  clear hK K
  refine done_ (by kernel_rfl) ?_
  have HR := Lib.hid hsb0
  clear hsb0 hF hHeld HQ
  have HG1 : Hid (∀ w1 {B3 B4 B5 : Option Addr} {d3 d4 d5 : Nat}, SPR w [(V, cv x A3 c3 A4 c4 A5 c5, 26), (Ra5, rc x1 B3x d3x B4x d4x B5x d5x, 30), (Rb9, rc x2 B3y d3y B4y d4y B5y d5y, 30)] ([(x1, rc x1 B3x d3x B4x d4x B5x d5x), (x2, rc x2 B3y d3y B4y d4y B5y d5y)] ++ [(x3, #[.int .i64 x3.f0, .int .i64 x3.f1, .string x3.f2, .slice B3 x3.f3.length d3, .slice B4 x3.f4.length d4, .slice B5 x3.f5.length d5, .int .i64 0])]) w1 → Calls Tryz.prog 19 #[.agg #[.int .i64 x3.f0, .int .i64 x3.f1, .string x3.f2, .slice B3 x3.f3.length d3, .slice B4 x3.f4.length d4, .slice B5 x3.f5.length d5, .int .i64 0], .agg #[.int .i64 x.f0, .int .i64 x.f1, .string x.f2, .slice A3 x.f3.length c3, .slice A4 x.f4.length c4, .slice A5 x.f5.length c5]] w1 fun e w' => e = .returned (.bool true) ∧ Below w1.heap.size w1 w') := Lib.hid (by
    intro w1 B3 B4 B5 d3 d4 d5 h
    have h1 := given_any w1 x3 x (by rw [HX3.out]; exact HWL.out) HWL.out (h.held 2 rfl) (K_below HKW.out h.bel) w1 (Below.refl _ _)
    simp only [vl, rv] at h1
    rw [show (cmpV x3 x == 0) = true by rw [HX3.out, cmpV_self]; rfl] at h1
    exact h1)
  have HG2 : Hid (∀ w1 {B3 B4 B5 : Option Addr} {d3 d4 d5 : Nat}, SPR w [(V, cv x A3 c3 A4 c4 A5 c5, 26), (Ra5, rc x1 B3x d3x B4x d4x B5x d5x, 30), (Rb9, rc x2 B3y d3y B4y d4y B5y d5y, 30)] ([(x1, rc x1 B3x d3x B4x d4x B5x d5x), (x2, rc x2 B3y d3y B4y d4y B5y d5y)] ++ [(x4, #[.int .i64 x4.f0, .int .i64 x4.f1, .string x4.f2, .slice B3 x4.f3.length d3, .slice B4 x4.f4.length d4, .slice B5 x4.f5.length d5, .int .i64 0])]) w1 → Calls Tryz.prog 19 #[.agg #[.int .i64 x4.f0, .int .i64 x4.f1, .string x4.f2, .slice B3 x4.f3.length d3, .slice B4 x4.f4.length d4, .slice B5 x4.f5.length d5, .int .i64 0], .agg #[.int .i64 x2.f0, .int .i64 x2.f1, .string x2.f2, .slice B3y x2.f3.length d3y, .slice B4y x2.f4.length d4y, .slice B5y x2.f5.length d5y]] w1 fun e w' => e = .returned (.bool true) ∧ Below w1.heap.size w1 w') := Lib.hid (by
    intro w1 B3 B4 B5 d3 d4 d5 h
    have h1 := given_any w1 x4 x2 (by rw [HX4.out]; exact HX2.out.1) HX2.out.1 (h.held 2 rfl) (h.held 1 rfl) w1 (Below.refl _ _)
    simp only [vl, rv] at h1
    rw [show (cmpV x4 x2 == 0) = true by rw [HX4.out, cmpV_self]; rfl] at h1
    exact h1)
  go_wp2_with fail
  refine start_ (n := 34) (S := fun w' => w'.cell? ⟨V, 0, none⟩ = some (.int .i64 x.f0) ∧ w'.cell? ⟨V, 1, none⟩ = some (.int .i64 x.f1) ∧ w'.cell? ⟨V, 2, none⟩ = some (.string x.f2) ∧ w'.cell? ⟨V, 3, none⟩ = some (.slice A3 x.f3.length c3) ∧ w'.cell? ⟨V, 4, none⟩ = some (.slice A4 x.f4.length c4) ∧ w'.cell? ⟨V, 5, none⟩ = some (.slice A5 x.f5.length c5) ∧ w'.cell? ⟨Ra5, 0, none⟩ = some (.int .i64 x1.f0) ∧ w'.cell? ⟨Ra5, 1, none⟩ = some (.int .i64 x1.f1) ∧ w'.cell? ⟨Ra5, 2, none⟩ = some (.string x1.f2) ∧ w'.cell? ⟨Ra5, 3, none⟩ = some (.slice B3x x1.f3.length d3x) ∧ w'.cell? ⟨Ra5, 4, none⟩ = some (.slice B4x x1.f4.length d4x) ∧ w'.cell? ⟨Ra5, 5, none⟩ = some (.slice B5x x1.f5.length d5x) ∧ w'.cell? ⟨Ra5, 6, none⟩ = some (.int .i64 0) ∧ w'.cell? ⟨Rb9, 0, none⟩ = some (.int .i64 x2.f0) ∧ w'.cell? ⟨Rb9, 1, none⟩ = some (.int .i64 x2.f1) ∧ w'.cell? ⟨Rb9, 2, none⟩ = some (.string x2.f2) ∧ w'.cell? ⟨Rb9, 3, none⟩ = some (.slice B3y x2.f3.length d3y) ∧ w'.cell? ⟨Rb9, 4, none⟩ = some (.slice B4y x2.f4.length d4y) ∧ w'.cell? ⟨Rb9, 5, none⟩ = some (.slice B5y x2.f5.length d5y) ∧ w'.cell? ⟨Rb9, 6, none⟩ = some (.int .i64 0) ∧ SPR w [(V, cv x A3 c3 A4 c4 A5 c5, 26), (Ra5, rc x1 B3x d3x B4x d4x B5x d5x, 30), (Rb9, rc x2 B3y d3y B4y d4y B5y d5y, 30)] [(x1, rc x1 B3x d3x B4x d4x B5x d5x), (x2, rc x2 B3y d3y B4y d4y B5y d5y)] w') (ds := []) #[false, false, false, false, false, false, false, false, false, false, false, false, false, false, false, false, false, false, false, false, false, false, false, false, false, false, false, false, false, false, false, false, false, false] (by kernel_rfl) rfl rfl ⟨((six_cells ((SPR.spl (SPR.drew HR.out)).get 0 rfl)).1), ((six_cells ((SPR.spl (SPR.drew HR.out)).get 0 rfl)).2.1), ((six_cells ((SPR.spl (SPR.drew HR.out)).get 0 rfl)).2.2.1), ((six_cells ((SPR.spl (SPR.drew HR.out)).get 0 rfl)).2.2.2.1), ((six_cells ((SPR.spl (SPR.drew HR.out)).get 0 rfl)).2.2.2.2.1), ((six_cells ((SPR.spl (SPR.drew HR.out)).get 0 rfl)).2.2.2.2.2.1), ((sev_cells ((SPR.spl (SPR.drew HR.out)).get 1 rfl)).1), ((sev_cells ((SPR.spl (SPR.drew HR.out)).get 1 rfl)).2.1), ((sev_cells ((SPR.spl (SPR.drew HR.out)).get 1 rfl)).2.2.1), ((sev_cells ((SPR.spl (SPR.drew HR.out)).get 1 rfl)).2.2.2.1), ((sev_cells ((SPR.spl (SPR.drew HR.out)).get 1 rfl)).2.2.2.2.1), ((sev_cells ((SPR.spl (SPR.drew HR.out)).get 1 rfl)).2.2.2.2.2.1), ((sev_cells ((SPR.spl (SPR.drew HR.out)).get 1 rfl)).2.2.2.2.2.2.1), ((sev_cells ((SPR.spl (SPR.drew HR.out)).get 2 rfl)).1), ((sev_cells ((SPR.spl (SPR.drew HR.out)).get 2 rfl)).2.1), ((sev_cells ((SPR.spl (SPR.drew HR.out)).get 2 rfl)).2.2.1), ((sev_cells ((SPR.spl (SPR.drew HR.out)).get 2 rfl)).2.2.2.1), ((sev_cells ((SPR.spl (SPR.drew HR.out)).get 2 rfl)).2.2.2.2.1), ((sev_cells ((SPR.spl (SPR.drew HR.out)).get 2 rfl)).2.2.2.2.2.1), ((sev_cells ((SPR.spl (SPR.drew HR.out)).get 2 rfl)).2.2.2.2.2.2.1), (SPR.drew HR.out)⟩ (fun hHeld => ?_)
  refine pure_ (i := 0) (N := some 51) (v := ?_) (a' := ?_) #[true, false, false, false, false, false, false, false, false, false, false, false, false, false, false, false, false, false, false, false, false, false, false, false, false, false, false, false, false, false, false, false, false, false] rfl rfl (by kernel_rfl) (fun _ _ _ h => h) (Or.inl ⟨by rfl, ?_⟩) ?_ ?_
  rotate_left
  · intro w'
    go_simp
    with_reducible rfl
  rotate_left
  · simp only [Act.put, List.setIfInBounds_toArray, List.set_cons_zero, List.set_cons_succ, i64_w, i32_w]
    rfl
  refine take_ (i := 1) (N := some 52) (v := ?_) (a' := ?_) #[true, true, false, false, false, false, false, false, false, false, false, false, false, false, false, false, false, false, false, false, false, false, false, false, false, false, false, false, false, false, false, false, false, false] rfl rfl (by kernel_rfl) (fun _ _ _ h => h) (Or.inl ⟨by rfl, ?_⟩) hHeld ?_ ?_
  rotate_left
  · rintro w' ⟨s0, s1, s2, s3, s4, s5, s6, s7, s8, s9, s10, s11, s12, s13, s14, s15, s16, s17, s18, s19, s20⟩
    go_simp
    with_reducible rfl
  rotate_left
  · simp only [Act.put, List.setIfInBounds_toArray, List.set_cons_zero, List.set_cons_succ, i64_w, i32_w]
    rfl
  refine pure_ (i := 2) (N := some 53) (v := ?_) (a' := ?_) #[true, true, true, false, false, false, false, false, false, false, false, false, false, false, false, false, false, false, false, false, false, false, false, false, false, false, false, false, false, false, false, false, false, false] rfl rfl (by kernel_rfl) (fun _ _ _ h => h) (Or.inl ⟨by rfl, ?_⟩) ?_ ?_
  rotate_left
  · intro w'
    go_simp
    with_reducible rfl
  rotate_left
  · simp only [Act.put, List.setIfInBounds_toArray, List.set_cons_zero, List.set_cons_succ, i64_w, i32_w]
    rfl
  refine pure_ (i := 3) (N := some 54) (v := ?_) (a' := ?_) #[true, true, true, true, false, false, false, false, false, false, false, false, false, false, false, false, false, false, false, false, false, false, false, false, false, false, false, false, false, false, false, false, false, false] rfl rfl (by kernel_rfl) (fun _ _ _ h => h) (Or.inl ⟨by rfl, ?_⟩) ?_ ?_
  rotate_left
  · intro w'
    go_simp
    with_reducible rfl
  rotate_left
  · simp only [Act.put, List.setIfInBounds_toArray, List.set_cons_zero, List.set_cons_succ, i64_w, i32_w]
    rfl
  refine pure_ (i := 4) (N := some 55) (v := ?_) (a' := ?_) #[true, true, true, true, true, false, false, false, false, false, false, false, false, false, false, false, false, false, false, false, false, false, false, false, false, false, false, false, false, false, false, false, false, false] rfl rfl (by kernel_rfl) (fun _ _ _ h => h) (Or.inl ⟨by rfl, ?_⟩) ?_ ?_
  rotate_left
  · intro w'
    go_simp
    with_reducible rfl
  rotate_left
  · simp only [Act.put, List.setIfInBounds_toArray, List.set_cons_zero, List.set_cons_succ, i64_w, i32_w]
    rfl
  refine take_ (i := 5) (N := some 56) (v := ?_) (a' := ?_) #[true, true, true, true, true, true, false, false, false, false, false, false, false, false, false, false, false, false, false, false, false, false, false, false, false, false, false, false, false, false, false, false, false, false] rfl rfl (by kernel_rfl) (fun _ _ _ h => h) (Or.inl ⟨by rfl, ?_⟩) hHeld ?_ ?_
  rotate_left
  · rintro w' ⟨s0, s1, s2, s3, s4, s5, s6, s7, s8, s9, s10, s11, s12, s13, s14, s15, s16, s17, s18, s19, s20⟩
    go_simp
    with_reducible rfl
  rotate_left
  · simp only [Act.put, List.setIfInBounds_toArray, List.set_cons_zero, List.set_cons_succ, i64_w, i32_w]
    rfl
  refine pure_ (i := 6) (N := some 57) (v := ?_) (a' := ?_) #[true, true, true, true, true, true, true, false, false, false, false, false, false, false, false, false, false, false, false, false, false, false, false, false, false, false, false, false, false, false, false, false, false, false] rfl rfl (by kernel_rfl) (fun _ _ _ h => h) (Or.inl ⟨by rfl, ?_⟩) ?_ ?_
  rotate_left
  · intro w'
    go_simp
    with_reducible rfl
  rotate_left
  · simp only [Act.put, List.setIfInBounds_toArray, List.set_cons_zero, List.set_cons_succ, i64_w, i32_w]
    rfl
  refine pure_ (i := 7) (N := some 58) (v := ?_) (a' := ?_) #[true, true, true, true, true, true, true, true, false, false, false, false, false, false, false, false, false, false, false, false, false, false, false, false, false, false, false, false, false, false, false, false, false, false] rfl rfl (by kernel_rfl) (fun _ _ _ h => h) (Or.inl ⟨by rfl, ?_⟩) ?_ ?_
  rotate_left
  · intro w'
    go_simp
    with_reducible rfl
  rotate_left
  · simp only [Act.put, List.setIfInBounds_toArray, List.set_cons_zero, List.set_cons_succ, i64_w, i32_w]
    rfl
  refine pure_ (i := 8) (N := some 59) (v := ?_) (a' := ?_) #[true, true, true, true, true, true, true, true, true, false, false, false, false, false, false, false, false, false, false, false, false, false, false, false, false, false, false, false, false, false, false, false, false, false] rfl rfl (by kernel_rfl) (fun _ _ _ h => h) (Or.inl ⟨by rfl, ?_⟩) ?_ ?_
  rotate_left
  · intro w'
    go_simp
    with_reducible rfl
  rotate_left
  · simp only [Act.put, List.setIfInBounds_toArray, List.set_cons_zero, List.set_cons_succ, i64_w, i32_w]
    rfl
  refine pure_ (i := 10) (N := some 61) (v := ?_) (a' := ?_) #[true, true, true, true, true, true, true, true, true, false, true, false, false, false, false, false, false, false, false, false, false, false, false, false, false, false, false, false, false, false, false, false, false, false] rfl rfl (by kernel_rfl) (fun _ _ _ h => h) (Or.inl ⟨by rfl, ?_⟩) ?_ ?_
  rotate_left
  · intro w'
    go_simp
    with_reducible rfl
  rotate_left
  · simp only [Act.put, List.setIfInBounds_toArray, List.set_cons_zero, List.set_cons_succ, i64_w, i32_w]
    rfl
  refine pure_ (i := 11) (N := some 62) (v := ?_) (a' := ?_) #[true, true, true, true, true, true, true, true, true, false, true, true, false, false, false, false, false, false, false, false, false, false, false, false, false, false, false, false, false, false, false, false, false, false] rfl rfl (by kernel_rfl) (fun _ _ _ h => h) (Or.inl ⟨by rfl, ?_⟩) ?_ ?_
  rotate_left
  · intro w'
    go_simp
    with_reducible rfl
  rotate_left
  · simp only [Act.put, List.setIfInBounds_toArray, List.set_cons_zero, List.set_cons_succ, i64_w, i32_w]
    rfl
  refine take_ (i := 9) (N := some 60) (v := ?_) (a' := ?_) #[true, true, true, true, true, true, true, true, true, true, true, true, false, false, false, false, false, false, false, false, false, false, false, false, false, false, false, false, false, false, false, false, false, false] rfl rfl (by kernel_rfl) (fun _ _ _ h => h) (Or.inl ⟨by rfl, ?_⟩) hHeld ?_ ?_
  rotate_left
  · rintro w' ⟨s0, s1, s2, s3, s4, s5, s6, s7, s8, s9, s10, s11, s12, s13, s14, s15, s16, s17, s18, s19, s20⟩
    go_simp
    with_reducible rfl
  rotate_left
  · simp only [Act.put, List.setIfInBounds_toArray, List.set_cons_zero, List.set_cons_succ, i64_w, i32_w]
    rfl
  refine take_ (i := 13) (N := some 64) (v := ?_) (a' := ?_) #[true, true, true, true, true, true, true, true, true, true, true, true, false, true, false, false, false, false, false, false, false, false, false, false, false, false, false, false, false, false, false, false, false, false] rfl rfl (by kernel_rfl) (fun _ _ _ h => h) (Or.inl ⟨by rfl, ?_⟩) hHeld ?_ ?_
  rotate_left
  · rintro w' ⟨s0, s1, s2, s3, s4, s5, s6, s7, s8, s9, s10, s11, s12, s13, s14, s15, s16, s17, s18, s19, s20⟩
    go_simp
    with_reducible rfl
  rotate_left
  · simp only [Act.put, List.setIfInBounds_toArray, List.set_cons_zero, List.set_cons_succ, i64_w, i32_w]
    rfl
  refine one_ (i := 12) (N := some 63) #[true, true, true, true, true, true, true, true, true, true, true, true, true, true, false, false, false, false, false, false, false, false, false, false, false, false, false, false, false, false, false, false, false, false] rfl rfl (by kernel_rfl) (by decide) (fun K hK => ?_)
  refine goes_ Tryz.func33 (by kernel_rfl) rfl #[.agg #[.int .i64 x.f0, .int .i64 x.f1, .string x.f2, .slice A3 x.f3.length c3, .slice A4 x.f4.length c4, .slice A5 x.f5.length c5], .agg #[.int .i64 0, .int .i64 0, .string ⟨#[]⟩, .slice none 0 0, .slice none 0 0, .slice none 0 0], .agg #[.int .i64 0, .int .i64 0, .string ⟨#[]⟩, .slice none 0 0, .slice none 0 0, .slice none 0 0]] (by rfl) rfl rfl (by simp only [List.map_toArray, List.map_cons, List.map_nil]; rfl) ?_
  with_reducible refine ((HSC.out _ _ _ (hHeld.2.2.2.2.2.2.2.2.2.2.2.2.2.2.2.2.2.2.2.2))).mono ?_
  rintro e w21 ⟨cs, rfl, hz1⟩
  obtain ⟨B3z, d3z, B4z, d4z, B5z, d5z, rfl⟩ := hz1.cells 2 rfl
  refine ⟨_, rfl, ?_⟩
  have hz2 := SPR.cut hz1
  refine hK.out _ _ ⟨((six_cells ((SPR.spl hz2).get 0 rfl)).1), ((six_cells ((SPR.spl hz2).get 0 rfl)).2.1), ((six_cells ((SPR.spl hz2).get 0 rfl)).2.2.1), ((six_cells ((SPR.spl hz2).get 0 rfl)).2.2.2.1), ((six_cells ((SPR.spl hz2).get 0 rfl)).2.2.2.2.1), ((six_cells ((SPR.spl hz2).get 0 rfl)).2.2.2.2.2.1), ((sev_cells ((SPR.spl hz2).get 1 rfl)).1), ((sev_cells ((SPR.spl hz2).get 1 rfl)).2.1), ((sev_cells ((SPR.spl hz2).get 1 rfl)).2.2.1), ((sev_cells ((SPR.spl hz2).get 1 rfl)).2.2.2.1), ((sev_cells ((SPR.spl hz2).get 1 rfl)).2.2.2.2.1), ((sev_cells ((SPR.spl hz2).get 1 rfl)).2.2.2.2.2.1), ((sev_cells ((SPR.spl hz2).get 1 rfl)).2.2.2.2.2.2.1), ((sev_cells ((SPR.spl hz2).get 2 rfl)).1), ((sev_cells ((SPR.spl hz2).get 2 rfl)).2.1), ((sev_cells ((SPR.spl hz2).get 2 rfl)).2.2.1), ((sev_cells ((SPR.spl hz2).get 2 rfl)).2.2.2.1), ((sev_cells ((SPR.spl hz2).get 2 rfl)).2.2.2.2.1), ((sev_cells ((SPR.spl hz2).get 2 rfl)).2.2.2.2.2.1), ((sev_cells ((SPR.spl hz2).get 2 rfl)).2.2.2.2.2.2.1), hz2⟩ (fun hHeld => ?_)
  clear hK K
  refine norm_ (a' := ?_) ?_ ?_
  rotate_left
  · show Act.put _ (some 63) _ = _
    simp only [Act.put, List.setIfInBounds_toArray, List.set_cons_zero, List.set_cons_succ, i64_w, i32_w]
    rfl
  refine one_ (i := 14) (N := some 65) #[true, true, true, true, true, true, true, true, true, true, true, true, true, true, true, false, false, false, false, false, false, false, false, false, false, false, false, false, false, false, false, false, false, false] rfl rfl (by kernel_rfl) (by decide) (fun K hK => ?_)
  refine goes_ Tryz.func19 (by kernel_rfl) rfl #[.agg #[.int .i64 x3.f0, .int .i64 x3.f1, .string x3.f2, .slice B3z x3.f3.length d3z, .slice B4z x3.f4.length d4z, .slice B5z x3.f5.length d5z, .int .i64 0], .agg #[.int .i64 x.f0, .int .i64 x.f1, .string x.f2, .slice A3 x.f3.length c3, .slice A4 x.f4.length c4, .slice A5 x.f5.length c5]] (by rfl) rfl rfl (by simp only [List.map_toArray, List.map_cons, List.map_nil]; rfl) ?_
  with_reducible refine ((HG1.out _ hz1)).mono ?_
  rintro e w22 ⟨rfl, hb⟩
  refine ⟨_, rfl, ?_⟩
  have hz3 := SPR.below hz2 hb
  refine hK.out _ _ ⟨((six_cells ((SPR.spl hz3).get 0 rfl)).1), ((six_cells ((SPR.spl hz3).get 0 rfl)).2.1), ((six_cells ((SPR.spl hz3).get 0 rfl)).2.2.1), ((six_cells ((SPR.spl hz3).get 0 rfl)).2.2.2.1), ((six_cells ((SPR.spl hz3).get 0 rfl)).2.2.2.2.1), ((six_cells ((SPR.spl hz3).get 0 rfl)).2.2.2.2.2.1), ((sev_cells ((SPR.spl hz3).get 1 rfl)).1), ((sev_cells ((SPR.spl hz3).get 1 rfl)).2.1), ((sev_cells ((SPR.spl hz3).get 1 rfl)).2.2.1), ((sev_cells ((SPR.spl hz3).get 1 rfl)).2.2.2.1), ((sev_cells ((SPR.spl hz3).get 1 rfl)).2.2.2.2.1), ((sev_cells ((SPR.spl hz3).get 1 rfl)).2.2.2.2.2.1), ((sev_cells ((SPR.spl hz3).get 1 rfl)).2.2.2.2.2.2.1), ((sev_cells ((SPR.spl hz3).get 2 rfl)).1), ((sev_cells ((SPR.spl hz3).get 2 rfl)).2.1), ((sev_cells ((SPR.spl hz3).get 2 rfl)).2.2.1), ((sev_cells ((SPR.spl hz3).get 2 rfl)).2.2.2.1), ((sev_cells ((SPR.spl hz3).get 2 rfl)).2.2.2.2.1), ((sev_cells ((SPR.spl hz3).get 2 rfl)).2.2.2.2.2.1), ((sev_cells ((SPR.spl hz3).get 2 rfl)).2.2.2.2.2.2.1), hz3⟩ (fun hHeld => ?_)
  clear hK K
  refine norm_ (a' := ?_) ?_ ?_
  rotate_left
  · show Act.put _ (some 65) _ = _
    simp only [Act.put, List.setIfInBounds_toArray, List.set_cons_zero, List.set_cons_succ, i64_w, i32_w]
    rfl
  refine pure_ (i := 15) (N := some 66) (v := ?_) (a' := ?_) #[true, true, true, true, true, true, true, true, true, true, true, true, true, true, true, true, false, false, false, false, false, false, false, false, false, false, false, false, false, false, false, false, false, false] rfl rfl (by kernel_rfl) (fun _ _ _ h => h) (Or.inl ⟨by rfl, ?_⟩) ?_ ?_
  rotate_left
  · intro w'
    go_simp
    with_reducible rfl
  rotate_left
  · simp only [Act.put, List.setIfInBounds_toArray, List.set_cons_zero, List.set_cons_succ, i64_w, i32_w]
    rfl
  refine pure_ (i := 16) (N := some 67) (v := ?_) (a' := ?_) #[true, true, true, true, true, true, true, true, true, true, true, true, true, true, true, true, true, false, false, false, false, false, false, false, false, false, false, false, false, false, false, false, false, false] rfl rfl (by kernel_rfl) (fun _ _ _ h => h) (Or.inl ⟨by rfl, ?_⟩) ?_ ?_
  rotate_left
  · intro w'
    go_simp
    with_reducible rfl
  rotate_left
  · simp only [Act.put, List.setIfInBounds_toArray, List.set_cons_zero, List.set_cons_succ, i64_w, i32_w]
    rfl
  refine pure_ (i := 18) (N := some 69) (v := ?_) (a' := ?_) #[true, true, true, true, true, true, true, true, true, true, true, true, true, true, true, true, true, false, true, false, false, false, false, false, false, false, false, false, false, false, false, false, false, false] rfl rfl (by kernel_rfl) (fun _ _ _ h => h) (Or.inl ⟨by rfl, ?_⟩) ?_ ?_
  rotate_left
  · intro w'
    go_simp
    with_reducible rfl
  rotate_left
  · simp only [Act.put, List.setIfInBounds_toArray, List.set_cons_zero, List.set_cons_succ, i64_w, i32_w]
    rfl
  refine pure_ (i := 19) (N := some 70) (v := ?_) (a' := ?_) #[true, true, true, true, true, true, true, true, true, true, true, true, true, true, true, true, true, false, true, true, false, false, false, false, false, false, false, false, false, false, false, false, false, false] rfl rfl (by kernel_rfl) (fun _ _ _ h => h) (Or.inl ⟨by rfl, ?_⟩) ?_ ?_
  rotate_left
  · intro w'
    go_simp
    with_reducible rfl
  rotate_left
  · simp only [Act.put, List.setIfInBounds_toArray, List.set_cons_zero, List.set_cons_succ, i64_w, i32_w]
    rfl
  refine pure_ (i := 20) (N := some 71) (v := ?_) (a' := ?_) #[true, true, true, true, true, true, true, true, true, true, true, true, true, true, true, true, true, false, true, true, true, false, false, false, false, false, false, false, false, false, false, false, false, false] rfl rfl (by kernel_rfl) (fun _ _ _ h => h) (Or.inl ⟨by rfl, ?_⟩) ?_ ?_
  rotate_left
  · intro w'
    go_simp
    with_reducible rfl
  rotate_left
  · simp only [Act.put, List.setIfInBounds_toArray, List.set_cons_zero, List.set_cons_succ, i64_w, i32_w]
    rfl
  refine pure_ (i := 22) (N := some 73) (v := ?_) (a' := ?_) #[true, true, true, true, true, true, true, true, true, true, true, true, true, true, true, true, true, false, true, true, true, false, true, false, false, false, false, false, false, false, false, false, false, false] rfl rfl (by kernel_rfl) (fun _ _ _ h => h) (Or.inl ⟨by rfl, ?_⟩) ?_ ?_
  rotate_left
  · intro w'
    go_simp
    with_reducible rfl
  rotate_left
  · simp only [Act.put, List.setIfInBounds_toArray, List.set_cons_zero, List.set_cons_succ, i64_w, i32_w]
    rfl
  refine pure_ (i := 23) (N := some 74) (v := ?_) (a' := ?_) #[true, true, true, true, true, true, true, true, true, true, true, true, true, true, true, true, true, false, true, true, true, false, true, true, false, false, false, false, false, false, false, false, false, false] rfl rfl (by kernel_rfl) (fun _ _ _ h => h) (Or.inl ⟨by rfl, ?_⟩) ?_ ?_
  rotate_left
  · intro w'
    go_simp
    with_reducible rfl
  rotate_left
  · simp only [Act.put, List.setIfInBounds_toArray, List.set_cons_zero, List.set_cons_succ, i64_w, i32_w]
    rfl
  refine pure_ (i := 24) (N := some 75) (v := ?_) (a' := ?_) #[true, true, true, true, true, true, true, true, true, true, true, true, true, true, true, true, true, false, true, true, true, false, true, true, true, false, false, false, false, false, false, false, false, false] rfl rfl (by kernel_rfl) (fun _ _ _ h => h) (Or.inl ⟨by rfl, ?_⟩) ?_ ?_
  rotate_left
  · intro w'
    go_simp
    with_reducible rfl
  rotate_left
  · simp only [Act.put, List.setIfInBounds_toArray, List.set_cons_zero, List.set_cons_succ, i64_w, i32_w]
    rfl
  refine pure_ (i := 25) (N := some 76) (v := ?_) (a' := ?_) #[true, true, true, true, true, true, true, true, true, true, true, true, true, true, true, true, true, false, true, true, true, false, true, true, true, true, false, false, false, false, false, false, false, false] rfl rfl (by kernel_rfl) (fun _ _ _ h => h) (Or.inl ⟨by rfl, ?_⟩) ?_ ?_
  rotate_left
  · intro w'
    go_simp
    with_reducible rfl
  rotate_left
  · simp only [Act.put, List.setIfInBounds_toArray, List.set_cons_zero, List.set_cons_succ, i64_w, i32_w]
    rfl
  refine pure_ (i := 26) (N := some 77) (v := ?_) (a' := ?_) #[true, true, true, true, true, true, true, true, true, true, true, true, true, true, true, true, true, false, true, true, true, false, true, true, true, true, true, false, false, false, false, false, false, false] rfl rfl (by kernel_rfl) (fun _ _ _ h => h) (Or.inl ⟨by rfl, ?_⟩) ?_ ?_
  rotate_left
  · intro w'
    go_simp
    with_reducible rfl
  rotate_left
  · simp only [Act.put, List.setIfInBounds_toArray, List.set_cons_zero, List.set_cons_succ, i64_w, i32_w]
    rfl
  refine pure_ (i := 29) (N := some 80) (v := ?_) (a' := ?_) #[true, true, true, true, true, true, true, true, true, true, true, true, true, true, true, true, true, false, true, true, true, false, true, true, true, true, true, false, false, true, false, false, false, false] rfl rfl (by kernel_rfl) (fun _ _ _ h => h) (Or.inl ⟨by rfl, ?_⟩) ?_ ?_
  rotate_left
  · intro w'
    go_simp
    with_reducible rfl
  rotate_left
  · simp only [Act.put, List.setIfInBounds_toArray, List.set_cons_zero, List.set_cons_succ, i64_w, i32_w]
    rfl
  refine take_ (i := 17) (N := some 68) (v := ?_) (a' := ?_) #[true, true, true, true, true, true, true, true, true, true, true, true, true, true, true, true, true, true, true, true, true, false, true, true, true, true, true, false, false, true, false, false, false, false] rfl rfl (by kernel_rfl) (fun _ _ _ h => h) (Or.inl ⟨by rfl, ?_⟩) hHeld ?_ ?_
  rotate_left
  · rintro w' ⟨s0, s1, s2, s3, s4, s5, s6, s7, s8, s9, s10, s11, s12, s13, s14, s15, s16, s17, s18, s19, s20⟩
    go_simp
    with_reducible rfl
  rotate_left
  · simp only [Act.put, List.setIfInBounds_toArray, List.set_cons_zero, List.set_cons_succ, i64_w, i32_w]
    rfl
  refine take_ (i := 30) (N := some 81) (v := ?_) (a' := ?_) #[true, true, true, true, true, true, true, true, true, true, true, true, true, true, true, true, true, true, true, true, true, false, true, true, true, true, true, false, false, true, true, false, false, false] rfl rfl (by kernel_rfl) (fun _ _ _ h => h) (Or.inl ⟨by rfl, ?_⟩) hHeld ?_ ?_
  rotate_left
  · rintro w' ⟨s0, s1, s2, s3, s4, s5, s6, s7, s8, s9, s10, s11, s12, s13, s14, s15, s16, s17, s18, s19, s20⟩
    go_simp
    with_reducible rfl
  rotate_left
  · simp only [Act.put, List.setIfInBounds_toArray, List.set_cons_zero, List.set_cons_succ, i64_w, i32_w]
    rfl
  refine one_ (i := 21) (N := some 72) #[true, true, true, true, true, true, true, true, true, true, true, true, true, true, true, true, true, true, true, true, true, true, true, true, true, true, true, false, false, true, true, false, false, false] rfl rfl (by kernel_rfl) (by decide) (fun K hK => ?_)
  refine goes_ Tryz.func34 (by kernel_rfl) rfl #[.int .i64 (wrap64 (m1 + m2))] (by rfl) rfl rfl (by simp only [List.map_toArray, List.map_cons, List.map_nil]; rfl) ?_
  with_reducible refine ((HNd.out _)).mono ?_
  rintro e w23 ⟨rfl, hb⟩
  refine ⟨_, rfl, ?_⟩
  have hz4 := SPR.below hz3 hb
  refine hK.out _ _ ⟨((six_cells ((SPR.spl hz4).get 0 rfl)).1), ((six_cells ((SPR.spl hz4).get 0 rfl)).2.1), ((six_cells ((SPR.spl hz4).get 0 rfl)).2.2.1), ((six_cells ((SPR.spl hz4).get 0 rfl)).2.2.2.1), ((six_cells ((SPR.spl hz4).get 0 rfl)).2.2.2.2.1), ((six_cells ((SPR.spl hz4).get 0 rfl)).2.2.2.2.2.1), ((sev_cells ((SPR.spl hz4).get 1 rfl)).1), ((sev_cells ((SPR.spl hz4).get 1 rfl)).2.1), ((sev_cells ((SPR.spl hz4).get 1 rfl)).2.2.1), ((sev_cells ((SPR.spl hz4).get 1 rfl)).2.2.2.1), ((sev_cells ((SPR.spl hz4).get 1 rfl)).2.2.2.2.1), ((sev_cells ((SPR.spl hz4).get 1 rfl)).2.2.2.2.2.1), ((sev_cells ((SPR.spl hz4).get 1 rfl)).2.2.2.2.2.2.1), ((sev_cells ((SPR.spl hz4).get 2 rfl)).1), ((sev_cells ((SPR.spl hz4).get 2 rfl)).2.1), ((sev_cells ((SPR.spl hz4).get 2 rfl)).2.2.1), ((sev_cells ((SPR.spl hz4).get 2 rfl)).2.2.2.1), ((sev_cells ((SPR.spl hz4).get 2 rfl)).2.2.2.2.1), ((sev_cells ((SPR.spl hz4).get 2 rfl)).2.2.2.2.2.1), ((sev_cells ((SPR.spl hz4).get 2 rfl)).2.2.2.2.2.2.1), hz4⟩ (fun hHeld => ?_)
  clear hK K
  refine norm_ (a' := ?_) ?_ ?_
  rotate_left
  · show Act.put _ (some 72) _ = _
    simp only [Act.put, List.setIfInBounds_toArray, List.set_cons_zero, List.set_cons_succ, i64_w, i32_w]
    rfl
  refine one_ (i := 27) (N := some 78) #[true, true, true, true, true, true, true, true, true, true, true, true, true, true, true, true, true, true, true, true, true, true, true, true, true, true, true, true, false, true, true, false, false, false] rfl rfl (by kernel_rfl) (by decide) (fun K hK => ?_)
  refine goes_ Tryz.func34 (by kernel_rfl) rfl #[.int .i64 (wrap64 (wrap64 (m1 + m2) + m3))] (by rfl) rfl rfl (by simp only [List.map_toArray, List.map_cons, List.map_nil]; rfl) ?_
  with_reducible refine ((HNe.out _)).mono ?_
  rintro e w24 ⟨rfl, hb⟩
  refine ⟨_, rfl, ?_⟩
  have hz5 := SPR.below hz4 hb
  refine hK.out _ _ ⟨((six_cells ((SPR.spl hz5).get 0 rfl)).1), ((six_cells ((SPR.spl hz5).get 0 rfl)).2.1), ((six_cells ((SPR.spl hz5).get 0 rfl)).2.2.1), ((six_cells ((SPR.spl hz5).get 0 rfl)).2.2.2.1), ((six_cells ((SPR.spl hz5).get 0 rfl)).2.2.2.2.1), ((six_cells ((SPR.spl hz5).get 0 rfl)).2.2.2.2.2.1), ((sev_cells ((SPR.spl hz5).get 1 rfl)).1), ((sev_cells ((SPR.spl hz5).get 1 rfl)).2.1), ((sev_cells ((SPR.spl hz5).get 1 rfl)).2.2.1), ((sev_cells ((SPR.spl hz5).get 1 rfl)).2.2.2.1), ((sev_cells ((SPR.spl hz5).get 1 rfl)).2.2.2.2.1), ((sev_cells ((SPR.spl hz5).get 1 rfl)).2.2.2.2.2.1), ((sev_cells ((SPR.spl hz5).get 1 rfl)).2.2.2.2.2.2.1), ((sev_cells ((SPR.spl hz5).get 2 rfl)).1), ((sev_cells ((SPR.spl hz5).get 2 rfl)).2.1), ((sev_cells ((SPR.spl hz5).get 2 rfl)).2.2.1), ((sev_cells ((SPR.spl hz5).get 2 rfl)).2.2.2.1), ((sev_cells ((SPR.spl hz5).get 2 rfl)).2.2.2.2.1), ((sev_cells ((SPR.spl hz5).get 2 rfl)).2.2.2.2.2.1), ((sev_cells ((SPR.spl hz5).get 2 rfl)).2.2.2.2.2.2.1), hz5⟩ (fun hHeld => ?_)
  clear hK K
  refine norm_ (a' := ?_) ?_ ?_
  rotate_left
  · show Act.put _ (some 78) _ = _
    simp only [Act.put, List.setIfInBounds_toArray, List.set_cons_zero, List.set_cons_succ, i64_w, i32_w]
    rfl
  refine one_ (i := 28) (N := some 79) #[true, true, true, true, true, true, true, true, true, true, true, true, true, true, true, true, true, true, true, true, true, true, true, true, true, true, true, true, true, true, true, false, false, false] rfl rfl (by kernel_rfl) (by decide) (fun K hK => ?_)
  refine goes_ Tryz.func33 (by kernel_rfl) rfl #[.agg #[.int .i64 x.f0, .int .i64 x.f1, .string x.f2, .slice A3 x.f3.length c3, .slice A4 x.f4.length c4, .slice A5 x.f5.length c5], .agg #[.int .i64 3, .int .i64 (2 * (m1 + m2)), .string ⟨#[]⟩, .slice none 0 0, .slice none 0 0, .slice none 0 0], .agg #[.int .i64 3, .int .i64 (2 * (m1 + m2 + m3)), .string ⟨#[]⟩, .slice none 0 0, .slice none 0 0, .slice none 0 0]] (by rfl) rfl rfl (by simp only [List.map_toArray, List.map_cons, List.map_nil]; rfl) ?_
  with_reducible refine ((HSD.out _ _ _ hz5)).mono ?_
  rintro e w25 ⟨cs, rfl, hz6⟩
  obtain ⟨B3t, d3t, B4t, d4t, B5t, d5t, rfl⟩ := hz6.cells 2 rfl
  refine ⟨_, rfl, ?_⟩
  have hz7 := SPR.cut hz6
  refine hK.out _ _ ⟨((six_cells ((SPR.spl hz7).get 0 rfl)).1), ((six_cells ((SPR.spl hz7).get 0 rfl)).2.1), ((six_cells ((SPR.spl hz7).get 0 rfl)).2.2.1), ((six_cells ((SPR.spl hz7).get 0 rfl)).2.2.2.1), ((six_cells ((SPR.spl hz7).get 0 rfl)).2.2.2.2.1), ((six_cells ((SPR.spl hz7).get 0 rfl)).2.2.2.2.2.1), ((sev_cells ((SPR.spl hz7).get 1 rfl)).1), ((sev_cells ((SPR.spl hz7).get 1 rfl)).2.1), ((sev_cells ((SPR.spl hz7).get 1 rfl)).2.2.1), ((sev_cells ((SPR.spl hz7).get 1 rfl)).2.2.2.1), ((sev_cells ((SPR.spl hz7).get 1 rfl)).2.2.2.2.1), ((sev_cells ((SPR.spl hz7).get 1 rfl)).2.2.2.2.2.1), ((sev_cells ((SPR.spl hz7).get 1 rfl)).2.2.2.2.2.2.1), ((sev_cells ((SPR.spl hz7).get 2 rfl)).1), ((sev_cells ((SPR.spl hz7).get 2 rfl)).2.1), ((sev_cells ((SPR.spl hz7).get 2 rfl)).2.2.1), ((sev_cells ((SPR.spl hz7).get 2 rfl)).2.2.2.1), ((sev_cells ((SPR.spl hz7).get 2 rfl)).2.2.2.2.1), ((sev_cells ((SPR.spl hz7).get 2 rfl)).2.2.2.2.2.1), ((sev_cells ((SPR.spl hz7).get 2 rfl)).2.2.2.2.2.2.1), hz7⟩ (fun hHeld => ?_)
  clear hK K
  refine norm_ (a' := ?_) ?_ ?_
  rotate_left
  · show Act.put _ (some 79) _ = _
    simp only [Act.put, List.setIfInBounds_toArray, List.set_cons_zero, List.set_cons_succ, i64_w, i32_w]
    rfl
  refine one_ (i := 31) (N := some 82) #[true, true, true, true, true, true, true, true, true, true, true, true, true, true, true, true, true, true, true, true, true, true, true, true, true, true, true, true, true, true, true, true, false, false] rfl rfl (by kernel_rfl) (by decide) (fun K hK => ?_)
  refine goes_ Tryz.func19 (by kernel_rfl) rfl #[.agg #[.int .i64 x4.f0, .int .i64 x4.f1, .string x4.f2, .slice B3t x4.f3.length d3t, .slice B4t x4.f4.length d4t, .slice B5t x4.f5.length d5t, .int .i64 0], .agg #[.int .i64 x2.f0, .int .i64 x2.f1, .string x2.f2, .slice B3y x2.f3.length d3y, .slice B4y x2.f4.length d4y, .slice B5y x2.f5.length d5y]] (by rfl) rfl rfl (by simp only [List.map_toArray, List.map_cons, List.map_nil]; rfl) ?_
  with_reducible refine ((HG2.out _ hz6)).mono ?_
  rintro e w26 ⟨rfl, hb⟩
  refine ⟨_, rfl, ?_⟩
  have hz8 := SPR.below hz7 hb
  refine hK.out _ _ ⟨((six_cells ((SPR.spl hz8).get 0 rfl)).1), ((six_cells ((SPR.spl hz8).get 0 rfl)).2.1), ((six_cells ((SPR.spl hz8).get 0 rfl)).2.2.1), ((six_cells ((SPR.spl hz8).get 0 rfl)).2.2.2.1), ((six_cells ((SPR.spl hz8).get 0 rfl)).2.2.2.2.1), ((six_cells ((SPR.spl hz8).get 0 rfl)).2.2.2.2.2.1), ((sev_cells ((SPR.spl hz8).get 1 rfl)).1), ((sev_cells ((SPR.spl hz8).get 1 rfl)).2.1), ((sev_cells ((SPR.spl hz8).get 1 rfl)).2.2.1), ((sev_cells ((SPR.spl hz8).get 1 rfl)).2.2.2.1), ((sev_cells ((SPR.spl hz8).get 1 rfl)).2.2.2.2.1), ((sev_cells ((SPR.spl hz8).get 1 rfl)).2.2.2.2.2.1), ((sev_cells ((SPR.spl hz8).get 1 rfl)).2.2.2.2.2.2.1), ((sev_cells ((SPR.spl hz8).get 2 rfl)).1), ((sev_cells ((SPR.spl hz8).get 2 rfl)).2.1), ((sev_cells ((SPR.spl hz8).get 2 rfl)).2.2.1), ((sev_cells ((SPR.spl hz8).get 2 rfl)).2.2.2.1), ((sev_cells ((SPR.spl hz8).get 2 rfl)).2.2.2.2.1), ((sev_cells ((SPR.spl hz8).get 2 rfl)).2.2.2.2.2.1), ((sev_cells ((SPR.spl hz8).get 2 rfl)).2.2.2.2.2.2.1), hz8⟩ (fun hHeld => ?_)
  clear hK K
  refine norm_ (a' := ?_) ?_ ?_
  rotate_left
  · show Act.put _ (some 82) _ = _
    simp only [Act.put, List.setIfInBounds_toArray, List.set_cons_zero, List.set_cons_succ, i64_w, i32_w]
    rfl
  refine pure_ (i := 32) (N := some 83) (v := ?_) (a' := ?_) #[true, true, true, true, true, true, true, true, true, true, true, true, true, true, true, true, true, true, true, true, true, true, true, true, true, true, true, true, true, true, true, true, true, false] rfl rfl (by kernel_rfl) (fun _ _ _ h => h) (Or.inl ⟨by rfl, ?_⟩) ?_ ?_
  rotate_left
  · intro w'
    go_simp
    with_reducible rfl
  rotate_left
  · simp only [Act.put, List.setIfInBounds_toArray, List.set_cons_zero, List.set_cons_succ, i64_w, i32_w]
    rfl
  refine pure_ (i := 33) (N := some 8) (v := ?_) (a' := ?_) #[true, true, true, true, true, true, true, true, true, true, true, true, true, true, true, true, true, true, true, true, true, true, true, true, true, true, true, true, true, true, true, true, true, true] rfl rfl (by kernel_rfl) (fun _ _ _ h => h) (Or.inl ⟨by rfl, ?_⟩) ?_ ?_
  rotate_left
  · intro w'
    go_simp
    with_reducible rfl
  rotate_left
  · simp only [Act.put, List.setIfInBounds_toArray, List.set_cons_zero, List.set_cons_succ, i64_w, i32_w]
    rfl
  refine done_ (by kernel_rfl) ?_
  go_wp2_with fail
  go_ret
  exact ⟨rfl, hz8.bel⟩
set_option maxRecDepth 100000 in
set_option maxHeartbeats 20000000 in
theorem fnSliceSteps_5 (w0 : World) (hE : Env w0) (x : V) (hz : Sz x) (K H : Int) (s : ByteArray) (A3 A4 A5 : Option Addr) (n3 c3 n4 c4 n5 c5 : Nat) (hK : k26.K w0 x [.int .i64 K, .int .i64 H, .string s, .slice A3 n3 c3, .slice A4 n4 c4, .slice A5 n5 c5]) (m1 : Int) (zm1 : (Lit.int .u8 m1).wf = true) (m2 : Int) (zm2 : (Lit.int .u8 m2).wf = true) (m3 : Int) (zm3 : (Lit.int .u8 m3).wf = true) (hk : x.f0 = 5) :
    Calls Tryz.prog 9 #[.agg #[.int .i64 K, .int .i64 H, .string s, .slice A3 n3 c3, .slice A4 n4 c4, .slice A5 n5 c5], .int .u8 m1, .int .u8 m2, .int .u8 m3] w0 fun e w' => e = .returned (.bool true) ∧ Below w0.heap.size w0 w' := by
  have HKX := Lib.hid hk
  clear hk
  obtain ⟨w, hw⟩ : ∃ w, w = w0 := ⟨_, rfl⟩
  obtain ⟨B3, e3, B4, e4, B5, e5, he, l3, g3, l4, g4, l5, g5⟩ := k26_open hK
  simp only [List.cons.injEq, Value.int.injEq, Value.string.injEq, Value.slice.injEq, true_and, and_true] at he
  obtain ⟨rfl, rfl, rfl, ⟨rfl, rfl, rfl⟩, ⟨rfl, rfl, rfl⟩, ⟨rfl, rfl, rfl⟩⟩ := he
  clear l3 g3 l4 g4 l5 g5
  have bm1 := u8_in zm1
  have bm2 := u8_in zm2
  have bm3 := u8_in zm3
  clear zm1 zm2 zm3
  have HZ := Lib.hid hz
  have HF1 := Lib.hid (fun w1 hb => fits1_size w0 x x.f0 x.f1 x.f2 A3 A4 A5 x.f3.length c3 x.f4.length c4 x.f5.length c5 hK w1 hb)
  have HF := Lib.hid (fun w1 g (hg : g = w1.heap.size) hb => fits_at w0 hE hz hK w1 g hg hb)
  have HT := Lib.hid (fun h => toGo_any w0 _ x (Nat.lt_succ_self _) hz h _ hK)
  have HNU := Lib.hid (fun n w => number_any n w)
  have HKW := Lib.hid hK
  clear hE hz hK
  subst hw
  go_enter Tryz.func9, Tryz.ntmps9
  go_wp2_with fail
  obtain ⟨V, hV⟩ : ∃ V, V = w.heap.size := ⟨_, rfl⟩
  obtain ⟨W0, hW0⟩ : ∃ W0, W0 = w.alloc (.cells #[.int .i64 x.f0, .int .i64 x.f1, .string x.f2, .slice A3 x.f3.length c3, .slice A4 x.f4.length c4, .slice A5 x.f5.length c5] 26) := ⟨_, rfl⟩
  have hS0 : SPR w [(V, cv x A3 c3 A4 c4 A5 c5, 26)] [] W0 := by rw [hV, hW0]; exact (spr0 (Below.refl _ w)).more _ _
  rw [← hW0]
  try rw [← hV]
  have H0 := Lib.hid hS0
  clear hS0 hW0 hV
  have y := six_cells (H0.out.get 0 rfl)
  try go_wp2_with fail
  refine (HF1.out W0 H0.out.bel).mono ?_
  rintro e w1 ⟨r, rfl, hr, hb⟩
  have H1 := Lib.hid (H0.out.below hb)
  clear hb H0 y HF1
  cases r with
  | false =>
    go_wp2_with fail
    go_ret
    exact ⟨rfl, H1.out.bel⟩
  | true =>
  have SZ := Lib.hid (hr (by trivial))
  clear hr
  have y := six_cells (H1.out.get 0 rfl)
  go_wp2_with fail
  refine (HF.out w1 _ rfl H1.out.bel).mono ?_
  rintro e w2 ⟨r, rfl, hr, hb⟩
  have H2 := Lib.hid (((H1.out.more _ _).below hb).tk 1 0)
  clear hb H1 HF y
  have ya := six_cells (H2.out.get 0 rfl)
  cases r with
  | false =>
    go_wp2_with fail
    go_ret
    exact ⟨rfl, H2.out.bel⟩
  | true =>
  have HW := Lib.hid (hr (by trivial))
  clear hr
  have hk : x.f0 = 4 ∨ x.f0 = 5 := Or.inr HKX.out
  have q3 : (x.f0 != 5) = false := by rw [HKX.out]; rfl
  have HT := Lib.hid (HT.out (loose HW.out))
  have HWL := Lib.hid (loose HW.out)
  have HKK := Lib.hid hk
  obtain ⟨x1, hx1⟩ : ∃ x1, x1 = slV x (some m1) none := ⟨_, rfl⟩
  obtain ⟨x2, hx2⟩ : ∃ x2, x2 = slV x1 (some m2) (some (m2 + m3)) := ⟨_, rfl⟩
  obtain ⟨x3, hx3⟩ : ∃ x3, x3 = slV x none none := ⟨_, rfl⟩
  obtain ⟨x4, hx4⟩ : ∃ x4, x4 = slV x (some (m1 + m2)) (some (m1 + m2 + m3)) := ⟨_, rfl⟩
  have HX1 : Hid (WL x1 ∧ Sz x1 ∧ (x1.f0 = 4 ∨ x1.f0 = 5) ∧ x1.f2.size ≤ 2147483647) := Lib.hid (by rw [hx1]; exact ⟨part_wl HWL.out _ _, part_sz HZ.out _ _, by unfold slV; rw [part_f0 hk]; exact hk, part_size _ _ _ SZ.out⟩)
  have HX2 : Hid (WL x2 ∧ Sz x2) := Lib.hid (by rw [hx2]; exact ⟨part_wl HX1.out.1 _ _, part_sz HX1.out.2.1 _ _⟩)
  have HX3 : Hid (x3 = x) := Lib.hid (by rw [hx3]; exact part_all HWL.out hk)
  have HX4 : Hid (x4 = x2) := Lib.hid (by rw [hx4, hx2, hx1]; exact (slice_slice hk bm1.1 bm2.1 bm3.1).symm)
  have HSA : Hid (∀ L rs w1, SPR w L rs w1 → Calls Tryz.prog 33 #[.agg #[.int .i64 x.f0, .int .i64 x.f1, .string x.f2, .slice A3 x.f3.length c3, .slice A4 x.f4.length c4, .slice A5 x.f5.length c5], .agg #[.int .i64 3, .int .i64 (2 * m1), .string ⟨#[]⟩, .slice none 0 0, .slice none 0 0, .slice none 0 0], .agg #[.int .i64 0, .int .i64 0, .string ⟨#[]⟩, .slice none 0 0, .slice none 0 0, .slice none 0 0]] w1 fun e w' => ∃ cs, e = .returned (.agg cs) ∧ SPR w L (rs ++ [(x1, cs)]) w') := Lib.hid (by
    intro L rs w1 h
    rw [hx1]
    exact slice_resV w HT.out HWL.out HZ.out hk SZ.out (some m1) none (tiny_some (by omega) (by omega)) tiny_none h h.bel)
  have HSC : Hid (∀ L rs w1, SPR w L rs w1 → Calls Tryz.prog 33 #[.agg #[.int .i64 x.f0, .int .i64 x.f1, .string x.f2, .slice A3 x.f3.length c3, .slice A4 x.f4.length c4, .slice A5 x.f5.length c5], .agg #[.int .i64 0, .int .i64 0, .string ⟨#[]⟩, .slice none 0 0, .slice none 0 0, .slice none 0 0], .agg #[.int .i64 0, .int .i64 0, .string ⟨#[]⟩, .slice none 0 0, .slice none 0 0, .slice none 0 0]] w1 fun e w' => ∃ cs, e = .returned (.agg cs) ∧ SPR w L (rs ++ [(x3, cs)]) w') := Lib.hid (by
    intro L rs w1 h
    rw [hx3]
    exact slice_resV w HT.out HWL.out HZ.out hk SZ.out none none tiny_none tiny_none h h.bel)
  have HSD : Hid (∀ L rs w1, SPR w L rs w1 → Calls Tryz.prog 33 #[.agg #[.int .i64 x.f0, .int .i64 x.f1, .string x.f2, .slice A3 x.f3.length c3, .slice A4 x.f4.length c4, .slice A5 x.f5.length c5], .agg #[.int .i64 3, .int .i64 (2 * (m1 + m2)), .string ⟨#[]⟩, .slice none 0 0, .slice none 0 0, .slice none 0 0], .agg #[.int .i64 3, .int .i64 (2 * (m1 + m2 + m3)), .string ⟨#[]⟩, .slice none 0 0, .slice none 0 0, .slice none 0 0]] w1 fun e w' => ∃ cs, e = .returned (.agg cs) ∧ SPR w L (rs ++ [(x4, cs)]) w') := Lib.hid (by
    intro L rs w1 h
    rw [hx4]
    exact slice_resV w HT.out HWL.out HZ.out hk SZ.out (some (m1 + m2)) (some (m1 + m2 + m3)) (tiny_some (by omega) (by omega)) (tiny_some (by omega) (by omega)) h h.bel)
  have HSB : Hid (∀ L rs w1, SPR w L rs w1 → ∀ {B3 B4 B5 : Option Addr} {d3 d4 d5 : Nat} (i : Nat), rs[i]? = some (x1, #[.int .i64 x1.f0, .int .i64 x1.f1, .string x1.f2, .slice B3 x1.f3.length d3, .slice B4 x1.f4.length d4, .slice B5 x1.f5.length d5, .int .i64 0]) → Calls Tryz.prog 33 #[.agg #[.int .i64 x1.f0, .int .i64 x1.f1, .string x1.f2, .slice B3 x1.f3.length d3, .slice B4 x1.f4.length d4, .slice B5 x1.f5.length d5], .agg #[.int .i64 3, .int .i64 (2 * m2), .string ⟨#[]⟩, .slice none 0 0, .slice none 0 0, .slice none 0 0], .agg #[.int .i64 3, .int .i64 (2 * (m2 + m3)), .string ⟨#[]⟩, .slice none 0 0, .slice none 0 0, .slice none 0 0]] w1 fun e w' => ∃ cs, e = .returned (.agg cs) ∧ SPR w L (rs ++ [(x2, cs)]) w') := Lib.hid (by
    intro L rs w1 h B3 B4 B5 d3 d4 d5 i hi
    rw [hx2]
    exact slice_resV w1 (h.toGo i hi HX1.out.1 HX1.out.2.1) HX1.out.1 HX1.out.2.1 HX1.out.2.2.1 HX1.out.2.2.2 (some m2) (some (m2 + m3)) (tiny_some (by omega) (by omega)) (tiny_some (by omega) (by omega)) h (Below.refl _ _))
  have HN : Hid (∀ m w1, m = m1 ∨ m = m2 ∨ m = m2 + m3 ∨ m = m1 + m2 ∨ m = m1 + m2 + m3 → Calls Tryz.prog 34 #[.int .i64 m] w1 fun e w' => e = .returned (.agg #[.int .i64 3, .int .i64 (2 * m), .string ⟨#[]⟩, .slice none 0 0, .slice none 0 0, .slice none 0 0]) ∧ Below w1.heap.size w1 w') := Lib.hid (by
    intro m w1 hm
    have h := number_any m w1
    rw [show wrap64 (2 * m) = 2 * m by unfold wrap64; omega] at h
    exact h)
  have HE : Hid (wrap64 m1 = m1 ∧ wrap64 m2 = m2 ∧ wrap64 m3 = m3 ∧ wrap64 (m2 + m3) = m2 + m3 ∧ wrap64 (m1 + m2) = m1 + m2 ∧ wrap64 (m1 + m2 + m3) = m1 + m2 + m3) := Lib.hid ⟨by unfold wrap64; omega, by unfold wrap64; omega, by unfold wrap64; omega, by unfold wrap64; omega, by unfold wrap64; omega, by unfold wrap64; omega⟩
  clear hx1 hx2 hx3 hx4 bm1 bm2 bm3 hk
  go_wp2_with fail
  simp only [HE.out.1, HE.out.2.1, HE.out.2.2.1]
  have HNa : Hid (∀ w1, Calls Tryz.prog 34 #[.int .i64 (m1)] w1 fun e w' => e = .returned (.agg #[.int .i64 3, .int .i64 (2 * m1), .string ⟨#[]⟩, .slice none 0 0, .slice none 0 0, .slice none 0 0]) ∧ Below w1.heap.size w1 w') := Lib.hid (by
    intro w1
    exact HN.out _ w1 (by omega))
  have HNb : Hid (∀ w1, Calls Tryz.prog 34 #[.int .i64 (m2)] w1 fun e w' => e = .returned (.agg #[.int .i64 3, .int .i64 (2 * m2), .string ⟨#[]⟩, .slice none 0 0, .slice none 0 0, .slice none 0 0]) ∧ Below w1.heap.size w1 w') := Lib.hid (by
    intro w1
    exact HN.out _ w1 (by omega))
  have HNc : Hid (∀ w1, Calls Tryz.prog 34 #[.int .i64 (wrap64 (m2 + m3))] w1 fun e w' => e = .returned (.agg #[.int .i64 3, .int .i64 (2 * (m2 + m3)), .string ⟨#[]⟩, .slice none 0 0, .slice none 0 0, .slice none 0 0]) ∧ Below w1.heap.size w1 w') := Lib.hid (by
    intro w1
    rw [HE.out.2.2.2.1]
    exact HN.out _ w1 (by omega))
  have HNd : Hid (∀ w1, Calls Tryz.prog 34 #[.int .i64 (wrap64 (m1 + m2))] w1 fun e w' => e = .returned (.agg #[.int .i64 3, .int .i64 (2 * (m1 + m2)), .string ⟨#[]⟩, .slice none 0 0, .slice none 0 0, .slice none 0 0]) ∧ Below w1.heap.size w1 w') := Lib.hid (by
    intro w1
    rw [HE.out.2.2.2.2.1]
    exact HN.out _ w1 (by omega))
  have HNe : Hid (∀ w1, Calls Tryz.prog 34 #[.int .i64 (wrap64 (wrap64 (m1 + m2) + m3))] w1 fun e w' => e = .returned (.agg #[.int .i64 3, .int .i64 (2 * (m1 + m2 + m3)), .string ⟨#[]⟩, .slice none 0 0, .slice none 0 0, .slice none 0 0]) ∧ Below w1.heap.size w1 w') := Lib.hid (by
    intro w1
    rw [HE.out.2.2.2.2.1]
    rw [HE.out.2.2.2.2.2]
    exact HN.out _ w1 (by omega))
  have HSa : ∀ w', SPR w [(V, cv x A3 c3 A4 c4 A5 c5, 26)] [] w' → w'.cell? ⟨V, 0, none⟩ = some (.int .i64 x.f0) ∧ w'.cell? ⟨V, 1, none⟩ = some (.int .i64 x.f1) ∧ w'.cell? ⟨V, 2, none⟩ = some (.string x.f2) ∧ w'.cell? ⟨V, 3, none⟩ = some (.slice A3 x.f3.length c3) ∧ w'.cell? ⟨V, 4, none⟩ = some (.slice A4 x.f4.length c4) ∧ w'.cell? ⟨V, 5, none⟩ = some (.slice A5 x.f5.length c5) ∧ SPR w [(V, cv x A3 c3 A4 c4 A5 c5, 26)] [] w' := fun w' h => ⟨((six_cells ((SPR.spl h).get 0 rfl)).1), ((six_cells ((SPR.spl h).get 0 rfl)).2.1), ((six_cells ((SPR.spl h).get 0 rfl)).2.2.1), ((six_cells ((SPR.spl h).get 0 rfl)).2.2.2.1), ((six_cells ((SPR.spl h).get 0 rfl)).2.2.2.2.1), ((six_cells ((SPR.spl h).get 0 rfl)).2.2.2.2.2.1), h⟩
  refine start_ (n := 7) (S := fun w' => w'.cell? ⟨V, 0, none⟩ = some (.int .i64 x.f0) ∧ w'.cell? ⟨V, 1, none⟩ = some (.int .i64 x.f1) ∧ w'.cell? ⟨V, 2, none⟩ = some (.string x.f2) ∧ w'.cell? ⟨V, 3, none⟩ = some (.slice A3 x.f3.length c3) ∧ w'.cell? ⟨V, 4, none⟩ = some (.slice A4 x.f4.length c4) ∧ w'.cell? ⟨V, 5, none⟩ = some (.slice A5 x.f5.length c5) ∧ SPR w [(V, cv x A3 c3 A4 c4 A5 c5, 26)] [] w') (ds := []) #[false, false, false, false, false, false, false] (by kernel_rfl) rfl rfl (HSa _ (SPR.drew H2.out)) (fun hHeld => ?_)
  refine pure_ (i := 1) (N := some 38) (v := ?_) (a' := ?_) #[false, true, false, false, false, false, false] rfl rfl (by kernel_rfl) (fun _ _ _ h => h) (Or.inl ⟨by rfl, ?_⟩) ?_ ?_
  rotate_left
  · intro w'
    go_simp
    with_reducible rfl
  rotate_left
  · simp only [Act.put, List.setIfInBounds_toArray, List.set_cons_zero, List.set_cons_succ, i64_w, i32_w]
    rfl
  refine pure_ (i := 3) (N := some 40) (v := ?_) (a' := ?_) #[false, true, false, true, false, false, false] rfl rfl (by kernel_rfl) (fun _ _ _ h => h) (Or.inl ⟨by rfl, ?_⟩) ?_ ?_
  rotate_left
  · intro w'
    go_simp
    with_reducible rfl
  rotate_left
  · simp only [Act.put, List.setIfInBounds_toArray, List.set_cons_zero, List.set_cons_succ, i64_w, i32_w]
    rfl
  refine take_ (i := 0) (N := some 37) (v := ?_) (a' := ?_) #[true, true, false, true, false, false, false] rfl rfl (by kernel_rfl) (fun _ _ _ h => h) (Or.inl ⟨by rfl, ?_⟩) hHeld ?_ ?_
  rotate_left
  · rintro w' ⟨s0, s1, s2, s3, s4, s5, s6⟩
    go_simp
    with_reducible rfl
  rotate_left
  · simp only [Act.put, List.setIfInBounds_toArray, List.set_cons_zero, List.set_cons_succ, i64_w, i32_w]
    rfl
  refine join_ (σ := Nat × Array Value × Unit) 1 #[true, true, true, true, true, true, false] (fun s => [(39, .agg #[.int .i64 3, .int .i64 (2 * m1), .string ⟨#[]⟩, .slice none 0 0, .slice none 0 0, .slice none 0 0]), (41, .agg s.2.1), (12, .pointer (some ⟨s.1, 0, none⟩))]) (fun s w' => SPR w [(V, cv x A3 c3 A4 c4 A5 c5, 26), (s.1, z7, 30)] [(x1, s.2.1)] w') ?_ ?_
  rotate_left
  · intro hJ2_4_5
    refine join_ (σ := Array Value × Unit) 2 #[true, true, true, true, true, false, false] (fun s => [(39, .agg #[.int .i64 3, .int .i64 (2 * m1), .string ⟨#[]⟩, .slice none 0 0, .slice none 0 0, .slice none 0 0]), (41, .agg s.1)]) (fun s w' => SPR w [(V, cv x A3 c3 A4 c4 A5 c5, 26)] [(x1, s.1)] w') ?_ ?_
    rotate_left
    · intro hJ2_4
      refine join_ (σ := Nat × Unit) 2 #[true, true, true, true, false, true, false] (fun s => [(39, .agg #[.int .i64 3, .int .i64 (2 * m1), .string ⟨#[]⟩, .slice none 0 0, .slice none 0 0, .slice none 0 0]), (12, .pointer (some ⟨s.1, 0, none⟩))]) (fun s w' => SPR w [(V, cv x A3 c3 A4 c4 A5 c5, 26), (s.1, z7, 30)] [] w') ?_ ?_
      rotate_left
      · intro hJ2_5
        refine join_ (σ := Unit) 3 #[true, true, true, true, false, false, false] (fun s => [(39, .agg #[.int .i64 3, .int .i64 (2 * m1), .string ⟨#[]⟩, .slice none 0 0, .slice none 0 0, .slice none 0 0])]) (fun s w' => SPR w [(V, cv x A3 c3 A4 c4 A5 c5, 26)] [] w') ?_ ?_
        rotate_left
        · intro hJ2
          refine join_ (σ := Nat × Unit) 3 #[true, true, false, true, false, true, false] (fun s => [(12, .pointer (some ⟨s.1, 0, none⟩))]) (fun s w' => SPR w [(V, cv x A3 c3 A4 c4 A5 c5, 26), (s.1, z7, 30)] [] w') ?_ ?_
          rotate_left
          · intro hJ5
            refine two_ (i := 2) (j := 5) (Ni := some 39) (Nj := some 12) #[true, true, true, true, false, false, false] #[true, true, false, true, false, true, false] rfl rfl rfl rfl (by kernel_rfl) (by decide) (by decide) (fun K hK => ?_) (fun K hK => ?_)
            · skip
              refine goes_ Tryz.func34 (by kernel_rfl) rfl #[.int .i64 m1] (by rfl) rfl rfl (by simp only [List.map_toArray, List.map_cons, List.map_nil]; rfl) ?_
              with_reducible refine ((HNa.out _)).mono ?_
              rintro e wz ⟨rfl, hb⟩
              refine ⟨_, rfl, ?_⟩
              have hz := SPR.below (hHeld.2.2.2.2.2.2) hb
              have hzb : SPR w [(V, cv x A3 c3 A4 c4 A5 c5, 26)] [] wz := SPR.tk 1 0 hz
              refine hK.out _ _ (HSa _ hzb) (fun hHeld => ?_)
              clear hK K
              refine norm_ (a' := ?_) ?_ ?_
              rotate_left
              · show Act.put _ (some 39) _ = _
                simp only [Act.put, List.setIfInBounds_toArray, List.set_cons_zero, List.set_cons_succ, i64_w, i32_w]
                rfl
              exact norm_ (by first | (simp only [putAll, Act.put, List.setIfInBounds_toArray, List.set_cons_zero, List.set_cons_succ]; done) | (simp only [putAll, Act.put, List.setIfInBounds_toArray, List.set_cons_zero, List.set_cons_succ]; rfl)) (hJ2 (()) _ hz)
            · skip
              refine freshR_ (c := #[.int .i64 0, .int .i64 0, .string ⟨#[]⟩, .slice none 0 0, .slice none 0 0, .slice none 0 0, .int .i64 0]) (t := 30) (hHeld.2.2.2.2.2.2) (by rfl) rfl ?_ ?_
              · first | (go_simp; done) | (go_simp; rfl)
              intro Ra5 wz hz
              have hzb : SPR w [(V, cv x A3 c3 A4 c4 A5 c5, 26)] [] wz := SPR.tk 1 0 hz
              refine hK.out _ _ (HSa _ hzb) (fun hHeld => ?_)
              clear hK K
              refine norm_ (a' := ?_) ?_ ?_
              rotate_left
              · show Act.put _ (some 12) _ = _
                simp only [Act.put, List.setIfInBounds_toArray, List.set_cons_zero, List.set_cons_succ, i64_w, i32_w]
                rfl
              exact norm_ (by first | (simp only [putAll, Act.put, List.setIfInBounds_toArray, List.set_cons_zero, List.set_cons_succ]; done) | (simp only [putAll, Act.put, List.setIfInBounds_toArray, List.set_cons_zero, List.set_cons_succ]; rfl)) (hJ5 (Ra5, ()) _ hz)
          · skip
            rintro ⟨Ra5, _⟩ w' hF
            change SPR w [(V, cv x A3 c3 A4 c4 A5 c5, 26), (Ra5, z7, 30)] [] w' at hF
            have hFb : SPR w [(V, cv x A3 c3 A4 c4 A5 c5, 26)] [] w' := SPR.tk 1 0 hF
            have hHeld := HSa _ hFb
            clear hFb
            refine norm_ (a' := ?_) ?_ ?_
            rotate_left
            · simp only [putAll, Act.put, List.setIfInBounds_toArray, List.set_cons_zero, List.set_cons_succ]
              rfl
            refine one_ (i := 2) (N := some 39) #[true, true, true, true, false, true, false] rfl rfl (by kernel_rfl) (by decide) (fun K hK => ?_)
            refine goes_ Tryz.func34 (by kernel_rfl) rfl #[.int .i64 m1] (by rfl) rfl rfl (by simp only [List.map_toArray, List.map_cons, List.map_nil]; rfl) ?_
            with_reducible refine ((HNa.out _)).mono ?_
            rintro e wz ⟨rfl, hb⟩
            refine ⟨_, rfl, ?_⟩
            have hz := SPR.below (hF) hb
            have hzb : SPR w [(V, cv x A3 c3 A4 c4 A5 c5, 26)] [] wz := SPR.tk 1 0 hz
            refine hK.out _ _ (HSa _ hzb) (fun hHeld => ?_)
            clear hK K
            refine norm_ (a' := ?_) ?_ ?_
            rotate_left
            · show Act.put _ (some 39) _ = _
              simp only [Act.put, List.setIfInBounds_toArray, List.set_cons_zero, List.set_cons_succ, i64_w, i32_w]
              rfl
            exact norm_ (by first | (simp only [putAll, Act.put, List.setIfInBounds_toArray, List.set_cons_zero, List.set_cons_succ]; done) | (simp only [putAll, Act.put, List.setIfInBounds_toArray, List.set_cons_zero, List.set_cons_succ]; rfl)) (hJ2_5 (Ra5, ()) _ hz)
        · skip
          rintro ⟨_⟩ w' hF
          change SPR w [(V, cv x A3 c3 A4 c4 A5 c5, 26)] [] w' at hF
          have hFb : SPR w [(V, cv x A3 c3 A4 c4 A5 c5, 26)] [] w' := SPR.tk 1 0 hF
          have hHeld := HSa _ hFb
          clear hFb
          refine norm_ (a' := ?_) ?_ ?_
          rotate_left
          · simp only [putAll, Act.put, List.setIfInBounds_toArray, List.set_cons_zero, List.set_cons_succ]
            rfl
          refine two_ (i := 4) (j := 5) (Ni := some 41) (Nj := some 12) #[true, true, true, true, true, false, false] #[true, true, true, true, false, true, false] rfl rfl rfl rfl (by kernel_rfl) (by decide) (by decide) (fun K hK => ?_) (fun K hK => ?_)
          · skip
            refine goes_ Tryz.func33 (by kernel_rfl) rfl #[.agg #[.int .i64 x.f0, .int .i64 x.f1, .string x.f2, .slice A3 x.f3.length c3, .slice A4 x.f4.length c4, .slice A5 x.f5.length c5], .agg #[.int .i64 3, .int .i64 (2 * m1), .string ⟨#[]⟩, .slice none 0 0, .slice none 0 0, .slice none 0 0], .agg #[.int .i64 0, .int .i64 0, .string ⟨#[]⟩, .slice none 0 0, .slice none 0 0, .slice none 0 0]] (by rfl) rfl rfl (by simp only [List.map_toArray, List.map_cons, List.map_nil]; rfl) ?_
            with_reducible refine ((HSA.out _ _ _ (hF))).mono ?_
            rintro e wz ⟨u4, rfl, hz⟩
            refine ⟨_, rfl, ?_⟩
            have hzb : SPR w [(V, cv x A3 c3 A4 c4 A5 c5, 26)] [] wz := SPR.tk 1 0 hz
            refine hK.out _ _ (HSa _ hzb) (fun hHeld => ?_)
            clear hK K
            refine norm_ (a' := ?_) ?_ ?_
            rotate_left
            · show Act.put _ (some 41) _ = _
              simp only [Act.put, List.setIfInBounds_toArray, List.set_cons_zero, List.set_cons_succ, i64_w, i32_w]
              rfl
            exact norm_ (by first | (simp only [putAll, Act.put, List.setIfInBounds_toArray, List.set_cons_zero, List.set_cons_succ]; done) | (simp only [putAll, Act.put, List.setIfInBounds_toArray, List.set_cons_zero, List.set_cons_succ]; rfl)) (hJ2_4 (u4, ()) _ hz)
          · skip
            refine freshR_ (c := #[.int .i64 0, .int .i64 0, .string ⟨#[]⟩, .slice none 0 0, .slice none 0 0, .slice none 0 0, .int .i64 0]) (t := 30) (hF) (by rfl) rfl ?_ ?_
            · first | (go_simp; done) | (go_simp; rfl)
            intro Ra5 wz hz
            have hzb : SPR w [(V, cv x A3 c3 A4 c4 A5 c5, 26)] [] wz := SPR.tk 1 0 hz
            refine hK.out _ _ (HSa _ hzb) (fun hHeld => ?_)
            clear hK K
            refine norm_ (a' := ?_) ?_ ?_
            rotate_left
            · show Act.put _ (some 12) _ = _
              simp only [Act.put, List.setIfInBounds_toArray, List.set_cons_zero, List.set_cons_succ, i64_w, i32_w]
              rfl
            exact norm_ (by first | (simp only [putAll, Act.put, List.setIfInBounds_toArray, List.set_cons_zero, List.set_cons_succ]; done) | (simp only [putAll, Act.put, List.setIfInBounds_toArray, List.set_cons_zero, List.set_cons_succ]; rfl)) (hJ2_5 (Ra5, ()) _ hz)
      · skip
        rintro ⟨Ra5, _⟩ w' hF
        change SPR w [(V, cv x A3 c3 A4 c4 A5 c5, 26), (Ra5, z7, 30)] [] w' at hF
        have hFb : SPR w [(V, cv x A3 c3 A4 c4 A5 c5, 26)] [] w' := SPR.tk 1 0 hF
        have hHeld := HSa _ hFb
        clear hFb
        refine norm_ (a' := ?_) ?_ ?_
        rotate_left
        · simp only [putAll, Act.put, List.setIfInBounds_toArray, List.set_cons_zero, List.set_cons_succ]
          rfl
        refine one_ (i := 4) (N := some 41) #[true, true, true, true, true, true, false] rfl rfl (by kernel_rfl) (by decide) (fun K hK => ?_)
        refine goes_ Tryz.func33 (by kernel_rfl) rfl #[.agg #[.int .i64 x.f0, .int .i64 x.f1, .string x.f2, .slice A3 x.f3.length c3, .slice A4 x.f4.length c4, .slice A5 x.f5.length c5], .agg #[.int .i64 3, .int .i64 (2 * m1), .string ⟨#[]⟩, .slice none 0 0, .slice none 0 0, .slice none 0 0], .agg #[.int .i64 0, .int .i64 0, .string ⟨#[]⟩, .slice none 0 0, .slice none 0 0, .slice none 0 0]] (by rfl) rfl rfl (by simp only [List.map_toArray, List.map_cons, List.map_nil]; rfl) ?_
        with_reducible refine ((HSA.out _ _ _ (hF))).mono ?_
        rintro e wz ⟨u4, rfl, hz⟩
        refine ⟨_, rfl, ?_⟩
        have hzb : SPR w [(V, cv x A3 c3 A4 c4 A5 c5, 26)] [] wz := SPR.tk 1 0 hz
        refine hK.out _ _ (HSa _ hzb) (fun hHeld => ?_)
        clear hK K
        refine norm_ (a' := ?_) ?_ ?_
        rotate_left
        · show Act.put _ (some 41) _ = _
          simp only [Act.put, List.setIfInBounds_toArray, List.set_cons_zero, List.set_cons_succ, i64_w, i32_w]
          rfl
        exact norm_ (by first | (simp only [putAll, Act.put, List.setIfInBounds_toArray, List.set_cons_zero, List.set_cons_succ]; done) | (simp only [putAll, Act.put, List.setIfInBounds_toArray, List.set_cons_zero, List.set_cons_succ]; rfl)) (hJ2_4_5 (Ra5, u4, ()) _ hz)
    · skip
      rintro ⟨cz4, _⟩ w' hF
      change SPR w [(V, cv x A3 c3 A4 c4 A5 c5, 26)] [(x1, cz4)] w' at hF
      obtain ⟨B3x, d3x, B4x, d4x, B5x, d5x, rfl⟩ := hF.cells 0 rfl
      have hFb : SPR w [(V, cv x A3 c3 A4 c4 A5 c5, 26)] [] w' := SPR.tk 1 0 hF
      have hHeld := HSa _ hFb
      clear hFb
      refine norm_ (a' := ?_) ?_ ?_
      rotate_left
      · simp only [putAll, Act.put, List.setIfInBounds_toArray, List.set_cons_zero, List.set_cons_succ]
        rfl
      refine one_ (i := 5) (N := some 12) #[true, true, true, true, true, true, false] rfl rfl (by kernel_rfl) (by decide) (fun K hK => ?_)
      refine freshR_ (c := #[.int .i64 0, .int .i64 0, .string ⟨#[]⟩, .slice none 0 0, .slice none 0 0, .slice none 0 0, .int .i64 0]) (t := 30) (hF) (by rfl) rfl ?_ ?_
      · first | (go_simp; done) | (go_simp; rfl)
      intro Ra5 wz hz
      have hzb : SPR w [(V, cv x A3 c3 A4 c4 A5 c5, 26)] [] wz := SPR.tk 1 0 hz
      refine hK.out _ _ (HSa _ hzb) (fun hHeld => ?_)
      clear hK K
      refine norm_ (a' := ?_) ?_ ?_
      rotate_left
      · show Act.put _ (some 12) _ = _
        simp only [Act.put, List.setIfInBounds_toArray, List.set_cons_zero, List.set_cons_succ, i64_w, i32_w]
        rfl
      exact norm_ (by first | (simp only [putAll, Act.put, List.setIfInBounds_toArray, List.set_cons_zero, List.set_cons_succ]; done) | (simp only [putAll, Act.put, List.setIfInBounds_toArray, List.set_cons_zero, List.set_cons_succ]; rfl)) (hJ2_4_5 (Ra5, #[.int .i64 x1.f0, .int .i64 x1.f1, .string x1.f2, .slice B3x x1.f3.length d3x, .slice B4x x1.f4.length d4x, .slice B5x x1.f5.length d5x, .int .i64 0], ()) _ hz)
  rintro ⟨Ra5, cz4, _⟩ w' hF
  change SPR w [(V, cv x A3 c3 A4 c4 A5 c5, 26), (Ra5, z7, 30)] [(x1, cz4)] w' at hF
  obtain ⟨B3x, d3x, B4x, d4x, B5x, d5x, rfl⟩ := hF.cells 0 rfl
  have hFb : SPR w [(V, cv x A3 c3 A4 c4 A5 c5, 26)] [] w' := SPR.tk 1 0 hF
  have hHeld := HSa _ hFb
  clear hFb
  refine norm_ (a' := ?_) ?_ ?_
  rotate_left
  · simp only [putAll, Act.put, List.setIfInBounds_toArray, List.set_cons_zero, List.set_cons_succ]
    rfl
  refine one_ (i := 6) (N := none) #[true, true, true, true, true, true, true] rfl rfl (by kernel_rfl) (by decide) (fun K hK => ?_)
  obtain ⟨y0, y1, y2, y3, y4, y5, y6, f0, f1, f2, f3, f4, f5, f6⟩ := sev_cells (SPR.get hF 1 rfl)
  refine put7R_ (v0 := .int .i64 x1.f0) (v1 := .int .i64 x1.f1) (v2 := .string x1.f2) (v3 := .slice B3x x1.f3.length d3x) (v4 := .slice B4x x1.f4.length d4x) (v5 := .slice B5x x1.f5.length d5x) (v6 := .int .i64 0) hF 1 rfl (by rfl) rfl ?_ ?_
  · first | (go_simp; done) | (go_simp; rfl)
  clear y0 y1 y2 y3 y4 y5 y6 f0 f1 f2 f3 f4 f5 f6
  intro wsa0 hsa0
  change SPR w [(V, cv x A3 c3 A4 c4 A5 c5, 26), (Ra5, rc x1 B3x d3x B4x d4x B5x d5x, 30)] [(x1, rc x1 B3x d3x B4x d4x B5x d5x)] wsa0 at hsa0
  have hzb : SPR w [(V, cv x A3 c3 A4 c4 A5 c5, 26)] [] wsa0 := SPR.tk 1 0 hsa0
  refine hK.out _ _ (HSa _ hzb) (fun hHeld => ?_)
  clear hK K
  refine done_ (by kernel_rfl) ?_
  have HQ := Lib.hid hsa0
  clear hsa0 hF hHeld
  go_wp2_with fail
  have HSb : ∀ w', SPR w [(V, cv x A3 c3 A4 c4 A5 c5, 26), (Ra5, rc x1 B3x d3x B4x d4x B5x d5x, 30)] [(x1, rc x1 B3x d3x B4x d4x B5x d5x)] w' → w'.cell? ⟨V, 0, none⟩ = some (.int .i64 x.f0) ∧ w'.cell? ⟨V, 1, none⟩ = some (.int .i64 x.f1) ∧ w'.cell? ⟨V, 2, none⟩ = some (.string x.f2) ∧ w'.cell? ⟨V, 3, none⟩ = some (.slice A3 x.f3.length c3) ∧ w'.cell? ⟨V, 4, none⟩ = some (.slice A4 x.f4.length c4) ∧ w'.cell? ⟨V, 5, none⟩ = some (.slice A5 x.f5.length c5) ∧ w'.cell? ⟨Ra5, 0, none⟩ = some (.int .i64 x1.f0) ∧ w'.cell? ⟨Ra5, 1, none⟩ = some (.int .i64 x1.f1) ∧ w'.cell? ⟨Ra5, 2, none⟩ = some (.string x1.f2) ∧ w'.cell? ⟨Ra5, 3, none⟩ = some (.slice B3x x1.f3.length d3x) ∧ w'.cell? ⟨Ra5, 4, none⟩ = some (.slice B4x x1.f4.length d4x) ∧ w'.cell? ⟨Ra5, 5, none⟩ = some (.slice B5x x1.f5.length d5x) ∧ w'.cell? ⟨Ra5, 6, none⟩ = some (.int .i64 0) ∧ SPR w [(V, cv x A3 c3 A4 c4 A5 c5, 26), (Ra5, rc x1 B3x d3x B4x d4x B5x d5x, 30)] [(x1, rc x1 B3x d3x B4x d4x B5x d5x)] w' := fun w' h => ⟨((six_cells ((SPR.spl h).get 0 rfl)).1), ((six_cells ((SPR.spl h).get 0 rfl)).2.1), ((six_cells ((SPR.spl h).get 0 rfl)).2.2.1), ((six_cells ((SPR.spl h).get 0 rfl)).2.2.2.1), ((six_cells ((SPR.spl h).get 0 rfl)).2.2.2.2.1), ((six_cells ((SPR.spl h).get 0 rfl)).2.2.2.2.2.1), ((sev_cells ((SPR.spl h).get 1 rfl)).1), ((sev_cells ((SPR.spl h).get 1 rfl)).2.1), ((sev_cells ((SPR.spl h).get 1 rfl)).2.2.1), ((sev_cells ((SPR.spl h).get 1 rfl)).2.2.2.1), ((sev_cells ((SPR.spl h).get 1 rfl)).2.2.2.2.1), ((sev_cells ((SPR.spl h).get 1 rfl)).2.2.2.2.2.1), ((sev_cells ((SPR.spl h).get 1 rfl)).2.2.2.2.2.2.1), h⟩
  refine start_ (n := 11) (S := fun w' => w'.cell? ⟨V, 0, none⟩ = some (.int .i64 x.f0) ∧ w'.cell? ⟨V, 1, none⟩ = some (.int .i64 x.f1) ∧ w'.cell? ⟨V, 2, none⟩ = some (.string x.f2) ∧ w'.cell? ⟨V, 3, none⟩ = some (.slice A3 x.f3.length c3) ∧ w'.cell? ⟨V, 4, none⟩ = some (.slice A4 x.f4.length c4) ∧ w'.cell? ⟨V, 5, none⟩ = some (.slice A5 x.f5.length c5) ∧ w'.cell? ⟨Ra5, 0, none⟩ = some (.int .i64 x1.f0) ∧ w'.cell? ⟨Ra5, 1, none⟩ = some (.int .i64 x1.f1) ∧ w'.cell? ⟨Ra5, 2, none⟩ = some (.string x1.f2) ∧ w'.cell? ⟨Ra5, 3, none⟩ = some (.slice B3x x1.f3.length d3x) ∧ w'.cell? ⟨Ra5, 4, none⟩ = some (.slice B4x x1.f4.length d4x) ∧ w'.cell? ⟨Ra5, 5, none⟩ = some (.slice B5x x1.f5.length d5x) ∧ w'.cell? ⟨Ra5, 6, none⟩ = some (.int .i64 0) ∧ SPR w [(V, cv x A3 c3 A4 c4 A5 c5, 26), (Ra5, rc x1 B3x d3x B4x d4x B5x d5x, 30)] [(x1, rc x1 B3x d3x B4x d4x B5x d5x)] w') (ds := []) #[false, false, false, false, false, false, false, false, false, false, false] (by kernel_rfl) rfl rfl (HSb _ (SPR.drew HQ.out)) (fun hHeld => ?_)
  refine pure_ (i := 0) (N := some 42) (v := ?_) (a' := ?_) #[true, false, false, false, false, false, false, false, false, false, false] rfl rfl (by kernel_rfl) (fun _ _ _ h => h) (Or.inl ⟨by rfl, ?_⟩) ?_ ?_
  rotate_left
  · intro w'
    go_simp
    with_reducible rfl
  rotate_left
  · simp only [Act.put, List.setIfInBounds_toArray, List.set_cons_zero, List.set_cons_succ, i64_w, i32_w]
    rfl
  refine pure_ (i := 2) (N := some 44) (v := ?_) (a' := ?_) #[true, false, true, false, false, false, false, false, false, false, false] rfl rfl (by kernel_rfl) (fun _ _ _ h => h) (Or.inl ⟨by rfl, ?_⟩) ?_ ?_
  rotate_left
  · intro w'
    go_simp
    with_reducible rfl
  rotate_left
  · simp only [Act.put, List.setIfInBounds_toArray, List.set_cons_zero, List.set_cons_succ, i64_w, i32_w]
    rfl
  refine pure_ (i := 4) (N := some 46) (v := ?_) (a' := ?_) #[true, false, true, false, true, false, false, false, false, false, false] rfl rfl (by kernel_rfl) (fun _ _ _ h => h) (Or.inl ⟨by rfl, ?_⟩) ?_ ?_
  rotate_left
  · intro w'
    go_simp
    with_reducible rfl
  rotate_left
  · simp only [Act.put, List.setIfInBounds_toArray, List.set_cons_zero, List.set_cons_succ, i64_w, i32_w]
    rfl
  refine pure_ (i := 5) (N := some 47) (v := ?_) (a' := ?_) #[true, false, true, false, true, true, false, false, false, false, false] rfl rfl (by kernel_rfl) (fun _ _ _ h => h) (Or.inl ⟨by rfl, ?_⟩) ?_ ?_
  rotate_left
  · intro w'
    go_simp
    with_reducible rfl
  rotate_left
  · simp only [Act.put, List.setIfInBounds_toArray, List.set_cons_zero, List.set_cons_succ, i64_w, i32_w]
    rfl
  refine pure_ (i := 6) (N := some 48) (v := ?_) (a' := ?_) #[true, false, true, false, true, true, true, false, false, false, false] rfl rfl (by kernel_rfl) (fun _ _ _ h => h) (Or.inl ⟨by rfl, ?_⟩) ?_ ?_
  rotate_left
  · intro w'
    go_simp
    with_reducible rfl
  rotate_left
  · simp only [Act.put, List.setIfInBounds_toArray, List.set_cons_zero, List.set_cons_succ, i64_w, i32_w]
    rfl
  refine take_ (i := 1) (N := some 43) (v := ?_) (a' := ?_) #[true, true, true, false, true, true, true, false, false, false, false] rfl rfl (by kernel_rfl) (fun _ _ _ h => h) (Or.inl ⟨by rfl, ?_⟩) hHeld ?_ ?_
  rotate_left
  · rintro w' ⟨s0, s1, s2, s3, s4, s5, s6, s7, s8, s9, s10, s11, s12, s13⟩
    go_simp
    with_reducible rfl
  rotate_left
  · simp only [Act.put, List.setIfInBounds_toArray, List.set_cons_zero, List.set_cons_succ, i64_w, i32_w]
    rfl
  refine join_ (σ := Nat × Array Value × Unit) 1 #[true, true, true, true, true, true, true, true, true, true, false] (fun s => [(45, .agg #[.int .i64 3, .int .i64 (2 * m2), .string ⟨#[]⟩, .slice none 0 0, .slice none 0 0, .slice none 0 0]), (49, .agg #[.int .i64 3, .int .i64 (2 * (m2 + m3)), .string ⟨#[]⟩, .slice none 0 0, .slice none 0 0, .slice none 0 0]), (50, .agg s.2.1), (13, .pointer (some ⟨s.1, 0, none⟩))]) (fun s w' => SPR w [(V, cv x A3 c3 A4 c4 A5 c5, 26), (Ra5, rc x1 B3x d3x B4x d4x B5x d5x, 30), (s.1, z7, 30)] [(x1, rc x1 B3x d3x B4x d4x B5x d5x), (x2, s.2.1)] w') ?_ ?_
  rotate_left
  · intro hJ3_7_8_9
    refine join_ (σ := Array Value × Unit) 2 #[true, true, true, true, true, true, true, true, true, false, false] (fun s => [(45, .agg #[.int .i64 3, .int .i64 (2 * m2), .string ⟨#[]⟩, .slice none 0 0, .slice none 0 0, .slice none 0 0]), (49, .agg #[.int .i64 3, .int .i64 (2 * (m2 + m3)), .string ⟨#[]⟩, .slice none 0 0, .slice none 0 0, .slice none 0 0]), (50, .agg s.1)]) (fun s w' => SPR w [(V, cv x A3 c3 A4 c4 A5 c5, 26), (Ra5, rc x1 B3x d3x B4x d4x B5x d5x, 30)] [(x1, rc x1 B3x d3x B4x d4x B5x d5x), (x2, s.1)] w') ?_ ?_
    rotate_left
    · intro hJ3_7_8
      refine join_ (σ := Nat × Unit) 2 #[true, true, true, true, true, true, true, true, false, true, false] (fun s => [(45, .agg #[.int .i64 3, .int .i64 (2 * m2), .string ⟨#[]⟩, .slice none 0 0, .slice none 0 0, .slice none 0 0]), (49, .agg #[.int .i64 3, .int .i64 (2 * (m2 + m3)), .string ⟨#[]⟩, .slice none 0 0, .slice none 0 0, .slice none 0 0]), (13, .pointer (some ⟨s.1, 0, none⟩))]) (fun s w' => SPR w [(V, cv x A3 c3 A4 c4 A5 c5, 26), (Ra5, rc x1 B3x d3x B4x d4x B5x d5x, 30), (s.1, z7, 30)] [(x1, rc x1 B3x d3x B4x d4x B5x d5x)] w') ?_ ?_
      rotate_left
      · intro hJ3_7_9
        refine join_ (σ := Unit) 3 #[true, true, true, true, true, true, true, true, false, false, false] (fun s => [(45, .agg #[.int .i64 3, .int .i64 (2 * m2), .string ⟨#[]⟩, .slice none 0 0, .slice none 0 0, .slice none 0 0]), (49, .agg #[.int .i64 3, .int .i64 (2 * (m2 + m3)), .string ⟨#[]⟩, .slice none 0 0, .slice none 0 0, .slice none 0 0])]) (fun s w' => SPR w [(V, cv x A3 c3 A4 c4 A5 c5, 26), (Ra5, rc x1 B3x d3x B4x d4x B5x d5x, 30)] [(x1, rc x1 B3x d3x B4x d4x B5x d5x)] w') ?_ ?_
        rotate_left
        · intro hJ3_7
          refine join_ (σ := Nat × Unit) 3 #[true, true, true, true, true, true, true, false, false, true, false] (fun s => [(45, .agg #[.int .i64 3, .int .i64 (2 * m2), .string ⟨#[]⟩, .slice none 0 0, .slice none 0 0, .slice none 0 0]), (13, .pointer (some ⟨s.1, 0, none⟩))]) (fun s w' => SPR w [(V, cv x A3 c3 A4 c4 A5 c5, 26), (Ra5, rc x1 B3x d3x B4x d4x B5x d5x, 30), (s.1, z7, 30)] [(x1, rc x1 B3x d3x B4x d4x B5x d5x)] w') ?_ ?_
          rotate_left
          · intro hJ3_9
            refine join_ (σ := Unit) 4 #[true, true, true, true, true, true, true, false, false, false, false] (fun s => [(45, .agg #[.int .i64 3, .int .i64 (2 * m2), .string ⟨#[]⟩, .slice none 0 0, .slice none 0 0, .slice none 0 0])]) (fun s w' => SPR w [(V, cv x A3 c3 A4 c4 A5 c5, 26), (Ra5, rc x1 B3x d3x B4x d4x B5x d5x, 30)] [(x1, rc x1 B3x d3x B4x d4x B5x d5x)] w') ?_ ?_
            rotate_left
            · intro hJ3
              refine join_ (σ := Nat × Unit) 4 #[true, true, true, false, true, true, true, false, false, true, false] (fun s => [(13, .pointer (some ⟨s.1, 0, none⟩))]) (fun s w' => SPR w [(V, cv x A3 c3 A4 c4 A5 c5, 26), (Ra5, rc x1 B3x d3x B4x d4x B5x d5x, 30), (s.1, z7, 30)] [(x1, rc x1 B3x d3x B4x d4x B5x d5x)] w') ?_ ?_
              rotate_left
              · intro hJ9
                refine two_ (i := 3) (j := 9) (Ni := some 45) (Nj := some 13) #[true, true, true, true, true, true, true, false, false, false, false] #[true, true, true, false, true, true, true, false, false, true, false] rfl rfl rfl rfl (by kernel_rfl) (by decide) (by decide) (fun K hK => ?_) (fun K hK => ?_)
                · skip
                  refine goes_ Tryz.func34 (by kernel_rfl) rfl #[.int .i64 m2] (by rfl) rfl rfl (by simp only [List.map_toArray, List.map_cons, List.map_nil]; rfl) ?_
                  with_reducible refine ((HNb.out _)).mono ?_
                  rintro e wz ⟨rfl, hb⟩
                  refine ⟨_, rfl, ?_⟩
                  have hz := SPR.below (hHeld.2.2.2.2.2.2.2.2.2.2.2.2.2) hb
                  have hzb : SPR w [(V, cv x A3 c3 A4 c4 A5 c5, 26), (Ra5, rc x1 B3x d3x B4x d4x B5x d5x, 30)] [(x1, rc x1 B3x d3x B4x d4x B5x d5x)] wz := SPR.tk 2 1 hz
                  refine hK.out _ _ (HSb _ hzb) (fun hHeld => ?_)
                  clear hK K
                  refine norm_ (a' := ?_) ?_ ?_
                  rotate_left
                  · show Act.put _ (some 45) _ = _
                    simp only [Act.put, List.setIfInBounds_toArray, List.set_cons_zero, List.set_cons_succ, i64_w, i32_w]
                    rfl
                  exact norm_ (by first | (simp only [putAll, Act.put, List.setIfInBounds_toArray, List.set_cons_zero, List.set_cons_succ]; done) | (simp only [putAll, Act.put, List.setIfInBounds_toArray, List.set_cons_zero, List.set_cons_succ]; rfl)) (hJ3 (()) _ hz)
                · skip
                  refine freshR_ (c := #[.int .i64 0, .int .i64 0, .string ⟨#[]⟩, .slice none 0 0, .slice none 0 0, .slice none 0 0, .int .i64 0]) (t := 30) (hHeld.2.2.2.2.2.2.2.2.2.2.2.2.2) (by rfl) rfl ?_ ?_
                  · first | (go_simp; done) | (go_simp; rfl)
                  intro Rb9 wz hz
                  have hzb : SPR w [(V, cv x A3 c3 A4 c4 A5 c5, 26), (Ra5, rc x1 B3x d3x B4x d4x B5x d5x, 30)] [(x1, rc x1 B3x d3x B4x d4x B5x d5x)] wz := SPR.tk 2 1 hz
                  refine hK.out _ _ (HSb _ hzb) (fun hHeld => ?_)
                  clear hK K
                  refine norm_ (a' := ?_) ?_ ?_
                  rotate_left
                  · show Act.put _ (some 13) _ = _
                    simp only [Act.put, List.setIfInBounds_toArray, List.set_cons_zero, List.set_cons_succ, i64_w, i32_w]
                    rfl
                  exact norm_ (by first | (simp only [putAll, Act.put, List.setIfInBounds_toArray, List.set_cons_zero, List.set_cons_succ]; done) | (simp only [putAll, Act.put, List.setIfInBounds_toArray, List.set_cons_zero, List.set_cons_succ]; rfl)) (hJ9 (Rb9, ()) _ hz)
              · skip
                rintro ⟨Rb9, _⟩ w' hF
                change SPR w [(V, cv x A3 c3 A4 c4 A5 c5, 26), (Ra5, rc x1 B3x d3x B4x d4x B5x d5x, 30), (Rb9, z7, 30)] [(x1, rc x1 B3x d3x B4x d4x B5x d5x)] w' at hF
                have hFb : SPR w [(V, cv x A3 c3 A4 c4 A5 c5, 26), (Ra5, rc x1 B3x d3x B4x d4x B5x d5x, 30)] [(x1, rc x1 B3x d3x B4x d4x B5x d5x)] w' := SPR.tk 2 1 hF
                have hHeld := HSb _ hFb
                clear hFb
                refine norm_ (a' := ?_) ?_ ?_
                rotate_left
                · simp only [putAll, Act.put, List.setIfInBounds_toArray, List.set_cons_zero, List.set_cons_succ]
                  rfl
                refine one_ (i := 3) (N := some 45) #[true, true, true, true, true, true, true, false, false, true, false] rfl rfl (by kernel_rfl) (by decide) (fun K hK => ?_)
                refine goes_ Tryz.func34 (by kernel_rfl) rfl #[.int .i64 m2] (by rfl) rfl rfl (by simp only [List.map_toArray, List.map_cons, List.map_nil]; rfl) ?_
                with_reducible refine ((HNb.out _)).mono ?_
                rintro e wz ⟨rfl, hb⟩
                refine ⟨_, rfl, ?_⟩
                have hz := SPR.below (hF) hb
                have hzb : SPR w [(V, cv x A3 c3 A4 c4 A5 c5, 26), (Ra5, rc x1 B3x d3x B4x d4x B5x d5x, 30)] [(x1, rc x1 B3x d3x B4x d4x B5x d5x)] wz := SPR.tk 2 1 hz
                refine hK.out _ _ (HSb _ hzb) (fun hHeld => ?_)
                clear hK K
                refine norm_ (a' := ?_) ?_ ?_
                rotate_left
                · show Act.put _ (some 45) _ = _
                  simp only [Act.put, List.setIfInBounds_toArray, List.set_cons_zero, List.set_cons_succ, i64_w, i32_w]
                  rfl
                exact norm_ (by first | (simp only [putAll, Act.put, List.setIfInBounds_toArray, List.set_cons_zero, List.set_cons_succ]; done) | (simp only [putAll, Act.put, List.setIfInBounds_toArray, List.set_cons_zero, List.set_cons_succ]; rfl)) (hJ3_9 (Rb9, ()) _ hz)
            · skip
              rintro ⟨_⟩ w' hF
              change SPR w [(V, cv x A3 c3 A4 c4 A5 c5, 26), (Ra5, rc x1 B3x d3x B4x d4x B5x d5x, 30)] [(x1, rc x1 B3x d3x B4x d4x B5x d5x)] w' at hF
              have hFb : SPR w [(V, cv x A3 c3 A4 c4 A5 c5, 26), (Ra5, rc x1 B3x d3x B4x d4x B5x d5x, 30)] [(x1, rc x1 B3x d3x B4x d4x B5x d5x)] w' := SPR.tk 2 1 hF
              have hHeld := HSb _ hFb
              clear hFb
              refine norm_ (a' := ?_) ?_ ?_
              rotate_left
              · simp only [putAll, Act.put, List.setIfInBounds_toArray, List.set_cons_zero, List.set_cons_succ]
                rfl
              refine two_ (i := 7) (j := 9) (Ni := some 49) (Nj := some 13) #[true, true, true, true, true, true, true, true, false, false, false] #[true, true, true, true, true, true, true, false, false, true, false] rfl rfl rfl rfl (by kernel_rfl) (by decide) (by decide) (fun K hK => ?_) (fun K hK => ?_)
              · skip
                refine goes_ Tryz.func34 (by kernel_rfl) rfl #[.int .i64 (wrap64 (m2 + m3))] (by rfl) rfl rfl (by simp only [List.map_toArray, List.map_cons, List.map_nil]; rfl) ?_
                with_reducible refine ((HNc.out _)).mono ?_
                rintro e wz ⟨rfl, hb⟩
                refine ⟨_, rfl, ?_⟩
                have hz := SPR.below (hF) hb
                have hzb : SPR w [(V, cv x A3 c3 A4 c4 A5 c5, 26), (Ra5, rc x1 B3x d3x B4x d4x B5x d5x, 30)] [(x1, rc x1 B3x d3x B4x d4x B5x d5x)] wz := SPR.tk 2 1 hz
                refine hK.out _ _ (HSb _ hzb) (fun hHeld => ?_)
                clear hK K
                refine norm_ (a' := ?_) ?_ ?_
                rotate_left
                · show Act.put _ (some 49) _ = _
                  simp only [Act.put, List.setIfInBounds_toArray, List.set_cons_zero, List.set_cons_succ, i64_w, i32_w]
                  rfl
                exact norm_ (by first | (simp only [putAll, Act.put, List.setIfInBounds_toArray, List.set_cons_zero, List.set_cons_succ]; done) | (simp only [putAll, Act.put, List.setIfInBounds_toArray, List.set_cons_zero, List.set_cons_succ]; rfl)) (hJ3_7 (()) _ hz)
              · skip
                refine freshR_ (c := #[.int .i64 0, .int .i64 0, .string ⟨#[]⟩, .slice none 0 0, .slice none 0 0, .slice none 0 0, .int .i64 0]) (t := 30) (hF) (by rfl) rfl ?_ ?_
                · first | (go_simp; done) | (go_simp; rfl)
                intro Rb9 wz hz
                have hzb : SPR w [(V, cv x A3 c3 A4 c4 A5 c5, 26), (Ra5, rc x1 B3x d3x B4x d4x B5x d5x, 30)] [(x1, rc x1 B3x d3x B4x d4x B5x d5x)] wz := SPR.tk 2 1 hz
                refine hK.out _ _ (HSb _ hzb) (fun hHeld => ?_)
                clear hK K
                refine norm_ (a' := ?_) ?_ ?_
                rotate_left
                · show Act.put _ (some 13) _ = _
                  simp only [Act.put, List.setIfInBounds_toArray, List.set_cons_zero, List.set_cons_succ, i64_w, i32_w]
                  rfl
                exact norm_ (by first | (simp only [putAll, Act.put, List.setIfInBounds_toArray, List.set_cons_zero, List.set_cons_succ]; done) | (simp only [putAll, Act.put, List.setIfInBounds_toArray, List.set_cons_zero, List.set_cons_succ]; rfl)) (hJ3_9 (Rb9, ()) _ hz)
          · skip
            rintro ⟨Rb9, _⟩ w' hF
            change SPR w [(V, cv x A3 c3 A4 c4 A5 c5, 26), (Ra5, rc x1 B3x d3x B4x d4x B5x d5x, 30), (Rb9, z7, 30)] [(x1, rc x1 B3x d3x B4x d4x B5x d5x)] w' at hF
            have hFb : SPR w [(V, cv x A3 c3 A4 c4 A5 c5, 26), (Ra5, rc x1 B3x d3x B4x d4x B5x d5x, 30)] [(x1, rc x1 B3x d3x B4x d4x B5x d5x)] w' := SPR.tk 2 1 hF
            have hHeld := HSb _ hFb
            clear hFb
            refine norm_ (a' := ?_) ?_ ?_
            rotate_left
            · simp only [putAll, Act.put, List.setIfInBounds_toArray, List.set_cons_zero, List.set_cons_succ]
              rfl
            refine one_ (i := 7) (N := some 49) #[true, true, true, true, true, true, true, true, false, true, false] rfl rfl (by kernel_rfl) (by decide) (fun K hK => ?_)
            refine goes_ Tryz.func34 (by kernel_rfl) rfl #[.int .i64 (wrap64 (m2 + m3))] (by rfl) rfl rfl (by simp only [List.map_toArray, List.map_cons, List.map_nil]; rfl) ?_
            with_reducible refine ((HNc.out _)).mono ?_
            rintro e wz ⟨rfl, hb⟩
            refine ⟨_, rfl, ?_⟩
            have hz := SPR.below (hF) hb
            have hzb : SPR w [(V, cv x A3 c3 A4 c4 A5 c5, 26), (Ra5, rc x1 B3x d3x B4x d4x B5x d5x, 30)] [(x1, rc x1 B3x d3x B4x d4x B5x d5x)] wz := SPR.tk 2 1 hz
            refine hK.out _ _ (HSb _ hzb) (fun hHeld => ?_)
            clear hK K
            refine norm_ (a' := ?_) ?_ ?_
            rotate_left
            · show Act.put _ (some 49) _ = _
              simp only [Act.put, List.setIfInBounds_toArray, List.set_cons_zero, List.set_cons_succ, i64_w, i32_w]
              rfl
            exact norm_ (by first | (simp only [putAll, Act.put, List.setIfInBounds_toArray, List.set_cons_zero, List.set_cons_succ]; done) | (simp only [putAll, Act.put, List.setIfInBounds_toArray, List.set_cons_zero, List.set_cons_succ]; rfl)) (hJ3_7_9 (Rb9, ()) _ hz)
        · skip
          rintro ⟨_⟩ w' hF
          change SPR w [(V, cv x A3 c3 A4 c4 A5 c5, 26), (Ra5, rc x1 B3x d3x B4x d4x B5x d5x, 30)] [(x1, rc x1 B3x d3x B4x d4x B5x d5x)] w' at hF
          have hFb : SPR w [(V, cv x A3 c3 A4 c4 A5 c5, 26), (Ra5, rc x1 B3x d3x B4x d4x B5x d5x, 30)] [(x1, rc x1 B3x d3x B4x d4x B5x d5x)] w' := SPR.tk 2 1 hF
          have hHeld := HSb _ hFb
          clear hFb
          refine norm_ (a' := ?_) ?_ ?_
          rotate_left
          · simp only [putAll, Act.put, List.setIfInBounds_toArray, List.set_cons_zero, List.set_cons_succ]
            rfl
          refine two_ (i := 8) (j := 9) (Ni := some 50) (Nj := some 13) #[true, true, true, true, true, true, true, true, true, false, false] #[true, true, true, true, true, true, true, true, false, true, false] rfl rfl rfl rfl (by kernel_rfl) (by decide) (by decide) (fun K hK => ?_) (fun K hK => ?_)
          · skip
            refine goes_ Tryz.func33 (by kernel_rfl) rfl #[.agg #[.int .i64 x1.f0, .int .i64 x1.f1, .string x1.f2, .slice B3x x1.f3.length d3x, .slice B4x x1.f4.length d4x, .slice B5x x1.f5.length d5x], .agg #[.int .i64 3, .int .i64 (2 * m2), .string ⟨#[]⟩, .slice none 0 0, .slice none 0 0, .slice none 0 0], .agg #[.int .i64 3, .int .i64 (2 * (m2 + m3)), .string ⟨#[]⟩, .slice none 0 0, .slice none 0 0, .slice none 0 0]] (by rfl) rfl rfl (by simp only [List.map_toArray, List.map_cons, List.map_nil]; rfl) ?_
            with_reducible refine ((HSB.out _ _ _ (hF) 0 rfl)).mono ?_
            rintro e wz ⟨u8, rfl, hz⟩
            refine ⟨_, rfl, ?_⟩
            have hzb : SPR w [(V, cv x A3 c3 A4 c4 A5 c5, 26), (Ra5, rc x1 B3x d3x B4x d4x B5x d5x, 30)] [(x1, rc x1 B3x d3x B4x d4x B5x d5x)] wz := SPR.tk 2 1 hz
            refine hK.out _ _ (HSb _ hzb) (fun hHeld => ?_)
            clear hK K
            refine norm_ (a' := ?_) ?_ ?_
            rotate_left
            · show Act.put _ (some 50) _ = _
              simp only [Act.put, List.setIfInBounds_toArray, List.set_cons_zero, List.set_cons_succ, i64_w, i32_w]
              rfl
            exact norm_ (by first | (simp only [putAll, Act.put, List.setIfInBounds_toArray, List.set_cons_zero, List.set_cons_succ]; done) | (simp only [putAll, Act.put, List.setIfInBounds_toArray, List.set_cons_zero, List.set_cons_succ]; rfl)) (hJ3_7_8 (u8, ()) _ hz)
          · skip
            refine freshR_ (c := #[.int .i64 0, .int .i64 0, .string ⟨#[]⟩, .slice none 0 0, .slice none 0 0, .slice none 0 0, .int .i64 0]) (t := 30) (hF) (by rfl) rfl ?_ ?_
            · first | (go_simp; done) | (go_simp; rfl)
            intro Rb9 wz hz
            have hzb : SPR w [(V, cv x A3 c3 A4 c4 A5 c5, 26), (Ra5, rc x1 B3x d3x B4x d4x B5x d5x, 30)] [(x1, rc x1 B3x d3x B4x d4x B5x d5x)] wz := SPR.tk 2 1 hz
            refine hK.out _ _ (HSb _ hzb) (fun hHeld => ?_)
            clear hK K
            refine norm_ (a' := ?_) ?_ ?_
            rotate_left
            · show Act.put _ (some 13) _ = _
              simp only [Act.put, List.setIfInBounds_toArray, List.set_cons_zero, List.set_cons_succ, i64_w, i32_w]
              rfl
            exact norm_ (by first | (simp only [putAll, Act.put, List.setIfInBounds_toArray, List.set_cons_zero, List.set_cons_succ]; done) | (simp only [putAll, Act.put, List.setIfInBounds_toArray, List.set_cons_zero, List.set_cons_succ]; rfl)) (hJ3_7_9 (Rb9, ()) _ hz)
      · skip
        rintro ⟨Rb9, _⟩ w' hF
        change SPR w [(V, cv x A3 c3 A4 c4 A5 c5, 26), (Ra5, rc x1 B3x d3x B4x d4x B5x d5x, 30), (Rb9, z7, 30)] [(x1, rc x1 B3x d3x B4x d4x B5x d5x)] w' at hF
        have hFb : SPR w [(V, cv x A3 c3 A4 c4 A5 c5, 26), (Ra5, rc x1 B3x d3x B4x d4x B5x d5x, 30)] [(x1, rc x1 B3x d3x B4x d4x B5x d5x)] w' := SPR.tk 2 1 hF
        have hHeld := HSb _ hFb
        clear hFb
        refine norm_ (a' := ?_) ?_ ?_
        rotate_left
        · simp only [putAll, Act.put, List.setIfInBounds_toArray, List.set_cons_zero, List.set_cons_succ]
          rfl
        refine one_ (i := 8) (N := some 50) #[true, true, true, true, true, true, true, true, true, true, false] rfl rfl (by kernel_rfl) (by decide) (fun K hK => ?_)
        refine goes_ Tryz.func33 (by kernel_rfl) rfl #[.agg #[.int .i64 x1.f0, .int .i64 x1.f1, .string x1.f2, .slice B3x x1.f3.length d3x, .slice B4x x1.f4.length d4x, .slice B5x x1.f5.length d5x], .agg #[.int .i64 3, .int .i64 (2 * m2), .string ⟨#[]⟩, .slice none 0 0, .slice none 0 0, .slice none 0 0], .agg #[.int .i64 3, .int .i64 (2 * (m2 + m3)), .string ⟨#[]⟩, .slice none 0 0, .slice none 0 0, .slice none 0 0]] (by rfl) rfl rfl (by simp only [List.map_toArray, List.map_cons, List.map_nil]; rfl) ?_
        with_reducible refine ((HSB.out _ _ _ (hF) 0 rfl)).mono ?_
        rintro e wz ⟨u8, rfl, hz⟩
        refine ⟨_, rfl, ?_⟩
        have hzb : SPR w [(V, cv x A3 c3 A4 c4 A5 c5, 26), (Ra5, rc x1 B3x d3x B4x d4x B5x d5x, 30)] [(x1, rc x1 B3x d3x B4x d4x B5x d5x)] wz := SPR.tk 2 1 hz
        refine hK.out _ _ (HSb _ hzb) (fun hHeld => ?_)
        clear hK K
        refine norm_ (a' := ?_) ?_ ?_
        rotate_left
        · show Act.put _ (some 50) _ = _
          simp only [Act.put, List.setIfInBounds_toArray, List.set_cons_zero, List.set_cons_succ, i64_w, i32_w]
          rfl
        exact norm_ (by first | (simp only [putAll, Act.put, List.setIfInBounds_toArray, List.set_cons_zero, List.set_cons_succ]; done) | (simp only [putAll, Act.put, List.setIfInBounds_toArray, List.set_cons_zero, List.set_cons_succ]; rfl)) (hJ3_7_8_9 (Rb9, u8, ()) _ hz)
    · skip
      rintro ⟨cz8, _⟩ w' hF
      change SPR w [(V, cv x A3 c3 A4 c4 A5 c5, 26), (Ra5, rc x1 B3x d3x B4x d4x B5x d5x, 30)] [(x1, rc x1 B3x d3x B4x d4x B5x d5x), (x2, cz8)] w' at hF
      obtain ⟨B3y, d3y, B4y, d4y, B5y, d5y, rfl⟩ := hF.cells 1 rfl
      have hFb : SPR w [(V, cv x A3 c3 A4 c4 A5 c5, 26), (Ra5, rc x1 B3x d3x B4x d4x B5x d5x, 30)] [(x1, rc x1 B3x d3x B4x d4x B5x d5x)] w' := SPR.tk 2 1 hF
      have hHeld := HSb _ hFb
      clear hFb
      refine norm_ (a' := ?_) ?_ ?_
      rotate_left
      · simp only [putAll, Act.put, List.setIfInBounds_toArray, List.set_cons_zero, List.set_cons_succ]
        rfl
      refine one_ (i := 9) (N := some 13) #[true, true, true, true, true, true, true, true, true, true, false] rfl rfl (by kernel_rfl) (by decide) (fun K hK => ?_)
      refine freshR_ (c := #[.int .i64 0, .int .i64 0, .string ⟨#[]⟩, .slice none 0 0, .slice none 0 0, .slice none 0 0, .int .i64 0]) (t := 30) (hF) (by rfl) rfl ?_ ?_
      · first | (go_simp; done) | (go_simp; rfl)
      intro Rb9 wz hz
      have hzb : SPR w [(V, cv x A3 c3 A4 c4 A5 c5, 26), (Ra5, rc x1 B3x d3x B4x d4x B5x d5x, 30)] [(x1, rc x1 B3x d3x B4x d4x B5x d5x)] wz := SPR.tk 2 1 hz
      refine hK.out _ _ (HSb _ hzb) (fun hHeld => ?_)
      clear hK K
      refine norm_ (a' := ?_) ?_ ?_
      rotate_left
      · show Act.put _ (some 13) _ = _
        simp only [Act.put, List.setIfInBounds_toArray, List.set_cons_zero, List.set_cons_succ, i64_w, i32_w]
        rfl
      exact norm_ (by first | (simp only [putAll, Act.put, List.setIfInBounds_toArray, List.set_cons_zero, List.set_cons_succ]; done) | (simp only [putAll, Act.put, List.setIfInBounds_toArray, List.set_cons_zero, List.set_cons_succ]; rfl)) (hJ3_7_8_9 (Rb9, #[.int .i64 x2.f0, .int .i64 x2.f1, .string x2.f2, .slice B3y x2.f3.length d3y, .slice B4y x2.f4.length d4y, .slice B5y x2.f5.length d5y, .int .i64 0], ()) _ hz)
  rintro ⟨Rb9, cz8, _⟩ w' hF
  change SPR w [(V, cv x A3 c3 A4 c4 A5 c5, 26), (Ra5, rc x1 B3x d3x B4x d4x B5x d5x, 30), (Rb9, z7, 30)] [(x1, rc x1 B3x d3x B4x d4x B5x d5x), (x2, cz8)] w' at hF
  obtain ⟨B3y, d3y, B4y, d4y, B5y, d5y, rfl⟩ := hF.cells 1 rfl
  have hFb : SPR w [(V, cv x A3 c3 A4 c4 A5 c5, 26), (Ra5, rc x1 B3x d3x B4x d4x B5x d5x, 30)] [(x1, rc x1 B3x d3x B4x d4x B5x d5x)] w' := SPR.tk 2 1 hF
  have hHeld := HSb _ hFb
  clear hFb
  refine norm_ (a' := ?_) ?_ ?_
  rotate_left
  · simp only [putAll, Act.put, List.setIfInBounds_toArray, List.set_cons_zero, List.set_cons_succ]
    rfl
  refine one_ (i := 10) (N := none) #[true, true, true, true, true, true, true, true, true, true, true] rfl rfl (by kernel_rfl) (by decide) (fun K hK => ?_)
  obtain ⟨y0, y1, y2, y3, y4, y5, y6, f0, f1, f2, f3, f4, f5, f6⟩ := sev_cells (SPR.get hF 2 rfl)
  refine put7R_ (v0 := .int .i64 x2.f0) (v1 := .int .i64 x2.f1) (v2 := .string x2.f2) (v3 := .slice B3y x2.f3.length d3y) (v4 := .slice B4y x2.f4.length d4y) (v5 := .slice B5y x2.f5.length d5y) (v6 := .int .i64 0) hF 2 rfl (by rfl) rfl ?_ ?_
  · first | (go_simp; done) | (go_simp; rfl)
  clear y0 y1 y2 y3 y4 y5 y6 f0 f1 f2 f3 f4 f5 f6
  intro wsb0 hsb0
  change SPR w [(V, cv x A3 c3 A4 c4 A5 c5, 26), (Ra5, rc x1 B3x d3x B4x d4x B5x d5x, 30), (Rb9, rc x2 B3y d3y B4y d4y B5y d5y, 30)] [(x1, rc x1 B3x d3x B4x d4x B5x d5x), (x2, rc x2 B3y d3y B4y d4y B5y d5y)] wsb0 at hsb0
  have hzb : SPR w [(V, cv x A3 c3 A4 c4 A5 c5, 26), (Ra5, rc x1 B3x d3x B4x d4x B5x d5x, 30)] [(x1, rc x1 B3x d3x B4x d4x B5x d5x)] wsb0 := SPR.tk 2 1 hsb0
  refine hK.out _ _ (HSb _ hzb) (fun hHeld => ?_)
  clear hK K
  refine done_ (by kernel_rfl) ?_
  have HR := Lib.hid hsb0
  clear hsb0 hF hHeld HQ
  have HG1 : Hid (∀ w1 {B3 B4 B5 : Option Addr} {d3 d4 d5 : Nat}, SPR w [(V, cv x A3 c3 A4 c4 A5 c5, 26), (Ra5, rc x1 B3x d3x B4x d4x B5x d5x, 30), (Rb9, rc x2 B3y d3y B4y d4y B5y d5y, 30)] ([(x1, rc x1 B3x d3x B4x d4x B5x d5x), (x2, rc x2 B3y d3y B4y d4y B5y d5y)] ++ [(x3, #[.int .i64 x3.f0, .int .i64 x3.f1, .string x3.f2, .slice B3 x3.f3.length d3, .slice B4 x3.f4.length d4, .slice B5 x3.f5.length d5, .int .i64 0])]) w1 → Calls Tryz.prog 19 #[.agg #[.int .i64 x3.f0, .int .i64 x3.f1, .string x3.f2, .slice B3 x3.f3.length d3, .slice B4 x3.f4.length d4, .slice B5 x3.f5.length d5, .int .i64 0], .agg #[.int .i64 x.f0, .int .i64 x.f1, .string x.f2, .slice A3 x.f3.length c3, .slice A4 x.f4.length c4, .slice A5 x.f5.length c5]] w1 fun e w' => e = .returned (.bool true) ∧ Below w1.heap.size w1 w') := Lib.hid (by
    intro w1 B3 B4 B5 d3 d4 d5 h
    have h1 := given_any w1 x3 x (by rw [HX3.out]; exact HWL.out) HWL.out (h.held 2 rfl) (K_below HKW.out h.bel) w1 (Below.refl _ _)
    simp only [vl, rv] at h1
    rw [show (cmpV x3 x == 0) = true by rw [HX3.out, cmpV_self]; rfl] at h1
    exact h1)
  have HG2 : Hid (∀ w1 {B3 B4 B5 : Option Addr} {d3 d4 d5 : Nat}, SPR w [(V, cv x A3 c3 A4 c4 A5 c5, 26), (Ra5, rc x1 B3x d3x B4x d4x B5x d5x, 30), (Rb9, rc x2 B3y d3y B4y d4y B5y d5y, 30)] ([(x1, rc x1 B3x d3x B4x d4x B5x d5x), (x2, rc x2 B3y d3y B4y d4y B5y d5y)] ++ [(x4, #[.int .i64 x4.f0, .int .i64 x4.f1, .string x4.f2, .slice B3 x4.f3.length d3, .slice B4 x4.f4.length d4, .slice B5 x4.f5.length d5, .int .i64 0])]) w1 → Calls Tryz.prog 19 #[.agg #[.int .i64 x4.f0, .int .i64 x4.f1, .string x4.f2, .slice B3 x4.f3.length d3, .slice B4 x4.f4.length d4, .slice B5 x4.f5.length d5, .int .i64 0], .agg #[.int .i64 x2.f0, .int .i64 x2.f1, .string x2.f2, .slice B3y x2.f3.length d3y, .slice B4y x2.f4.length d4y, .slice B5y x2.f5.length d5y]] w1 fun e w' => e = .returned (.bool true) ∧ Below w1.heap.size w1 w') := Lib.hid (by
    intro w1 B3 B4 B5 d3 d4 d5 h
    have h1 := given_any w1 x4 x2 (by rw [HX4.out]; exact HX2.out.1) HX2.out.1 (h.held 2 rfl) (h.held 1 rfl) w1 (Below.refl _ _)
    simp only [vl, rv] at h1
    rw [show (cmpV x4 x2 == 0) = true by rw [HX4.out, cmpV_self]; rfl] at h1
    exact h1)
  go_wp2_with fail
  refine start_ (n := 34) (S := fun w' => w'.cell? ⟨V, 0, none⟩ = some (.int .i64 x.f0) ∧ w'.cell? ⟨V, 1, none⟩ = some (.int .i64 x.f1) ∧ w'.cell? ⟨V, 2, none⟩ = some (.string x.f2) ∧ w'.cell? ⟨V, 3, none⟩ = some (.slice A3 x.f3.length c3) ∧ w'.cell? ⟨V, 4, none⟩ = some (.slice A4 x.f4.length c4) ∧ w'.cell? ⟨V, 5, none⟩ = some (.slice A5 x.f5.length c5) ∧ w'.cell? ⟨Ra5, 0, none⟩ = some (.int .i64 x1.f0) ∧ w'.cell? ⟨Ra5, 1, none⟩ = some (.int .i64 x1.f1) ∧ w'.cell? ⟨Ra5, 2, none⟩ = some (.string x1.f2) ∧ w'.cell? ⟨Ra5, 3, none⟩ = some (.slice B3x x1.f3.length d3x) ∧ w'.cell? ⟨Ra5, 4, none⟩ = some (.slice B4x x1.f4.length d4x) ∧ w'.cell? ⟨Ra5, 5, none⟩ = some (.slice B5x x1.f5.length d5x) ∧ w'.cell? ⟨Ra5, 6, none⟩ = some (.int .i64 0) ∧ w'.cell? ⟨Rb9, 0, none⟩ = some (.int .i64 x2.f0) ∧ w'.cell? ⟨Rb9, 1, none⟩ = some (.int .i64 x2.f1) ∧ w'.cell? ⟨Rb9, 2, none⟩ = some (.string x2.f2) ∧ w'.cell? ⟨Rb9, 3, none⟩ = some (.slice B3y x2.f3.length d3y) ∧ w'.cell? ⟨Rb9, 4, none⟩ = some (.slice B4y x2.f4.length d4y) ∧ w'.cell? ⟨Rb9, 5, none⟩ = some (.slice B5y x2.f5.length d5y) ∧ w'.cell? ⟨Rb9, 6, none⟩ = some (.int .i64 0) ∧ SPR w [(V, cv x A3 c3 A4 c4 A5 c5, 26), (Ra5, rc x1 B3x d3x B4x d4x B5x d5x, 30), (Rb9, rc x2 B3y d3y B4y d4y B5y d5y, 30)] [(x1, rc x1 B3x d3x B4x d4x B5x d5x), (x2, rc x2 B3y d3y B4y d4y B5y d5y)] w') (ds := []) #[false, false, false, false, false, false, false, false, false, false, false, false, false, false, false, false, false, false, false, false, false, false, false, false, false, false, false, false, false, false, false, false, false, false] (by kernel_rfl) rfl rfl ⟨((six_cells ((SPR.spl (SPR.drew HR.out)).get 0 rfl)).1), ((six_cells ((SPR.spl (SPR.drew HR.out)).get 0 rfl)).2.1), ((six_cells ((SPR.spl (SPR.drew HR.out)).get 0 rfl)).2.2.1), ((six_cells ((SPR.spl (SPR.drew HR.out)).get 0 rfl)).2.2.2.1), ((six_cells ((SPR.spl (SPR.drew HR.out)).get 0 rfl)).2.2.2.2.1), ((six_cells ((SPR.spl (SPR.drew HR.out)).get 0 rfl)).2.2.2.2.2.1), ((sev_cells ((SPR.spl (SPR.drew HR.out)).get 1 rfl)).1), ((sev_cells ((SPR.spl (SPR.drew HR.out)).get 1 rfl)).2.1), ((sev_cells ((SPR.spl (SPR.drew HR.out)).get 1 rfl)).2.2.1), ((sev_cells ((SPR.spl (SPR.drew HR.out)).get 1 rfl)).2.2.2.1), ((sev_cells ((SPR.spl (SPR.drew HR.out)).get 1 rfl)).2.2.2.2.1), ((sev_cells ((SPR.spl (SPR.drew HR.out)).get 1 rfl)).2.2.2.2.2.1), ((sev_cells ((SPR.spl (SPR.drew HR.out)).get 1 rfl)).2.2.2.2.2.2.1), ((sev_cells ((SPR.spl (SPR.drew HR.out)).get 2 rfl)).1), ((sev_cells ((SPR.spl (SPR.drew HR.out)).get 2 rfl)).2.1), ((sev_cells ((SPR.spl (SPR.drew HR.out)).get 2 rfl)).2.2.1), ((sev_cells ((SPR.spl (SPR.drew HR.out)).get 2 rfl)).2.2.2.1), ((sev_cells ((SPR.spl (SPR.drew HR.out)).get 2 rfl)).2.2.2.2.1), ((sev_cells ((SPR.spl (SPR.drew HR.out)).get 2 rfl)).2.2.2.2.2.1), ((sev_cells ((SPR.spl (SPR.drew HR.out)).get 2 rfl)).2.2.2.2.2.2.1), (SPR.drew HR.out)⟩ (fun hHeld => ?_)
  refine pure_ (i := 0) (N := some 51) (v := ?_) (a' := ?_) #[true, false, false, false, false, false, false, false, false, false, false, false, false, false, false, false, false, false, false, false, false, false, false, false, false, false, false, false, false, false, false, false, false, false] rfl rfl (by kernel_rfl) (fun _ _ _ h => h) (Or.inl ⟨by rfl, ?_⟩) ?_ ?_
  rotate_left
  · intro w'
    go_simp
    with_reducible rfl
  rotate_left
  · simp only [Act.put, List.setIfInBounds_toArray, List.set_cons_zero, List.set_cons_succ, i64_w, i32_w]
    rfl
  refine take_ (i := 1) (N := some 52) (v := ?_) (a' := ?_) #[true, true, false, false, false, false, false, false, false, false, false, false, false, false, false, false, false, false, false, false, false, false, false, false, false, false, false, false, false, false, false, false, false, false] rfl rfl (by kernel_rfl) (fun _ _ _ h => h) (Or.inl ⟨by rfl, ?_⟩) hHeld ?_ ?_
  rotate_left
  · rintro w' ⟨s0, s1, s2, s3, s4, s5, s6, s7, s8, s9, s10, s11, s12, s13, s14, s15, s16, s17, s18, s19, s20⟩
    go_simp
    with_reducible rfl
  rotate_left
  · simp only [Act.put, List.setIfInBounds_toArray, List.set_cons_zero, List.set_cons_succ, i64_w, i32_w]
    rfl
  refine pure_ (i := 2) (N := some 53) (v := ?_) (a' := ?_) #[true, true, true, false, false, false, false, false, false, false, false, false, false, false, false, false, false, false, false, false, false, false, false, false, false, false, false, false, false, false, false, false, false, false] rfl rfl (by kernel_rfl) (fun _ _ _ h => h) (Or.inl ⟨by rfl, ?_⟩) ?_ ?_
  rotate_left
  · intro w'
    go_simp
    with_reducible rfl
  rotate_left
  · simp only [Act.put, List.setIfInBounds_toArray, List.set_cons_zero, List.set_cons_succ, i64_w, i32_w]
    rfl
  refine pure_ (i := 3) (N := some 54) (v := ?_) (a' := ?_) #[true, true, true, true, false, false, false, false, false, false, false, false, false, false, false, false, false, false, false, false, false, false, false, false, false, false, false, false, false, false, false, false, false, false] rfl rfl (by kernel_rfl) (fun _ _ _ h => h) (Or.inl ⟨by rfl, ?_⟩) ?_ ?_
  rotate_left
  · intro w'
    go_simp
    with_reducible rfl
  rotate_left
  · simp only [Act.put, List.setIfInBounds_toArray, List.set_cons_zero, List.set_cons_succ, i64_w, i32_w]
    rfl
  refine pure_ (i := 4) (N := some 55) (v := ?_) (a' := ?_) #[true, true, true, true, true, false, false, false, false, false, false, false, false, false, false, false, false, false, false, false, false, false, false, false, false, false, false, false, false, false, false, false, false, false] rfl rfl (by kernel_rfl) (fun _ _ _ h => h) (Or.inl ⟨by rfl, ?_⟩) ?_ ?_
  rotate_left
  · intro w'
    go_simp
    with_reducible rfl
  rotate_left
  · simp only [Act.put, List.setIfInBounds_toArray, List.set_cons_zero, List.set_cons_succ, i64_w, i32_w]
    rfl
  refine take_ (i := 5) (N := some 56) (v := ?_) (a' := ?_) #[true, true, true, true, true, true, false, false, false, false, false, false, false, false, false, false, false, false, false, false, false, false, false, false, false, false, false, false, false, false, false, false, false, false] rfl rfl (by kernel_rfl) (fun _ _ _ h => h) (Or.inl ⟨by rfl, ?_⟩) hHeld ?_ ?_
  rotate_left
  · rintro w' ⟨s0, s1, s2, s3, s4, s5, s6, s7, s8, s9, s10, s11, s12, s13, s14, s15, s16, s17, s18, s19, s20⟩
    go_simp
    with_reducible rfl
  rotate_left
  · simp only [Act.put, List.setIfInBounds_toArray, List.set_cons_zero, List.set_cons_succ, i64_w, i32_w]
    rfl
  refine pure_ (i := 6) (N := some 57) (v := ?_) (a' := ?_) #[true, true, true, true, true, true, true, false, false, false, false, false, false, false, false, false, false, false, false, false, false, false, false, false, false, false, false, false, false, false, false, false, false, false] rfl rfl (by kernel_rfl) (fun _ _ _ h => h) (Or.inl ⟨by rfl, ?_⟩) ?_ ?_
  rotate_left
  · intro w'
    go_simp
    with_reducible rfl
  rotate_left
  · simp only [Act.put, List.setIfInBounds_toArray, List.set_cons_zero, List.set_cons_succ, i64_w, i32_w]
    rfl
  refine pure_ (i := 7) (N := some 58) (v := ?_) (a' := ?_) #[true, true, true, true, true, true, true, true, false, false, false, false, false, false, false, false, false, false, false, false, false, false, false, false, false, false, false, false, false, false, false, false, false, false] rfl rfl (by kernel_rfl) (fun _ _ _ h => h) (Or.inl ⟨by rfl, ?_⟩) ?_ ?_
  rotate_left
  · intro w'
    go_simp
    with_reducible rfl
  rotate_left
  · simp only [Act.put, List.setIfInBounds_toArray, List.set_cons_zero, List.set_cons_succ, i64_w, i32_w]
    rfl
  refine pure_ (i := 8) (N := some 59) (v := ?_) (a' := ?_) #[true, true, true, true, true, true, true, true, true, false, false, false, false, false, false, false, false, false, false, false, false, false, false, false, false, false, false, false, false, false, false, false, false, false] rfl rfl (by kernel_rfl) (fun _ _ _ h => h) (Or.inl ⟨by rfl, ?_⟩) ?_ ?_
  rotate_left
  · intro w'
    go_simp
    with_reducible rfl
  rotate_left
  · simp only [Act.put, List.setIfInBounds_toArray, List.set_cons_zero, List.set_cons_succ, i64_w, i32_w]
    rfl
  refine pure_ (i := 10) (N := some 61) (v := ?_) (a' := ?_) #[true, true, true, true, true, true, true, true, true, false, true, false, false, false, false, false, false, false, false, false, false, false, false, false, false, false, false, false, false, false, false, false, false, false] rfl rfl (by kernel_rfl) (fun _ _ _ h => h) (Or.inl ⟨by rfl, ?_⟩) ?_ ?_
  rotate_left
  · intro w'
    go_simp
    with_reducible rfl
  rotate_left
  · simp only [Act.put, List.setIfInBounds_toArray, List.set_cons_zero, List.set_cons_succ, i64_w, i32_w]
    rfl
  refine pure_ (i := 11) (N := some 62) (v := ?_) (a' := ?_) #[true, true, true, true, true, true, true, true, true, false, true, true, false, false, false, false, false, false, false, false, false, false, false, false, false, false, false, false, false, false, false, false, false, false] rfl rfl (by kernel_rfl) (fun _ _ _ h => h) (Or.inl ⟨by rfl, ?_⟩) ?_ ?_
  rotate_left
  · intro w'
    go_simp
    with_reducible rfl
  rotate_left
  · simp only [Act.put, List.setIfInBounds_toArray, List.set_cons_zero, List.set_cons_succ, i64_w, i32_w]
    rfl
  refine take_ (i := 9) (N := some 60) (v := ?_) (a' := ?_) #[true, true, true, true, true, true, true, true, true, true, true, true, false, false, false, false, false, false, false, false, false, false, false, false, false, false, false, false, false, false, false, false, false, false] rfl rfl (by kernel_rfl) (fun _ _ _ h => h) (Or.inl ⟨by rfl, ?_⟩) hHeld ?_ ?_
  rotate_left
  · rintro w' ⟨s0, s1, s2, s3, s4, s5, s6, s7, s8, s9, s10, s11, s12, s13, s14, s15, s16, s17, s18, s19, s20⟩
    go_simp
    with_reducible rfl
  rotate_left
  · simp only [Act.put, List.setIfInBounds_toArray, List.set_cons_zero, List.set_cons_succ, i64_w, i32_w]
    rfl
  refine take_ (i := 13) (N := some 64) (v := ?_) (a' := ?_) #[true, true, true, true, true, true, true, true, true, true, true, true, false, true, false, false, false, false, false, false, false, false, false, false, false, false, false, false, false, false, false, false, false, false] rfl rfl (by kernel_rfl) (fun _ _ _ h => h) (Or.inl ⟨by rfl, ?_⟩) hHeld ?_ ?_
  rotate_left
  · rintro w' ⟨s0, s1, s2, s3, s4, s5, s6, s7, s8, s9, s10, s11, s12, s13, s14, s15, s16, s17, s18, s19, s20⟩
    go_simp
    with_reducible rfl
  rotate_left
  · simp only [Act.put, List.setIfInBounds_toArray, List.set_cons_zero, List.set_cons_succ, i64_w, i32_w]
    rfl
  refine one_ (i := 12) (N := some 63) #[true, true, true, true, true, true, true, true, true, true, true, true, true, true, false, false, false, false, false, false, false, false, false, false, false, false, false, false, false, false, false, false, false, false] rfl rfl (by kernel_rfl) (by decide) (fun K hK => ?_)
  refine goes_ Tryz.func33 (by kernel_rfl) rfl #[.agg #[.int .i64 x.f0, .int .i64 x.f1, .string x.f2, .slice A3 x.f3.length c3, .slice A4 x.f4.length c4, .slice A5 x.f5.length c5], .agg #[.int .i64 0, .int .i64 0, .string ⟨#[]⟩, .slice none 0 0, .slice none 0 0, .slice none 0 0], .agg #[.int .i64 0, .int .i64 0, .string ⟨#[]⟩, .slice none 0 0, .slice none 0 0, .slice none 0 0]] (by rfl) rfl rfl (by simp only [List.map_toArray, List.map_cons, List.map_nil]; rfl) ?_
  with_reducible refine ((HSC.out _ _ _ (hHeld.2.2.2.2.2.2.2.2.2.2.2.2.2.2.2.2.2.2.2.2))).mono ?_
  rintro e w21 ⟨cs, rfl, hz1⟩
  obtain ⟨B3z, d3z, B4z, d4z, B5z, d5z, rfl⟩ := hz1.cells 2 rfl
  refine ⟨_, rfl, ?_⟩
  have hz2 := SPR.cut hz1
  refine hK.out _ _ ⟨((six_cells ((SPR.spl hz2).get 0 rfl)).1), ((six_cells ((SPR.spl hz2).get 0 rfl)).2.1), ((six_cells ((SPR.spl hz2).get 0 rfl)).2.2.1), ((six_cells ((SPR.spl hz2).get 0 rfl)).2.2.2.1), ((six_cells ((SPR.spl hz2).get 0 rfl)).2.2.2.2.1), ((six_cells ((SPR.spl hz2).get 0 rfl)).2.2.2.2.2.1), ((sev_cells ((SPR.spl hz2).get 1 rfl)).1), ((sev_cells ((SPR.spl hz2).get 1 rfl)).2.1), ((sev_cells ((SPR.spl hz2).get 1 rfl)).2.2.1), ((sev_cells ((SPR.spl hz2).get 1 rfl)).2.2.2.1), ((sev_cells ((SPR.spl hz2).get 1 rfl)).2.2.2.2.1), ((sev_cells ((SPR.spl hz2).get 1 rfl)).2.2.2.2.2.1), ((sev_cells ((SPR.spl hz2).get 1 rfl)).2.2.2.2.2.2.1), ((sev_cells ((SPR.spl hz2).get 2 rfl)).1), ((sev_cells ((SPR.spl hz2).get 2 rfl)).2.1), ((sev_cells ((SPR.spl hz2).get 2 rfl)).2.2.1), ((sev_cells ((SPR.spl hz2).get 2 rfl)).2.2.2.1), ((sev_cells ((SPR.spl hz2).get 2 rfl)).2.2.2.2.1), ((sev_cells ((SPR.spl hz2).get 2 rfl)).2.2.2.2.2.1), ((sev_cells ((SPR.spl hz2).get 2 rfl)).2.2.2.2.2.2.1), hz2⟩ (fun hHeld => ?_)
  clear hK K
  refine norm_ (a' := ?_) ?_ ?_
  rotate_left
  · show Act.put _ (some 63) _ = _
    simp only [Act.put, List.setIfInBounds_toArray, List.set_cons_zero, List.set_cons_succ, i64_w, i32_w]
    rfl
  refine one_ (i := 14) (N := some 65) #[true, true, true, true, true, true, true, true, true, true, true, true, true, true, true, false, false, false, false, false, false, false, false, false, false, false, false, false, false, false, false, false, false, false] rfl rfl (by kernel_rfl) (by decide) (fun K hK => ?_)
  refine goes_ Tryz.func19 (by kernel_rfl) rfl #[.agg #[.int .i64 x3.f0, .int .i64 x3.f1, .string x3.f2, .slice B3z x3.f3.length d3z, .slice B4z x3.f4.length d4z, .slice B5z x3.f5.length d5z, .int .i64 0], .agg #[.int .i64 x.f0, .int .i64 x.f1, .string x.f2, .slice A3 x.f3.length c3, .slice A4 x.f4.length c4, .slice A5 x.f5.length c5]] (by rfl) rfl rfl (by simp only [List.map_toArray, List.map_cons, List.map_nil]; rfl) ?_
  with_reducible refine ((HG1.out _ hz1)).mono ?_
  rintro e w22 ⟨rfl, hb⟩
  refine ⟨_, rfl, ?_⟩
  have hz3 := SPR.below hz2 hb
  refine hK.out _ _ ⟨((six_cells ((SPR.spl hz3).get 0 rfl)).1), ((six_cells ((SPR.spl hz3).get 0 rfl)).2.1), ((six_cells ((SPR.spl hz3).get 0 rfl)).2.2.1), ((six_cells ((SPR.spl hz3).get 0 rfl)).2.2.2.1), ((six_cells ((SPR.spl hz3).get 0 rfl)).2.2.2.2.1), ((six_cells ((SPR.spl hz3).get 0 rfl)).2.2.2.2.2.1), ((sev_cells ((SPR.spl hz3).get 1 rfl)).1), ((sev_cells ((SPR.spl hz3).get 1 rfl)).2.1), ((sev_cells ((SPR.spl hz3).get 1 rfl)).2.2.1), ((sev_cells ((SPR.spl hz3).get 1 rfl)).2.2.2.1), ((sev_cells ((SPR.spl hz3).get 1 rfl)).2.2.2.2.1), ((sev_cells ((SPR.spl hz3).get 1 rfl)).2.2.2.2.2.1), ((sev_cells ((SPR.spl hz3).get 1 rfl)).2.2.2.2.2.2.1), ((sev_cells ((SPR.spl hz3).get 2 rfl)).1), ((sev_cells ((SPR.spl hz3).get 2 rfl)).2.1), ((sev_cells ((SPR.spl hz3).get 2 rfl)).2.2.1), ((sev_cells ((SPR.spl hz3).get 2 rfl)).2.2.2.1), ((sev_cells ((SPR.spl hz3).get 2 rfl)).2.2.2.2.1), ((sev_cells ((SPR.spl hz3).get 2 rfl)).2.2.2.2.2.1), ((sev_cells ((SPR.spl hz3).get 2 rfl)).2.2.2.2.2.2.1), hz3⟩ (fun hHeld => ?_)
  clear hK K
  refine norm_ (a' := ?_) ?_ ?_
  rotate_left
  · show Act.put _ (some 65) _ = _
    simp only [Act.put, List.setIfInBounds_toArray, List.set_cons_zero, List.set_cons_succ, i64_w, i32_w]
    rfl
  refine pure_ (i := 15) (N := some 66) (v := ?_) (a' := ?_) #[true, true, true, true, true, true, true, true, true, true, true, true, true, true, true, true, false, false, false, false, false, false, false, false, false, false, false, false, false, false, false, false, false, false] rfl rfl (by kernel_rfl) (fun _ _ _ h => h) (Or.inl ⟨by rfl, ?_⟩) ?_ ?_
  rotate_left
  · intro w'
    go_simp
    with_reducible rfl
  rotate_left
  · simp only [Act.put, List.setIfInBounds_toArray, List.set_cons_zero, List.set_cons_succ, i64_w, i32_w]
    rfl
  refine pure_ (i := 16) (N := some 67) (v := ?_) (a' := ?_) #[true, true, true, true, true, true, true, true, true, true, true, true, true, true, true, true, true, false, false, false, false, false, false, false, false, false, false, false, false, false, false, false, false, false] rfl rfl (by kernel_rfl) (fun _ _ _ h => h) (Or.inl ⟨by rfl, ?_⟩) ?_ ?_
  rotate_left
  · intro w'
    go_simp
    with_reducible rfl
  rotate_left
  · simp only [Act.put, List.setIfInBounds_toArray, List.set_cons_zero, List.set_cons_succ, i64_w, i32_w]
    rfl
  refine pure_ (i := 18) (N := some 69) (v := ?_) (a' := ?_) #[true, true, true, true, true, true, true, true, true, true, true, true, true, true, true, true, true, false, true, false, false, false, false, false, false, false, false, false, false, false, false, false, false, false] rfl rfl (by kernel_rfl) (fun _ _ _ h => h) (Or.inl ⟨by rfl, ?_⟩) ?_ ?_
  rotate_left
  · intro w'
    go_simp
    with_reducible rfl
  rotate_left
  · simp only [Act.put, List.setIfInBounds_toArray, List.set_cons_zero, List.set_cons_succ, i64_w, i32_w]
    rfl
  refine pure_ (i := 19) (N := some 70) (v := ?_) (a' := ?_) #[true, true, true, true, true, true, true, true, true, true, true, true, true, true, true, true, true, false, true, true, false, false, false, false, false, false, false, false, false, false, false, false, false, false] rfl rfl (by kernel_rfl) (fun _ _ _ h => h) (Or.inl ⟨by rfl, ?_⟩) ?_ ?_
  rotate_left
  · intro w'
    go_simp
    with_reducible rfl
  rotate_left
  · simp only [Act.put, List.setIfInBounds_toArray, List.set_cons_zero, List.set_cons_succ, i64_w, i32_w]
    rfl
  refine pure_ (i := 20) (N := some 71) (v := ?_) (a' := ?_) #[true, true, true, true, true, true, true, true, true, true, true, true, true, true, true, true, true, false, true, true, true, false, false, false, false, false, false, false, false, false, false, false, false, false] rfl rfl (by kernel_rfl) (fun _ _ _ h => h) (Or.inl ⟨by rfl, ?_⟩) ?_ ?_
  rotate_left
  · intro w'
    go_simp
    with_reducible rfl
  rotate_left
  · simp only [Act.put, List.setIfInBounds_toArray, List.set_cons_zero, List.set_cons_succ, i64_w, i32_w]
    rfl
  refine pure_ (i := 22) (N := some 73) (v := ?_) (a' := ?_) #[true, true, true, true, true, true, true, true, true, true, true, true, true, true, true, true, true, false, true, true, true, false, true, false, false, false, false, false, false, false, false, false, false, false] rfl rfl (by kernel_rfl) (fun _ _ _ h => h) (Or.inl ⟨by rfl, ?_⟩) ?_ ?_
  rotate_left
  · intro w'
    go_simp
    with_reducible rfl
  rotate_left
  · simp only [Act.put, List.setIfInBounds_toArray, List.set_cons_zero, List.set_cons_succ, i64_w, i32_w]
    rfl
  refine pure_ (i := 23) (N := some 74) (v := ?_) (a' := ?_) #[true, true, true, true, true, true, true, true, true, true, true, true, true, true, true, true, true, false, true, true, true, false, true, true, false, false, false, false, false, false, false, false, false, false] rfl rfl (by kernel_rfl) (fun _ _ _ h => h) (Or.inl ⟨by rfl, ?_⟩) ?_ ?_
  rotate_left
  · intro w'
    go_simp
    with_reducible rfl
  rotate_left
  · simp only [Act.put, List.setIfInBounds_toArray, List.set_cons_zero, List.set_cons_succ, i64_w, i32_w]
    rfl
  refine pure_ (i := 24) (N := some 75) (v := ?_) (a' := ?_) #[true, true, true, true, true, true, true, true, true, true, true, true, true, true, true, true, true, false, true, true, true, false, true, true, true, false, false, false, false, false, false, false, false, false] rfl rfl (by kernel_rfl) (fun _ _ _ h => h) (Or.inl ⟨by rfl, ?_⟩) ?_ ?_
  rotate_left
  · intro w'
    go_simp
    with_reducible rfl
  rotate_left
  · simp only [Act.put, List.setIfInBounds_toArray, List.set_cons_zero, List.set_cons_succ, i64_w, i32_w]
    rfl
  refine pure_ (i := 25) (N := some 76) (v := ?_) (a' := ?_) #[true, true, true, true, true, true, true, true, true, true, true, true, true, true, true, true, true, false, true, true, true, false, true, true, true, true, false, false, false, false, false, false, false, false] rfl rfl (by kernel_rfl) (fun _ _ _ h => h) (Or.inl ⟨by rfl, ?_⟩) ?_ ?_
  rotate_left
  · intro w'
    go_simp
    with_reducible rfl
  rotate_left
  · simp only [Act.put, List.setIfInBounds_toArray, List.set_cons_zero, List.set_cons_succ, i64_w, i32_w]
    rfl
  refine pure_ (i := 26) (N := some 77) (v := ?_) (a' := ?_) #[true, true, true, true, true, true, true, true, true, true, true, true, true, true, true, true, true, false, true, true, true, false, true, true, true, true, true, false, false, false, false, false, false, false] rfl rfl (by kernel_rfl) (fun _ _ _ h => h) (Or.inl ⟨by rfl, ?_⟩) ?_ ?_
  rotate_left
  · intro w'
    go_simp
    with_reducible rfl
  rotate_left
  · simp only [Act.put, List.setIfInBounds_toArray, List.set_cons_zero, List.set_cons_succ, i64_w, i32_w]
    rfl
  refine pure_ (i := 29) (N := some 80) (v := ?_) (a' := ?_) #[true, true, true, true, true, true, true, true, true, true, true, true, true, true, true, true, true, false, true, true, true, false, true, true, true, true, true, false, false, true, false, false, false, false] rfl rfl (by kernel_rfl) (fun _ _ _ h => h) (Or.inl ⟨by rfl, ?_⟩) ?_ ?_
  rotate_left
  · intro w'
    go_simp
    with_reducible rfl
  rotate_left
  · simp only [Act.put, List.setIfInBounds_toArray, List.set_cons_zero, List.set_cons_succ, i64_w, i32_w]
    rfl
  refine take_ (i := 17) (N := some 68) (v := ?_) (a' := ?_) #[true, true, true, true, true, true, true, true, true, true, true, true, true, true, true, true, true, true, true, true, true, false, true, true, true, true, true, false, false, true, false, false, false, false] rfl rfl (by kernel_rfl) (fun _ _ _ h => h) (Or.inl ⟨by rfl, ?_⟩) hHeld ?_ ?_
  rotate_left
  · rintro w' ⟨s0, s1, s2, s3, s4, s5, s6, s7, s8, s9, s10, s11, s12, s13, s14, s15, s16, s17, s18, s19, s20⟩
    go_simp
    with_reducible rfl
  rotate_left
  · simp only [Act.put, List.setIfInBounds_toArray, List.set_cons_zero, List.set_cons_succ, i64_w, i32_w]
    rfl
  refine take_ (i := 30) (N := some 81) (v := ?_) (a' := ?_) #[true, true, true, true, true, true, true, true, true, true, true, true, true, true, true, true, true, true, true, true, true, false, true, true, true, true, true, false, false, true, true, false, false, false] rfl rfl (by kernel_rfl) (fun _ _ _ h => h) (Or.inl ⟨by rfl, ?_⟩) hHeld ?_ ?_
  rotate_left
  · rintro w' ⟨s0, s1, s2, s3, s4, s5, s6, s7, s8, s9, s10, s11, s12, s13, s14, s15, s16, s17, s18, s19, s20⟩
    go_simp
    with_reducible rfl
  rotate_left
  · simp only [Act.put, List.setIfInBounds_toArray, List.set_cons_zero, List.set_cons_succ, i64_w, i32_w]
    rfl
  refine one_ (i := 21) (N := some 72) #[true, true, true, true, true, true, true, true, true, true, true, true, true, true, true, true, true, true, true, true, true, true, true, true, true, true, true, false, false, true, true, false, false, false] rfl rfl (by kernel_rfl) (by decide) (fun K hK => ?_)
  refine goes_ Tryz.func34 (by kernel_rfl) rfl #[.int .i64 (wrap64 (m1 + m2))] (by rfl) rfl rfl (by simp only [List.map_toArray, List.map_cons, List.map_nil]; rfl) ?_
  with_reducible refine ((HNd.out _)).mono ?_
  rintro e w23 ⟨rfl, hb⟩
  refine ⟨_, rfl, ?_⟩
  have hz4 := SPR.below hz3 hb
  refine hK.out _ _ ⟨((six_cells ((SPR.spl hz4).get 0 rfl)).1), ((six_cells ((SPR.spl hz4).get 0 rfl)).2.1), ((six_cells ((SPR.spl hz4).get 0 rfl)).2.2.1), ((six_cells ((SPR.spl hz4).get 0 rfl)).2.2.2.1), ((six_cells ((SPR.spl hz4).get 0 rfl)).2.2.2.2.1), ((six_cells ((SPR.spl hz4).get 0 rfl)).2.2.2.2.2.1), ((sev_cells ((SPR.spl hz4).get 1 rfl)).1), ((sev_cells ((SPR.spl hz4).get 1 rfl)).2.1), ((sev_cells ((SPR.spl hz4).get 1 rfl)).2.2.1), ((sev_cells ((SPR.spl hz4).get 1 rfl)).2.2.2.1), ((sev_cells ((SPR.spl hz4).get 1 rfl)).2.2.2.2.1), ((sev_cells ((SPR.spl hz4).get 1 rfl)).2.2.2.2.2.1), ((sev_cells ((SPR.spl hz4).get 1 rfl)).2.2.2.2.2.2.1), ((sev_cells ((SPR.spl hz4).get 2 rfl)).1), ((sev_cells ((SPR.spl hz4).get 2 rfl)).2.1), ((sev_cells ((SPR.spl hz4).get 2 rfl)).2.2.1), ((sev_cells ((SPR.spl hz4).get 2 rfl)).2.2.2.1), ((sev_cells ((SPR.spl hz4).get 2 rfl)).2.2.2.2.1), ((sev_cells ((SPR.spl hz4).get 2 rfl)).2.2.2.2.2.1), ((sev_cells ((SPR.spl hz4).get 2 rfl)).2.2.2.2.2.2.1), hz4⟩ (fun hHeld => ?_)
  clear hK K
  refine norm_ (a' := ?_) ?_ ?_
  rotate_left
  · show Act.put _ (some 72) _ = _
    simp only [Act.put, List.setIfInBounds_toArray, List.set_cons_zero, List.set_cons_succ, i64_w, i32_w]
    rfl
  refine one_ (i := 27) (N := some 78) #[true, true, true, true, true, true, true, true, true, true, true, true, true, true, true, true, true, true, true, true, true, true, true, true, true, true, true, true, false, true, true, false, false, false] rfl rfl (by kernel_rfl) (by decide) (fun K hK => ?_)
  refine goes_ Tryz.func34 (by kernel_rfl) rfl #[.int .i64 (wrap64 (wrap64 (m1 + m2) + m3))] (by rfl) rfl rfl (by simp only [List.map_toArray, List.map_cons, List.map_nil]; rfl) ?_
  with_reducible refine ((HNe.out _)).mono ?_
  rintro e w24 ⟨rfl, hb⟩
  refine ⟨_, rfl, ?_⟩
  have hz5 := SPR.below hz4 hb
  refine hK.out _ _ ⟨((six_cells ((SPR.spl hz5).get 0 rfl)).1), ((six_cells ((SPR.spl hz5).get 0 rfl)).2.1), ((six_cells ((SPR.spl hz5).get 0 rfl)).2.2.1), ((six_cells ((SPR.spl hz5).get 0 rfl)).2.2.2.1), ((six_cells ((SPR.spl hz5).get 0 rfl)).2.2.2.2.1), ((six_cells ((SPR.spl hz5).get 0 rfl)).2.2.2.2.2.1), ((sev_cells ((SPR.spl hz5).get 1 rfl)).1), ((sev_cells ((SPR.spl hz5).get 1 rfl)).2.1), ((sev_cells ((SPR.spl hz5).get 1 rfl)).2.2.1), ((sev_cells ((SPR.spl hz5).get 1 rfl)).2.2.2.1), ((sev_cells ((SPR.spl hz5).get 1 rfl)).2.2.2.2.1), ((sev_cells ((SPR.spl hz5).get 1 rfl)).2.2.2.2.2.1), ((sev_cells ((SPR.spl hz5).get 1 rfl)).2.2.2.2.2.2.1), ((sev_cells ((SPR.spl hz5).get 2 rfl)).1), ((sev_cells ((SPR.spl hz5).get 2 rfl)).2.1), ((sev_cells ((SPR.spl hz5).get 2 rfl)).2.2.1), ((sev_cells ((SPR.spl hz5).get 2 rfl)).2.2.2.1), ((sev_cells ((SPR.spl hz5).get 2 rfl)).2.2.2.2.1), ((sev_cells ((SPR.spl hz5).get 2 rfl)).2.2.2.2.2.1), ((sev_cells ((SPR.spl hz5).get 2 rfl)).2.2.2.2.2.2.1), hz5⟩ (fun hHeld => ?_)
  clear hK K
  refine norm_ (a' := ?_) ?_ ?_
  rotate_left
  · show Act.put _ (some 78) _ = _
    simp only [Act.put, List.setIfInBounds_toArray, List.set_cons_zero, List.set_cons_succ, i64_w, i32_w]
    rfl
  refine one_ (i := 28) (N := some 79) #[true, true, true, true, true, true, true, true, true, true, true, true, true, true, true, true, true, true, true, true, true, true, true, true, true, true, true, true, true, true, true, false, false, false] rfl rfl (by kernel_rfl) (by decide) (fun K hK => ?_)
  refine goes_ Tryz.func33 (by kernel_rfl) rfl #[.agg #[.int .i64 x.f0, .int .i64 x.f1, .string x.f2, .slice A3 x.f3.length c3, .slice A4 x.f4.length c4, .slice A5 x.f5.length c5], .agg #[.int .i64 3, .int .i64 (2 * (m1 + m2)), .string ⟨#[]⟩, .slice none 0 0, .slice none 0 0, .slice none 0 0], .agg #[.int .i64 3, .int .i64 (2 * (m1 + m2 + m3)), .string ⟨#[]⟩, .slice none 0 0, .slice none 0 0, .slice none 0 0]] (by rfl) rfl rfl (by simp only [List.map_toArray, List.map_cons, List.map_nil]; rfl) ?_
  with_reducible refine ((HSD.out _ _ _ hz5)).mono ?_
  rintro e w25 ⟨cs, rfl, hz6⟩
  obtain ⟨B3t, d3t, B4t, d4t, B5t, d5t, rfl⟩ := hz6.cells 2 rfl
  refine ⟨_, rfl, ?_⟩
  have hz7 := SPR.cut hz6
  refine hK.out _ _ ⟨((six_cells ((SPR.spl hz7).get 0 rfl)).1), ((six_cells ((SPR.spl hz7).get 0 rfl)).2.1), ((six_cells ((SPR.spl hz7).get 0 rfl)).2.2.1), ((six_cells ((SPR.spl hz7).get 0 rfl)).2.2.2.1), ((six_cells ((SPR.spl hz7).get 0 rfl)).2.2.2.2.1), ((six_cells ((SPR.spl hz7).get 0 rfl)).2.2.2.2.2.1), ((sev_cells ((SPR.spl hz7).get 1 rfl)).1), ((sev_cells ((SPR.spl hz7).get 1 rfl)).2.1), ((sev_cells ((SPR.spl hz7).get 1 rfl)).2.2.1), ((sev_cells ((SPR.spl hz7).get 1 rfl)).2.2.2.1), ((sev_cells ((SPR.spl hz7).get 1 rfl)).2.2.2.2.1), ((sev_cells ((SPR.spl hz7).get 1 rfl)).2.2.2.2.2.1), ((sev_cells ((SPR.spl hz7).get 1 rfl)).2.2.2.2.2.2.1), ((sev_cells ((SPR.spl hz7).get 2 rfl)).1), ((sev_cells ((SPR.spl hz7).get 2 rfl)).2.1), ((sev_cells ((SPR.spl hz7).get 2 rfl)).2.2.1), ((sev_cells ((SPR.spl hz7).get 2 rfl)).2.2.2.1), ((sev_cells ((SPR.spl hz7).get 2 rfl)).2.2.2.2.1), ((sev_cells ((SPR.spl hz7).get 2 rfl)).2.2.2.2.2.1), ((sev_cells ((SPR.spl hz7).get 2 rfl)).2.2.2.2.2.2.1), hz7⟩ (fun hHeld => ?_)
  clear hK K
  refine norm_ (a' := ?_) ?_ ?_
  rotate_left
  · show Act.put _ (some 79) _ = _
    simp only [Act.put, List.setIfInBounds_toArray, List.set_cons_zero, List.set_cons_succ, i64_w, i32_w]
    rfl
  refine one_ (i := 31) (N := some 82) #[true, true, true, true, true, true, true, true, true, true, true, true, true, true, true, true, true, true, true, true, true, true, true, true, true, true, true, true, true, true, true, true, false, false] rfl rfl (by kernel_rfl) (by decide) (fun K hK => ?_)
  refine goes_ Tryz.func19 (by kernel_rfl) rfl #[.agg #[.int .i64 x4.f0, .int .i64 x4.f1, .string x4.f2, .slice B3t x4.f3.length d3t, .slice B4t x4.f4.length d4t, .slice B5t x4.f5.length d5t, .int .i64 0], .agg #[.int .i64 x2.f0, .int .i64 x2.f1, .string x2.f2, .slice B3y x2.f3.length d3y, .slice B4y x2.f4.length d4y, .slice B5y x2.f5.length d5y]] (by rfl) rfl rfl (by simp only [List.map_toArray, List.map_cons, List.map_nil]; rfl) ?_
  with_reducible refine ((HG2.out _ hz6)).mono ?_
  rintro e w26 ⟨rfl, hb⟩
  refine ⟨_, rfl, ?_⟩
  have hz8 := SPR.below hz7 hb
  refine hK.out _ _ ⟨((six_cells ((SPR.spl hz8).get 0 rfl)).1), ((six_cells ((SPR.spl hz8).get 0 rfl)).2.1), ((six_cells ((SPR.spl hz8).get 0 rfl)).2.2.1), ((six_cells ((SPR.spl hz8).get 0 rfl)).2.2.2.1), ((six_cells ((SPR.spl hz8).get 0 rfl)).2.2.2.2.1), ((six_cells ((SPR.spl hz8).get 0 rfl)).2.2.2.2.2.1), ((sev_cells ((SPR.spl hz8).get 1 rfl)).1), ((sev_cells ((SPR.spl hz8).get 1 rfl)).2.1), ((sev_cells ((SPR.spl hz8).get 1 rfl)).2.2.1), ((sev_cells ((SPR.spl hz8).get 1 rfl)).2.2.2.1), ((sev_cells ((SPR.spl hz8).get 1 rfl)).2.2.2.2.1), ((sev_cells ((SPR.spl hz8).get 1 rfl)).2.2.2.2.2.1), ((sev_cells ((SPR.spl hz8).get 1 rfl)).2.2.2.2.2.2.1), ((sev_cells ((SPR.spl hz8).get 2 rfl)).1), ((sev_cells ((SPR.spl hz8).get 2 rfl)).2.1), ((sev_cells ((SPR.spl hz8).get 2 rfl)).2.2.1), ((sev_cells ((SPR.spl hz8).get 2 rfl)).2.2.2.1), ((sev_cells ((SPR.spl hz8).get 2 rfl)).2.2.2.2.1), ((sev_cells ((SPR.spl hz8).get 2 rfl)).2.2.2.2.2.1), ((sev_cells ((SPR.spl hz8).get 2 rfl)).2.2.2.2.2.2.1), hz8⟩ (fun hHeld => ?_)
  clear hK K
  refine norm_ (a' := ?_) ?_ ?_
  rotate_left
  · show Act.put _ (some 82) _ = _
    simp only [Act.put, List.setIfInBounds_toArray, List.set_cons_zero, List.set_cons_succ, i64_w, i32_w]
    rfl
  refine pure_ (i := 32) (N := some 83) (v := ?_) (a' := ?_) #[true, true, true, true, true, true, true, true, true, true, true, true, true, true, true, true, true, true, true, true, true, true, true, true, true, true, true, true, true, true, true, true, true, false] rfl rfl (by kernel_rfl) (fun _ _ _ h => h) (Or.inl ⟨by rfl, ?_⟩) ?_ ?_
  rotate_left
  · intro w'
    go_simp
    with_reducible rfl
  rotate_left
  · simp only [Act.put, List.setIfInBounds_toArray, List.set_cons_zero, List.set_cons_succ, i64_w, i32_w]
    rfl
  refine pure_ (i := 33) (N := some 8) (v := ?_) (a' := ?_) #[true, true, true, true, true, true, true, true, true, true, true, true, true, true, true, true, true, true, true, true, true, true, true, true, true, true, true, true, true, true, true, true, true, true] rfl rfl (by kernel_rfl) (fun _ _ _ h => h) (Or.inl ⟨by rfl, ?_⟩) ?_ ?_
  rotate_left
  · intro w'
    go_simp
    with_reducible rfl
  rotate_left
  · simp only [Act.put, List.setIfInBounds_toArray, List.set_cons_zero, List.set_cons_succ, i64_w, i32_w]
    rfl
  refine done_ (by kernel_rfl) ?_
  go_wp2_with fail
  go_ret
  exact ⟨rfl, hz8.bel⟩
set_option maxRecDepth 100000 in
set_option maxHeartbeats 20000000 in
theorem fnSliceSteps_0 (w0 : World) (hE : Env w0) (x : V) (hz : Sz x) (K H : Int) (s : ByteArray) (A3 A4 A5 : Option Addr) (n3 c3 n4 c4 n5 c5 : Nat) (hK : k26.K w0 x [.int .i64 K, .int .i64 H, .string s, .slice A3 n3 c3, .slice A4 n4 c4, .slice A5 n5 c5]) (m1 : Int) (zm1 : (Lit.int .u8 m1).wf = true) (m2 : Int) (zm2 : (Lit.int .u8 m2).wf = true) (m3 : Int) (zm3 : (Lit.int .u8 m3).wf = true) (hk : ¬(x.f0 = 4 ∨ x.f0 = 5)) :
    Calls Tryz.prog 9 #[.agg #[.int .i64 K, .int .i64 H, .string s, .slice A3 n3 c3, .slice A4 n4 c4, .slice A5 n5 c5], .int .u8 m1, .int .u8 m2, .int .u8 m3] w0 fun e w' => e = .returned (.bool true) ∧ Below w0.heap.size w0 w' := by
  have HKX := Lib.hid hk
  clear hk
  obtain ⟨w, hw⟩ : ∃ w, w = w0 := ⟨_, rfl⟩
  obtain ⟨B3, e3, B4, e4, B5, e5, he, l3, g3, l4, g4, l5, g5⟩ := k26_open hK
  simp only [List.cons.injEq, Value.int.injEq, Value.string.injEq, Value.slice.injEq, true_and, and_true] at he
  obtain ⟨rfl, rfl, rfl, ⟨rfl, rfl, rfl⟩, ⟨rfl, rfl, rfl⟩, ⟨rfl, rfl, rfl⟩⟩ := he
  clear l3 g3 l4 g4 l5 g5
  have bm1 := u8_in zm1
  have bm2 := u8_in zm2
  have bm3 := u8_in zm3
  clear zm1 zm2 zm3
  have HZ := Lib.hid hz
  have HF1 := Lib.hid (fun w1 hb => fits1_size w0 x x.f0 x.f1 x.f2 A3 A4 A5 x.f3.length c3 x.f4.length c4 x.f5.length c5 hK w1 hb)
  have HF := Lib.hid (fun w1 g (hg : g = w1.heap.size) hb => fits_at w0 hE hz hK w1 g hg hb)
  have HT := Lib.hid (fun h => toGo_any w0 _ x (Nat.lt_succ_self _) hz h _ hK)
  have HNU := Lib.hid (fun n w => number_any n w)
  have HKW := Lib.hid hK
  clear hE hz hK
  subst hw
  go_enter Tryz.func9, Tryz.ntmps9
  go_wp2_with fail
  obtain ⟨V, hV⟩ : ∃ V, V = w.heap.size := ⟨_, rfl⟩
  obtain ⟨W0, hW0⟩ : ∃ W0, W0 = w.alloc (.cells #[.int .i64 x.f0, .int .i64 x.f1, .string x.f2, .slice A3 x.f3.length c3, .slice A4 x.f4.length c4, .slice A5 x.f5.length c5] 26) := ⟨_, rfl⟩
  have hS0 : SPR w [(V, cv x A3 c3 A4 c4 A5 c5, 26)] [] W0 := by rw [hV, hW0]; exact (spr0 (Below.refl _ w)).more _ _
  rw [← hW0]
  try rw [← hV]
  have H0 := Lib.hid hS0
  clear hS0 hW0 hV
  have y := six_cells (H0.out.get 0 rfl)
  try go_wp2_with fail
  refine (HF1.out W0 H0.out.bel).mono ?_
  rintro e w1 ⟨r, rfl, hr, hb⟩
  have H1 := Lib.hid (H0.out.below hb)
  clear hb H0 y HF1
  cases r with
  | false =>
    go_wp2_with fail
    go_ret
    exact ⟨rfl, H1.out.bel⟩
  | true =>
  have SZ := Lib.hid (hr (by trivial))
  clear hr
  have y := six_cells (H1.out.get 0 rfl)
  go_wp2_with fail
  refine (HF.out w1 _ rfl H1.out.bel).mono ?_
  rintro e w2 ⟨r, rfl, hr, hb⟩
  have H2 := Lib.hid (((H1.out.more _ _).below hb).tk 1 0)
  clear hb H1 HF y
  have ya := six_cells (H2.out.get 0 rfl)
  cases r with
  | false =>
    go_wp2_with fail
    go_ret
    exact ⟨rfl, H2.out.bel⟩
  | true =>
  have HW := Lib.hid (hr (by trivial))
  clear hr
  have q3 : (x.f0 != 5) = true := by have := HKX.out; simp; omega
  have q4 : (x.f0 != 4) = true := by have := HKX.out; simp; omega
  go_wp2_with fail
  go_ret
  exact ⟨rfl, H2.out.bel⟩
set_option maxRecDepth 100000 in
set_option maxHeartbeats 20000000 in
theorem fnSliceSteps_any (w0 : World) (hE : Env w0) (x : V) (hz : Sz x) (K H : Int) (s : ByteArray) (A3 A4 A5 : Option Addr) (n3 c3 n4 c4 n5 c5 : Nat) (hK : k26.K w0 x [.int .i64 K, .int .i64 H, .string s, .slice A3 n3 c3, .slice A4 n4 c4, .slice A5 n5 c5]) (m1 : Int) (zm1 : (Lit.int .u8 m1).wf = true) (m2 : Int) (zm2 : (Lit.int .u8 m2).wf = true) (m3 : Int) (zm3 : (Lit.int .u8 m3).wf = true) :
    Calls Tryz.prog 9 #[.agg #[.int .i64 K, .int .i64 H, .string s, .slice A3 n3 c3, .slice A4 n4 c4, .slice A5 n5 c5], .int .u8 m1, .int .u8 m2, .int .u8 m3] w0 fun e w' => e = .returned (.bool true) ∧ Below w0.heap.size w0 w' := by
  by_cases k4 : x.f0 = 4
  · exact fnSliceSteps_4 w0 hE x hz K H s A3 A4 A5 n3 c3 n4 c4 n5 c5 hK m1 zm1 m2 zm2 m3 zm3 k4
  by_cases k5 : x.f0 = 5
  · exact fnSliceSteps_5 w0 hE x hz K H s A3 A4 A5 n3 c3 n4 c4 n5 c5 hK m1 zm1 m2 zm2 m3 zm3 k5
  exact fnSliceSteps_0 w0 hE x hz K H s A3 A4 A5 n3 c3 n4 c4 n5 c5 hK m1 zm1 m2 zm2 m3 zm3 (fun h => h.elim k4 k5)
end Go.Proofs.YtdaiodiafahkkaaGreatDoor.ValA
