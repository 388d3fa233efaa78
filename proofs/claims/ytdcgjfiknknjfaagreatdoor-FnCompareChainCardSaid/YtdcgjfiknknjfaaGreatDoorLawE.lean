/-
FnCompareChain: the order is transitive.
-/
import Derived.Test.YtdcgjfiknknjfaaGreatDoorLawD
set_option linter.unusedSimpArgs false
set_option linter.unusedVariables false
namespace Go.Proofs.YtdcgjfiknknjfaaGreatDoor.ValA
open Go.RowKit Go.Lib Go.Proofs.YtdcgjfiknknjfaaGreatDoorW.PrintWords Go.Proofs.YtdcgjfiknknjfaaGreatDoorW.PrintLast Go.Proofs.YtdcgjfiknknjfaaGreatDoorW.PrintMore Go.Proofs.YtdcgjfiknknjfaaGreatDoor.PzzFits1 Go.Proofs.YtdcgjfiknknjfaaGreatDoor.NumA
set_option maxRecDepth 100000 in
set_option maxHeartbeats 20000000 in
theorem fnCompareChain_any (w0 : World) (hE : Env w0) (xa : V) (hza : Sz xa) (Ka Ha : Int) (sa : ByteArray) (A3a A4a A5a : Option Addr) (n3a c3a n4a c4a n5a c5a : Nat) (hKa : k26.K w0 xa [.int .i64 Ka, .int .i64 Ha, .string sa, .slice A3a n3a c3a, .slice A4a n4a c4a, .slice A5a n5a c5a]) (xb : V) (hzb : Sz xb) (Kb Hb : Int) (sb : ByteArray) (A3b A4b A5b : Option Addr) (n3b c3b n4b c4b n5b c5b : Nat) (hKb : k26.K w0 xb [.int .i64 Kb, .int .i64 Hb, .string sb, .slice A3b n3b c3b, .slice A4b n4b c4b, .slice A5b n5b c5b]) (xc : V) (hzc : Sz xc) (Kc Hc : Int) (sc : ByteArray) (A3c A4c A5c : Option Addr) (n3c c3c n4c c4c n5c c5c : Nat) (hKc : k26.K w0 xc [.int .i64 Kc, .int .i64 Hc, .string sc, .slice A3c n3c c3c, .slice A4c n4c c4c, .slice A5c n5c c5c]) :
    Calls Tryz.prog 10 #[.agg #[.int .i64 Ka, .int .i64 Ha, .string sa, .slice A3a n3a c3a, .slice A4a n4a c4a, .slice A5a n5a c5a], .agg #[.int .i64 Kb, .int .i64 Hb, .string sb, .slice A3b n3b c3b, .slice A4b n4b c4b, .slice A5b n5b c5b], .agg #[.int .i64 Kc, .int .i64 Hc, .string sc, .slice A3c n3c c3c, .slice A4c n4c c4c, .slice A5c n5c c5c]] w0 fun e w' => e = .returned (.bool true) ∧ Below w0.heap.size w0 w' := by
  obtain ⟨w, hw⟩ : ∃ w, w = w0 := ⟨_, rfl⟩
  have HFa := Lib.hid (fun w1 hb => fits1_any w0 xa Ka Ha sa A3a A4a A5a n3a c3a n4a c4a n5a c5a hKa w1 hb)
  have HFb := Lib.hid (fun w1 hb => fits1_any w0 xb Kb Hb sb A3b A4b A5b n3b c3b n4b c4b n5b c5b hKb w1 hb)
  have HFc := Lib.hid (fun w1 hb => fits1_any w0 xc Kc Hc sc A3c A4c A5c n3c c3c n4c c4c n5c c5c hKc w1 hb)
  have HFI := Lib.hid (fun w1 hb => fit_two w0 hE xa hza Ka Ha sa A3a A4a A5a n3a c3a n4a c4a n5a c5a hKa xb hzb Kb Hb sb A3b A4b A5b n3b c3b n4b c4b n5b c5b hKb w1 hb)
  have HFC := Lib.hid (fun w1 hb => fit_any w0 hE xc hzc Kc Hc sc A3c A4c A5c n3c c3c n4c c4c n5c c5c hKc w1 hb)
  have HTa := Lib.hid (fun h => toGo_any w0 _ xa (Nat.lt_succ_self _) hza h _ hKa)
  have HTb := Lib.hid (fun h => toGo_any w0 _ xb (Nat.lt_succ_self _) hzb h _ hKb)
  have HTc := Lib.hid (fun h => toGo_any w0 _ xc (Nat.lt_succ_self _) hzc h _ hKc)
  have HPab := Lib.hid (fun h h' => compare_any _ xa (Nat.lt_succ_self _) h hza xb h' hzb)
  have HPbc := Lib.hid (fun h h' => compare_any _ xb (Nat.lt_succ_self _) h hzb xc h' hzc)
  have HPac := Lib.hid (fun h h' => compare_any _ xa (Nat.lt_succ_self _) h hza xc h' hzc)
  clear hE hza hKa hzb hKb hzc hKc
  subst hw
  go_enter Tryz.func10, Tryz.ntmps10
  go_wp2_with fail
  obtain ⟨A, hA⟩ : ∃ A, A = w.heap.size := ⟨_, rfl⟩
  obtain ⟨B, hB⟩ : ∃ B, B = w.heap.size + 1 := ⟨_, rfl⟩
  obtain ⟨C, hC⟩ : ∃ C, C = w.heap.size + 2 := ⟨_, rfl⟩
  obtain ⟨W0, hW0⟩ : ∃ W0, W0 = ((w.alloc (.cells #[.int .i64 Ka, .int .i64 Ha, .string sa, .slice A3a n3a c3a, .slice A4a n4a c4a, .slice A5a n5a c5a] 26)).alloc (.cells #[.int .i64 Kb, .int .i64 Hb, .string sb, .slice A3b n3b c3b, .slice A4b n4b c4b, .slice A5b n5b c5b] 26)).alloc (.cells #[.int .i64 Kc, .int .i64 Hc, .string sc, .slice A3c n3c c3c, .slice A4c n4c c4c, .slice A5c n5c c5c] 26) := ⟨_, rfl⟩
  have h0 : SPL w [(A, #[.int .i64 Ka, .int .i64 Ha, .string sa, .slice A3a n3a c3a, .slice A4a n4a c4a, .slice A5a n5a c5a], 26), (B, #[.int .i64 Kb, .int .i64 Hb, .string sb, .slice A3b n3b c3b, .slice A4b n4b c4b, .slice A5b n5b c5b], 26), (C, #[.int .i64 Kc, .int .i64 Hc, .string sc, .slice A3c n3c c3c, .slice A4c n4c c4c, .slice A5c n5c c5c], 26)] W0 := by rw [hA, hB, hC, hW0]; exact SPL.three w _ _ _ _ _ _ 
  rw [← hW0]
  try rw [← hC]
  try rw [← hB]
  try rw [← hA]
  have H0 := Lib.hid h0
  clear h0 hW0 hA hB hC
  have y := six_cells (H0.out.get 0 rfl)
  go_wp2_with fail
  refine (HFa.out W0 H0.out.1).mono ?_
  rintro e w1 ⟨r, rfl, hr, hb⟩
  have H1 := Lib.hid (H0.out.below hb)
  clear hb H0 y HFa
  cases r with
  | false =>
    go_wp2_with fail
    go_ret
    exact ⟨rfl, H1.out.1⟩
  | true =>
  have SZa := Lib.hid (hr (by trivial))
  clear hr
  have y := six_cells (H1.out.get 1 rfl)
  go_wp2_with fail
  refine (HFb.out w1 H1.out.1).mono ?_
  rintro e w2 ⟨r, rfl, hr, hb⟩
  have H2 := Lib.hid (H1.out.below hb)
  clear hb H1 y HFb
  cases r with
  | false =>
    go_wp2_with fail
    go_ret
    exact ⟨rfl, H2.out.1⟩
  | true =>
  have SZb := Lib.hid (hr (by trivial))
  clear hr
  have y := six_cells (H2.out.get 2 rfl)
  go_wp2_with fail
  refine (HFc.out w2 H2.out.1).mono ?_
  rintro e w3 ⟨r, rfl, hr, hb⟩
  have H3 := Lib.hid (H2.out.below hb)
  clear hb H2 y HFc
  cases r with
  | false =>
    go_wp2_with fail
    go_ret
    exact ⟨rfl, H3.out.1⟩
  | true =>
  have SZc := Lib.hid (hr (by trivial))
  clear hr
  have ya := six_cells (H3.out.get 0 rfl)
  have yb := six_cells (H3.out.get 1 rfl)
  go_wp2_with fail
  refine (HFI.out w3 H3.out.1).mono ?_
  rintro e w4 ⟨r, rfl, hr, hb⟩
  have H4 := Lib.hid (H3.out.below hb)
  clear hb H3 ya yb HFI
  cases r with
  | false =>
    go_wp2_with fail
    go_ret
    exact ⟨rfl, H4.out.1⟩
  | true =>
  have HW := Lib.hid (hr (by trivial))
  clear hr
  have yc := six_cells (H4.out.get 2 rfl)
  go_wp2_with fail
  refine (HFC.out w4 H4.out.1).mono ?_
  rintro e w5 ⟨r, rfl, hr, hb⟩
  have H5 := Lib.hid (H4.out.below hb)
  clear hb H4 yc HFC
  cases r with
  | false =>
    go_wp2_with fail
    go_ret
    exact ⟨rfl, H5.out.1⟩
  | true =>
  have HWC := Lib.hid (hr (by trivial))
  clear hr
  have HAB := Lib.hid (fun w1 hb => impl_compare w xa xb Ka Ha sa A3a A4a A5a n3a c3a n4a c4a n5a c5a Kb Hb sb A3b A4b A5b n3b c3b n4b c4b n5b c5b (HTa.out HW.out.1) (HTb.out HW.out.2) (cmpV xa xb) (HPab.out HW.out.1 HW.out.2) w1 hb)
  have HBC := Lib.hid (fun w1 hb => impl_compare w xb xc Kb Hb sb A3b A4b A5b n3b c3b n4b c4b n5b c5b Kc Hc sc A3c A4c A5c n3c c3c n4c c4c n5c c5c (HTb.out HW.out.2) (HTc.out HWC.out) (cmpV xb xc) (HPbc.out HW.out.2 HWC.out) w1 hb)
  have HAC := Lib.hid (fun w1 hb => impl_compare w xa xc Ka Ha sa A3a A4a A5a n3a c3a n4a c4a n5a c5a Kc Hc sc A3c A4c A5c n3c c3c n4c c4c n5c c5c (HTa.out HW.out.1) (HTc.out HWC.out) (cmpV xa xc) (HPac.out HW.out.1 HWC.out) w1 hb)
  have hch := cmpV_chain _ xa (Nat.lt_succ_self _) xb xc
  have s1 := cmpV_sg xa xb
  have s2 := cmpV_sg xb xc
  have s3 := cmpV_sg xa xc
  generalize cmpV xa xb = x at HAB hch s1
  generalize cmpV xb xc = y at HBC hch s2
  generalize cmpV xa xc = z at HAC hch s3
  have hcases : (x = 0 ∧ z = y) ∨ (x ≠ 0 ∧ y = 0 ∧ z = x) ∨ (x ≠ 0 ∧ y ≠ 0 ∧ x = y ∧ z = x) ∨ (x ≠ 0 ∧ y ≠ 0 ∧ x ≠ y) := by
    unfold Chain at hch
    omega
  have HX := Lib.hid hcases
  clear hcases hch s1 s2 s3 HTa HTb HTc HPab HPbc HPac HW HWC SZa SZb SZc
  have H01 := Lib.hid (fun w1 hb => impl_compare01 w w1 hb)
  have HN0 := Lib.hid (fun w => spec_Num0 w)
  simp only [vl, r0] at HN0
  have HN1 := Lib.hid (fun w => spec_Num1 w)
  go_wp2_with fail
  refine start_ (n := 12) (S := fun w' => w'.cell? ⟨A, 0, none⟩ = some (.int .i64 Ka) ∧ w'.cell? ⟨A, 1, none⟩ = some (.int .i64 Ha) ∧ w'.cell? ⟨A, 2, none⟩ = some (.string sa) ∧ w'.cell? ⟨A, 3, none⟩ = some (.slice A3a n3a c3a) ∧ w'.cell? ⟨A, 4, none⟩ = some (.slice A4a n4a c4a) ∧ w'.cell? ⟨A, 5, none⟩ = some (.slice A5a n5a c5a) ∧ w'.cell? ⟨B, 0, none⟩ = some (.int .i64 Kb) ∧ w'.cell? ⟨B, 1, none⟩ = some (.int .i64 Hb) ∧ w'.cell? ⟨B, 2, none⟩ = some (.string sb) ∧ w'.cell? ⟨B, 3, none⟩ = some (.slice A3b n3b c3b) ∧ w'.cell? ⟨B, 4, none⟩ = some (.slice A4b n4b c4b) ∧ w'.cell? ⟨B, 5, none⟩ = some (.slice A5b n5b c5b) ∧ w'.cell? ⟨C, 0, none⟩ = some (.int .i64 Kc) ∧ w'.cell? ⟨C, 1, none⟩ = some (.int .i64 Hc) ∧ w'.cell? ⟨C, 2, none⟩ = some (.string sc) ∧ w'.cell? ⟨C, 3, none⟩ = some (.slice A3c n3c c3c) ∧ w'.cell? ⟨C, 4, none⟩ = some (.slice A4c n4c c4c) ∧ w'.cell? ⟨C, 5, none⟩ = some (.slice A5c n5c c5c) ∧ SPL w [(A, #[.int .i64 Ka, .int .i64 Ha, .string sa, .slice A3a n3a c3a, .slice A4a n4a c4a, .slice A5a n5a c5a], 26), (B, #[.int .i64 Kb, .int .i64 Hb, .string sb, .slice A3b n3b c3b, .slice A4b n4b c4b, .slice A5b n5b c5b], 26), (C, #[.int .i64 Kc, .int .i64 Hc, .string sc, .slice A3c n3c c3c, .slice A4c n4c c4c, .slice A5c n5c c5c], 26)] w') (ds := []) #[false, false, false, false, false, false, false, false, false, false, false, false] (by kernel_rfl) rfl rfl ⟨((six_cells ((SPL.drew H5.out).get 0 rfl)).1), ((six_cells ((SPL.drew H5.out).get 0 rfl)).2.1), ((six_cells ((SPL.drew H5.out).get 0 rfl)).2.2.1), ((six_cells ((SPL.drew H5.out).get 0 rfl)).2.2.2.1), ((six_cells ((SPL.drew H5.out).get 0 rfl)).2.2.2.2.1), ((six_cells ((SPL.drew H5.out).get 0 rfl)).2.2.2.2.2.1), ((six_cells ((SPL.drew H5.out).get 1 rfl)).1), ((six_cells ((SPL.drew H5.out).get 1 rfl)).2.1), ((six_cells ((SPL.drew H5.out).get 1 rfl)).2.2.1), ((six_cells ((SPL.drew H5.out).get 1 rfl)).2.2.2.1), ((six_cells ((SPL.drew H5.out).get 1 rfl)).2.2.2.2.1), ((six_cells ((SPL.drew H5.out).get 1 rfl)).2.2.2.2.2.1), ((six_cells ((SPL.drew H5.out).get 2 rfl)).1), ((six_cells ((SPL.drew H5.out).get 2 rfl)).2.1), ((six_cells ((SPL.drew H5.out).get 2 rfl)).2.2.1), ((six_cells ((SPL.drew H5.out).get 2 rfl)).2.2.2.1), ((six_cells ((SPL.drew H5.out).get 2 rfl)).2.2.2.2.1), ((six_cells ((SPL.drew H5.out).get 2 rfl)).2.2.2.2.2.1), (SPL.drew H5.out)⟩ (fun hHeld => ?_)
  refine take_ (i := 0) (N := some 32) (v := ?_) (a' := ?_) #[true, false, false, false, false, false, false, false, false, false, false, false] rfl rfl (by kernel_rfl) (fun _ _ _ h => h) (Or.inl ⟨by rfl, ?_⟩) hHeld ?_ ?_
  rotate_left
  · rintro w' ⟨s0, s1, s2, s3, s4, s5, s6, s7, s8, s9, s10, s11, s12, s13, s14, s15, s16, s17, s18⟩
    go_simp
    with_reducible rfl
  rotate_left
  · simp only [Act.put, List.setIfInBounds_toArray, List.set_cons_zero, List.set_cons_succ, i64_w, i32_w]
    rfl
  refine take_ (i := 1) (N := some 33) (v := ?_) (a' := ?_) #[true, true, false, false, false, false, false, false, false, false, false, false] rfl rfl (by kernel_rfl) (fun _ _ _ h => h) (Or.inl ⟨by rfl, ?_⟩) hHeld ?_ ?_
  rotate_left
  · rintro w' ⟨s0, s1, s2, s3, s4, s5, s6, s7, s8, s9, s10, s11, s12, s13, s14, s15, s16, s17, s18⟩
    go_simp
    with_reducible rfl
  rotate_left
  · simp only [Act.put, List.setIfInBounds_toArray, List.set_cons_zero, List.set_cons_succ, i64_w, i32_w]
    rfl
  refine take_ (i := 3) (N := some 35) (v := ?_) (a' := ?_) #[true, true, false, true, false, false, false, false, false, false, false, false] rfl rfl (by kernel_rfl) (fun _ _ _ h => h) (Or.inl ⟨by rfl, ?_⟩) hHeld ?_ ?_
  rotate_left
  · rintro w' ⟨s0, s1, s2, s3, s4, s5, s6, s7, s8, s9, s10, s11, s12, s13, s14, s15, s16, s17, s18⟩
    go_simp
    with_reducible rfl
  rotate_left
  · simp only [Act.put, List.setIfInBounds_toArray, List.set_cons_zero, List.set_cons_succ, i64_w, i32_w]
    rfl
  refine take_ (i := 4) (N := some 36) (v := ?_) (a' := ?_) #[true, true, false, true, true, false, false, false, false, false, false, false] rfl rfl (by kernel_rfl) (fun _ _ _ h => h) (Or.inl ⟨by rfl, ?_⟩) hHeld ?_ ?_
  rotate_left
  · rintro w' ⟨s0, s1, s2, s3, s4, s5, s6, s7, s8, s9, s10, s11, s12, s13, s14, s15, s16, s17, s18⟩
    go_simp
    with_reducible rfl
  rotate_left
  · simp only [Act.put, List.setIfInBounds_toArray, List.set_cons_zero, List.set_cons_succ, i64_w, i32_w]
    rfl
  refine take_ (i := 6) (N := some 38) (v := ?_) (a' := ?_) #[true, true, false, true, true, false, true, false, false, false, false, false] rfl rfl (by kernel_rfl) (fun _ _ _ h => h) (Or.inl ⟨by rfl, ?_⟩) hHeld ?_ ?_
  rotate_left
  · rintro w' ⟨s0, s1, s2, s3, s4, s5, s6, s7, s8, s9, s10, s11, s12, s13, s14, s15, s16, s17, s18⟩
    go_simp
    with_reducible rfl
  rotate_left
  · simp only [Act.put, List.setIfInBounds_toArray, List.set_cons_zero, List.set_cons_succ, i64_w, i32_w]
    rfl
  refine take_ (i := 7) (N := some 39) (v := ?_) (a' := ?_) #[true, true, false, true, true, false, true, true, false, false, false, false] rfl rfl (by kernel_rfl) (fun _ _ _ h => h) (Or.inl ⟨by rfl, ?_⟩) hHeld ?_ ?_
  rotate_left
  · rintro w' ⟨s0, s1, s2, s3, s4, s5, s6, s7, s8, s9, s10, s11, s12, s13, s14, s15, s16, s17, s18⟩
    go_simp
    with_reducible rfl
  rotate_left
  · simp only [Act.put, List.setIfInBounds_toArray, List.set_cons_zero, List.set_cons_succ, i64_w, i32_w]
    rfl
  refine one_ (i := 2) (N := some 34) #[true, true, true, true, true, false, true, true, false, false, false, false] rfl rfl (by kernel_rfl) (by decide) (fun K hK => ?_)
  refine goes_ Tryz.func29 (by kernel_rfl) rfl #[.agg #[.int .i64 Ka, .int .i64 Ha, .string sa, .slice A3a n3a c3a, .slice A4a n4a c4a, .slice A5a n5a c5a], .agg #[.int .i64 Kb, .int .i64 Hb, .string sb, .slice A3b n3b c3b, .slice A4b n4b c4b, .slice A5b n5b c5b]] (by rfl) rfl rfl (by simp only [List.map_toArray, List.map_cons, List.map_nil]; rfl) ?_
  with_reducible refine ((HAB.out _ (SPL.bel (hHeld.2.2.2.2.2.2.2.2.2.2.2.2.2.2.2.2.2.2)))).mono ?_
  rintro e w6 ⟨rfl, hb⟩
  refine ⟨_, rfl, ?_⟩
  have hz1 := SPL.below (hHeld.2.2.2.2.2.2.2.2.2.2.2.2.2.2.2.2.2.2) hb
  refine hK.out _ _ ⟨((six_cells (hz1.get 0 rfl)).1), ((six_cells (hz1.get 0 rfl)).2.1), ((six_cells (hz1.get 0 rfl)).2.2.1), ((six_cells (hz1.get 0 rfl)).2.2.2.1), ((six_cells (hz1.get 0 rfl)).2.2.2.2.1), ((six_cells (hz1.get 0 rfl)).2.2.2.2.2.1), ((six_cells (hz1.get 1 rfl)).1), ((six_cells (hz1.get 1 rfl)).2.1), ((six_cells (hz1.get 1 rfl)).2.2.1), ((six_cells (hz1.get 1 rfl)).2.2.2.1), ((six_cells (hz1.get 1 rfl)).2.2.2.2.1), ((six_cells (hz1.get 1 rfl)).2.2.2.2.2.1), ((six_cells (hz1.get 2 rfl)).1), ((six_cells (hz1.get 2 rfl)).2.1), ((six_cells (hz1.get 2 rfl)).2.2.1), ((six_cells (hz1.get 2 rfl)).2.2.2.1), ((six_cells (hz1.get 2 rfl)).2.2.2.2.1), ((six_cells (hz1.get 2 rfl)).2.2.2.2.2.1), hz1⟩ (fun hHeld => ?_)
  clear hK K
  refine norm_ (a' := ?_) ?_ ?_
  rotate_left
  · show Act.put _ (some 34) _ = _
    simp only [Act.put, List.setIfInBounds_toArray, List.set_cons_zero, List.set_cons_succ, i64_w, i32_w]
    rfl
  refine one_ (i := 5) (N := some 37) #[true, true, true, true, true, true, true, true, false, false, false, false] rfl rfl (by kernel_rfl) (by decide) (fun K hK => ?_)
  refine goes_ Tryz.func29 (by kernel_rfl) rfl #[.agg #[.int .i64 Kb, .int .i64 Hb, .string sb, .slice A3b n3b c3b, .slice A4b n4b c4b, .slice A5b n5b c5b], .agg #[.int .i64 Kc, .int .i64 Hc, .string sc, .slice A3c n3c c3c, .slice A4c n4c c4c, .slice A5c n5c c5c]] (by rfl) rfl rfl (by simp only [List.map_toArray, List.map_cons, List.map_nil]; rfl) ?_
  with_reducible refine ((HBC.out _ (SPL.bel (hHeld.2.2.2.2.2.2.2.2.2.2.2.2.2.2.2.2.2.2)))).mono ?_
  rintro e w7 ⟨rfl, hb⟩
  refine ⟨_, rfl, ?_⟩
  have hz2 := SPL.below (hHeld.2.2.2.2.2.2.2.2.2.2.2.2.2.2.2.2.2.2) hb
  refine hK.out _ _ ⟨((six_cells (hz2.get 0 rfl)).1), ((six_cells (hz2.get 0 rfl)).2.1), ((six_cells (hz2.get 0 rfl)).2.2.1), ((six_cells (hz2.get 0 rfl)).2.2.2.1), ((six_cells (hz2.get 0 rfl)).2.2.2.2.1), ((six_cells (hz2.get 0 rfl)).2.2.2.2.2.1), ((six_cells (hz2.get 1 rfl)).1), ((six_cells (hz2.get 1 rfl)).2.1), ((six_cells (hz2.get 1 rfl)).2.2.1), ((six_cells (hz2.get 1 rfl)).2.2.2.1), ((six_cells (hz2.get 1 rfl)).2.2.2.2.1), ((six_cells (hz2.get 1 rfl)).2.2.2.2.2.1), ((six_cells (hz2.get 2 rfl)).1), ((six_cells (hz2.get 2 rfl)).2.1), ((six_cells (hz2.get 2 rfl)).2.2.1), ((six_cells (hz2.get 2 rfl)).2.2.2.1), ((six_cells (hz2.get 2 rfl)).2.2.2.2.1), ((six_cells (hz2.get 2 rfl)).2.2.2.2.2.1), hz2⟩ (fun hHeld => ?_)
  clear hK K
  refine norm_ (a' := ?_) ?_ ?_
  rotate_left
  · show Act.put _ (some 37) _ = _
    simp only [Act.put, List.setIfInBounds_toArray, List.set_cons_zero, List.set_cons_succ, i64_w, i32_w]
    rfl
  refine one_ (i := 8) (N := some 40) #[true, true, true, true, true, true, true, true, true, false, false, false] rfl rfl (by kernel_rfl) (by decide) (fun K hK => ?_)
  refine goes_ Tryz.func29 (by kernel_rfl) rfl #[.agg #[.int .i64 Ka, .int .i64 Ha, .string sa, .slice A3a n3a c3a, .slice A4a n4a c4a, .slice A5a n5a c5a], .agg #[.int .i64 Kc, .int .i64 Hc, .string sc, .slice A3c n3c c3c, .slice A4c n4c c4c, .slice A5c n5c c5c]] (by rfl) rfl rfl (by simp only [List.map_toArray, List.map_cons, List.map_nil]; rfl) ?_
  with_reducible refine ((HAC.out _ (SPL.bel (hHeld.2.2.2.2.2.2.2.2.2.2.2.2.2.2.2.2.2.2)))).mono ?_
  rintro e w8 ⟨rfl, hb⟩
  refine ⟨_, rfl, ?_⟩
  have hz3 := SPL.below (hHeld.2.2.2.2.2.2.2.2.2.2.2.2.2.2.2.2.2.2) hb
  refine hK.out _ _ ⟨((six_cells (hz3.get 0 rfl)).1), ((six_cells (hz3.get 0 rfl)).2.1), ((six_cells (hz3.get 0 rfl)).2.2.1), ((six_cells (hz3.get 0 rfl)).2.2.2.1), ((six_cells (hz3.get 0 rfl)).2.2.2.2.1), ((six_cells (hz3.get 0 rfl)).2.2.2.2.2.1), ((six_cells (hz3.get 1 rfl)).1), ((six_cells (hz3.get 1 rfl)).2.1), ((six_cells (hz3.get 1 rfl)).2.2.1), ((six_cells (hz3.get 1 rfl)).2.2.2.1), ((six_cells (hz3.get 1 rfl)).2.2.2.2.1), ((six_cells (hz3.get 1 rfl)).2.2.2.2.2.1), ((six_cells (hz3.get 2 rfl)).1), ((six_cells (hz3.get 2 rfl)).2.1), ((six_cells (hz3.get 2 rfl)).2.2.1), ((six_cells (hz3.get 2 rfl)).2.2.2.1), ((six_cells (hz3.get 2 rfl)).2.2.2.2.1), ((six_cells (hz3.get 2 rfl)).2.2.2.2.2.1), hz3⟩ (fun hHeld => ?_)
  clear hK K
  refine norm_ (a' := ?_) ?_ ?_
  rotate_left
  · show Act.put _ (some 40) _ = _
    simp only [Act.put, List.setIfInBounds_toArray, List.set_cons_zero, List.set_cons_succ, i64_w, i32_w]
    rfl
  refine pure_ (i := 9) (N := some 7) (v := ?_) (a' := ?_) #[true, true, true, true, true, true, true, true, true, true, false, false] rfl rfl (by kernel_rfl) (fun _ _ _ h => h) (Or.inl ⟨by rfl, ?_⟩) ?_ ?_
  rotate_left
  · intro w'
    go_simp
    with_reducible rfl
  rotate_left
  · simp only [Act.put, List.setIfInBounds_toArray, List.set_cons_zero, List.set_cons_succ, i64_w, i32_w]
    rfl
  refine pure_ (i := 10) (N := some 8) (v := ?_) (a' := ?_) #[true, true, true, true, true, true, true, true, true, true, true, false] rfl rfl (by kernel_rfl) (fun _ _ _ h => h) (Or.inl ⟨by rfl, ?_⟩) ?_ ?_
  rotate_left
  · intro w'
    go_simp
    with_reducible rfl
  rotate_left
  · simp only [Act.put, List.setIfInBounds_toArray, List.set_cons_zero, List.set_cons_succ, i64_w, i32_w]
    rfl
  refine pure_ (i := 11) (N := some 9) (v := ?_) (a' := ?_) #[true, true, true, true, true, true, true, true, true, true, true, true] rfl rfl (by kernel_rfl) (fun _ _ _ h => h) (Or.inl ⟨by rfl, ?_⟩) ?_ ?_
  rotate_left
  · intro w'
    go_simp
    with_reducible rfl
  rotate_left
  · simp only [Act.put, List.setIfInBounds_toArray, List.set_cons_zero, List.set_cons_succ, i64_w, i32_w]
    rfl
  refine done_ (by kernel_rfl) ?_
  have H8 := Lib.hid hz3.1
  clear hz1 hz2 hz3 hHeld HAB HBC HAC
  go_wp2_with fail
  refine (HN0.out _).mono ?_
  rintro e w9 ⟨rfl, hb⟩
  have H9 := Lib.hid (H8.out.trans (hb.mono H8.out.size))
  clear hb H8
  go_wp2_with fail
  refine (HN1.out _).mono ?_
  rintro e w10 ⟨rfl, hb⟩
  have H10 := Lib.hid (H9.out.trans (hb.mono H9.out.size))
  clear hb H9
  go_wp2_with fail
  refine (H01.out _ H10.out).mono ?_
  rintro e w11 ⟨rfl, hb⟩
  have H11 := Lib.hid (H10.out.trans (hb.mono H10.out.size))
  clear hb H10
  rcases HX.out with ⟨e1, e2⟩ | ⟨e1, e2, e3⟩ | ⟨e1, e2, e3, e4⟩ | ⟨e1, e2, e3⟩
  · have q1 : (x == 0) = true := by simpa using e1
    have q2 : (z == y) = true := by simpa using e2
    clear e1 e2
    go_wp2_with fail
    go_ret
    exact ⟨rfl, H11.out⟩
  · have q1 : (x == 0) = false := by simpa using e1
    have q2 : (y == 0) = true := by simpa using e2
    have q3 : (z == x) = true := by simpa using e3
    clear e1 e2 e3
    go_wp2_with fail
    go_ret
    exact ⟨rfl, H11.out⟩
  · have q1 : (x == 0) = false := by simpa using e1
    have q2 : (y == 0) = false := by simpa using e2
    have q3 : (x == y) = true := by simpa using e3
    have q4 : (z == x) = true := by simpa using e4
    clear e1 e2 e3 e4
    go_wp2_with fail
    go_ret
    exact ⟨rfl, H11.out⟩
  · have q1 : (x == 0) = false := by simpa using e1
    have q2 : (y == 0) = false := by simpa using e2
    have q3 : (x == y) = false := by simpa using e3
    clear e1 e2 e3
    go_wp2_with fail
    go_ret
    exact ⟨rfl, H11.out⟩
end Go.Proofs.YtdcgjfiknknjfaaGreatDoor.ValA
