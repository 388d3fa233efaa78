/-
FnCompareBack: of two values exchanged the order is the opposite one.
-/
import Derived.Test.YtdcgjfiknknjfaaGreatDoorMJ
set_option linter.unusedSimpArgs false
set_option linter.unusedVariables false
namespace Go.Proofs.YtdcgjfiknknjfaaGreatDoor.ValA
open Go.RowKit Go.Lib Go.Proofs.YtdcgjfiknknjfaaGreatDoorW.PrintWords Go.Proofs.YtdcgjfiknknjfaaGreatDoorW.PrintLast Go.Proofs.YtdcgjfiknknjfaaGreatDoorW.PrintMore Go.Proofs.YtdcgjfiknknjfaaGreatDoor.PzzFits1 Go.Proofs.YtdcgjfiknknjfaaGreatDoor.NumA
theorem spec_Num1 (w : World) : Calls Tryz.prog 20 #[.int .i64 1] w fun e w' => e = .returned (.agg #[.int .i64 3, .int .i64 2, .string ⟨#[]⟩, .slice none 0 0, .slice none 0 0, .slice none 0 0]) ∧ Below w.heap.size w w' := by
  go_enter Tryz.func20, Tryz.ntmps20
  go_wp2_with fail
  refine bodyPost_ret (v := .agg #[.int .i64 3, .int .i64 2, .string ⟨#[]⟩, .slice none 0 0, .slice none 0 0, .slice none 0 0]) (by simp [results, Tryz.results20, go_sem]) rfl ⟨rfl, ?_⟩
  exact (Below.refl _ w).alloc (Nat.le_refl _) _
/-- A number as a value. -/
def nV (h : Int) : V := ⟨3, h, ⟨#[]⟩, [], [], []⟩
theorem toGo_nV (w0 : World) (h : Int) (hj : JN h) : ToGo w0 (nV h) [.int .i64 3, .int .i64 h, .string ⟨#[]⟩, .slice none 0 0, .slice none 0 0, .slice none 0 0] :=
  toGo_flat w0 (nV h) (by show (0 : Int) ≤ 3; omega) (by show (3 : Int) ≤ 4; omega) hj none none none 0 0 0
theorem compare_nV (h k : Int) (hj : JN h) (hk : JN k) : ∀ g g' n m w, G n w (nV h) g → G m w (nV k) g' → Calls Tryz.prog 49 #[g, g'] w (Gz (h - k).sign w) := by
  intro g g' n m w h1 h2
  rw [h1.flat_inv (by show (3 : Int) ≤ 4; omega), h2.flat_inv (by show (3 : Int) ≤ 4; omega)]
  exact cmp_nums h k hj hk w
theorem impl_compare01 (w0 : World) (w : World) (hb : Below w0.heap.size w0 w) :
    Calls Tryz.prog 29 #[.agg #[.int .i64 3, .int .i64 0, .string ⟨#[]⟩, .slice none 0 0, .slice none 0 0, .slice none 0 0], .agg #[.int .i64 3, .int .i64 2, .string ⟨#[]⟩, .slice none 0 0, .slice none 0 0, .slice none 0 0]] w fun e w' => e = .returned (.int .i64 (-1)) ∧ Below w.heap.size w w' :=
  impl_compare w0 (nV 0) (nV 2) 3 0 ⟨#[]⟩ none none none 0 0 0 0 0 0 3 2 ⟨#[]⟩ none none none 0 0 0 0 0 0 (toGo_nV w0 0 (by unfold JN; omega)) (toGo_nV w0 2 (by unfold JN; omega)) (-1) (compare_nV 0 2 (by unfold JN; omega) (by unfold JN; omega)) w hb
set_option maxRecDepth 100000 in
set_option maxHeartbeats 20000000 in
theorem fnCompareBack_any (w0 : World) (hE : Env w0) (xa : V) (hza : Sz xa) (Ka Ha : Int) (sa : ByteArray) (A3a A4a A5a : Option Addr) (n3a c3a n4a c4a n5a c5a : Nat) (hKa : k26.K w0 xa [.int .i64 Ka, .int .i64 Ha, .string sa, .slice A3a n3a c3a, .slice A4a n4a c4a, .slice A5a n5a c5a]) (xb : V) (hzb : Sz xb) (Kb Hb : Int) (sb : ByteArray) (A3b A4b A5b : Option Addr) (n3b c3b n4b c4b n5b c5b : Nat) (hKb : k26.K w0 xb [.int .i64 Kb, .int .i64 Hb, .string sb, .slice A3b n3b c3b, .slice A4b n4b c4b, .slice A5b n5b c5b]) :
    Calls Tryz.prog 9 #[.agg #[.int .i64 Ka, .int .i64 Ha, .string sa, .slice A3a n3a c3a, .slice A4a n4a c4a, .slice A5a n5a c5a], .agg #[.int .i64 Kb, .int .i64 Hb, .string sb, .slice A3b n3b c3b, .slice A4b n4b c4b, .slice A5b n5b c5b]] w0 fun e w' => e = .returned (.bool true) ∧ Below w0.heap.size w0 w' := by
  obtain ⟨w, hw⟩ : ∃ w, w = w0 := ⟨_, rfl⟩
  have HFa := Lib.hid (fun w1 hb => fits1_any w0 xa Ka Ha sa A3a A4a A5a n3a c3a n4a c4a n5a c5a hKa w1 hb)
  have HFb := Lib.hid (fun w1 hb => fits1_any w0 xb Kb Hb sb A3b A4b A5b n3b c3b n4b c4b n5b c5b hKb w1 hb)
  have HFI := Lib.hid (fun w1 hb => fit_two w0 hE xa hza Ka Ha sa A3a A4a A5a n3a c3a n4a c4a n5a c5a hKa xb hzb Kb Hb sb A3b A4b A5b n3b c3b n4b c4b n5b c5b hKb w1 hb)
  have HTa := Lib.hid (fun h => toGo_any w0 _ xa (Nat.lt_succ_self _) hza h _ hKa)
  have HTb := Lib.hid (fun h => toGo_any w0 _ xb (Nat.lt_succ_self _) hzb h _ hKb)
  have HPab := Lib.hid (fun h h' => compare_any _ xa (Nat.lt_succ_self _) h hza xb h' hzb)
  have HPba := Lib.hid (fun h h' => compare_any _ xb (Nat.lt_succ_self _) h hzb xa h' hza)
  have HPaa := Lib.hid (fun h h' => compare_any _ xa (Nat.lt_succ_self _) h hza xa h' hza)
  clear hE hza hKa hzb hKb
  subst hw
  go_enter Tryz.func9, Tryz.ntmps9
  go_wp2_with fail
  obtain ⟨A, hA⟩ : ∃ A, A = w.heap.size := ⟨_, rfl⟩
  obtain ⟨B, hB⟩ : ∃ B, B = w.heap.size + 1 := ⟨_, rfl⟩
  obtain ⟨W0, hW0⟩ : ∃ W0, W0 = (w.alloc (.cells #[.int .i64 Ka, .int .i64 Ha, .string sa, .slice A3a n3a c3a, .slice A4a n4a c4a, .slice A5a n5a c5a] 26)).alloc (.cells #[.int .i64 Kb, .int .i64 Hb, .string sb, .slice A3b n3b c3b, .slice A4b n4b c4b, .slice A5b n5b c5b] 26) := ⟨_, rfl⟩
  have h0 : SPL w [(A, #[.int .i64 Ka, .int .i64 Ha, .string sa, .slice A3a n3a c3a, .slice A4a n4a c4a, .slice A5a n5a c5a], 26), (B, #[.int .i64 Kb, .int .i64 Hb, .string sb, .slice A3b n3b c3b, .slice A4b n4b c4b, .slice A5b n5b c5b], 26)] W0 := by rw [hA, hB, hW0]; exact SPL.two w _ _ _ _ 
  rw [← hW0]
  try rw [← hB]
  try rw [← hA]
  have H0 := Lib.hid h0
  clear h0 hW0 hA hB
  have y := six_cells (H0.out.get 0 rfl)
  go_wp2_with fail
  refine (HFa.out W0 H0.out.1).mono ?_
  rintro e w1 ⟨r, rfl, hr, hb⟩
  have H1 := Lib.hid (H0.out.below hb)
  clear hb H0 y HFa
  cases r with
  | false =>
    go_wp2_with fail
    go_ret
    exact ⟨rfl, H1.out.1⟩
  | true =>
  have SZa := Lib.hid (hr (by trivial))
  clear hr
  have y := six_cells (H1.out.get 1 rfl)
  go_wp2_with fail
  refine (HFb.out w1 H1.out.1).mono ?_
  rintro e w2 ⟨r, rfl, hr, hb⟩
  have H2 := Lib.hid (H1.out.below hb)
  clear hb H1 y HFb
  cases r with
  | false =>
    go_wp2_with fail
    go_ret
    exact ⟨rfl, H2.out.1⟩
  | true =>
  have SZb := Lib.hid (hr (by trivial))
  clear hr
  have ya := six_cells (H2.out.get 0 rfl)
  have yb := six_cells (H2.out.get 1 rfl)
  go_wp2_with fail
  refine (HFI.out w2 H2.out.1).mono ?_
  rintro e w3 ⟨r, rfl, hr, hb⟩
  have H3 := Lib.hid (H2.out.below hb)
  clear hb H2 ya yb HFI
  cases r with
  | false =>
    go_wp2_with fail
    go_ret
    exact ⟨rfl, H3.out.1⟩
  | true =>
  have HW := Lib.hid (hr (by trivial))
  clear hr
  have HAB := Lib.hid (fun w1 hb => impl_compare w xa xb Ka Ha sa A3a A4a A5a n3a c3a n4a c4a n5a c5a Kb Hb sb A3b A4b A5b n3b c3b n4b c4b n5b c5b (HTa.out HW.out.1) (HTb.out HW.out.2) (cmpV xa xb) (HPab.out HW.out.1 HW.out.2) w1 hb)
  have HBA := Lib.hid (fun w1 hb => impl_compare w xb xa Kb Hb sb A3b A4b A5b n3b c3b n4b c4b n5b c5b Ka Ha sa A3a A4a A5a n3a c3a n4a c4a n5a c5a (HTb.out HW.out.2) (HTa.out HW.out.1) (cmpV xb xa) (HPba.out HW.out.2 HW.out.1) w1 hb)
  have HAA := Lib.hid (fun w1 hb => impl_compare w xa xa Ka Ha sa A3a A4a A5a n3a c3a n4a c4a n5a c5a Ka Ha sa A3a A4a A5a n3a c3a n4a c4a n5a c5a (HTa.out HW.out.1) (HTa.out HW.out.1) (cmpV xa xa) (HPaa.out HW.out.1 HW.out.1) w1 hb)
  rw [cmpV_self] at HAA
  have hs := cmpV_sg xa xb
  have hn := cmpV_anti _ xa (Nat.lt_succ_self _) xb
  generalize cmpV xa xb = z at HAB hs hn
  generalize cmpV xb xa = z' at HBA hn
  have hneg : wrap64 (-z') = z := by unfold wrap64; omega
  have hzz : (z == z) = true := by simp
  clear hs hn HTa HTb HPab HPba HPaa HW SZa SZb
  have H01 := Lib.hid (fun w1 hb => impl_compare01 w w1 hb)
  have HN0 := Lib.hid (fun w => spec_Num0 w)
  simp only [vl, r0] at HN0
  have HN1 := Lib.hid (fun w => spec_Num1 w)
  go_wp2_with fail
  refine start_ (n := 21) (S := fun w' => w'.cell? ⟨A, 0, none⟩ = some (.int .i64 Ka) ∧ w'.cell? ⟨A, 1, none⟩ = some (.int .i64 Ha) ∧ w'.cell? ⟨A, 2, none⟩ = some (.string sa) ∧ w'.cell? ⟨A, 3, none⟩ = some (.slice A3a n3a c3a) ∧ w'.cell? ⟨A, 4, none⟩ = some (.slice A4a n4a c4a) ∧ w'.cell? ⟨A, 5, none⟩ = some (.slice A5a n5a c5a) ∧ w'.cell? ⟨B, 0, none⟩ = some (.int .i64 Kb) ∧ w'.cell? ⟨B, 1, none⟩ = some (.int .i64 Hb) ∧ w'.cell? ⟨B, 2, none⟩ = some (.string sb) ∧ w'.cell? ⟨B, 3, none⟩ = some (.slice A3b n3b c3b) ∧ w'.cell? ⟨B, 4, none⟩ = some (.slice A4b n4b c4b) ∧ w'.cell? ⟨B, 5, none⟩ = some (.slice A5b n5b c5b) ∧ SPL w [(A, #[.int .i64 Ka, .int .i64 Ha, .string sa, .slice A3a n3a c3a, .slice A4a n4a c4a, .slice A5a n5a c5a], 26), (B, #[.int .i64 Kb, .int .i64 Hb, .string sb, .slice A3b n3b c3b, .slice A4b n4b c4b, .slice A5b n5b c5b], 26)] w') (ds := []) #[false, false, false, false, false, false, false, false, false, false, false, false, false, false, false, false, false, false, false, false, false] (by kernel_rfl) rfl rfl ⟨((six_cells ((SPL.drew H3.out).get 0 rfl)).1), ((six_cells ((SPL.drew H3.out).get 0 rfl)).2.1), ((six_cells ((SPL.drew H3.out).get 0 rfl)).2.2.1), ((six_cells ((SPL.drew H3.out).get 0 rfl)).2.2.2.1), ((six_cells ((SPL.drew H3.out).get 0 rfl)).2.2.2.2.1), ((six_cells ((SPL.drew H3.out).get 0 rfl)).2.2.2.2.2.1), ((six_cells ((SPL.drew H3.out).get 1 rfl)).1), ((six_cells ((SPL.drew H3.out).get 1 rfl)).2.1), ((six_cells ((SPL.drew H3.out).get 1 rfl)).2.2.1), ((six_cells ((SPL.drew H3.out).get 1 rfl)).2.2.2.1), ((six_cells ((SPL.drew H3.out).get 1 rfl)).2.2.2.2.1), ((six_cells ((SPL.drew H3.out).get 1 rfl)).2.2.2.2.2.1), (SPL.drew H3.out)⟩ (fun hHeld => ?_)
  refine take_ (i := 0) (N := some 17) (v := ?_) (a' := ?_) #[true, false, false, false, false, false, false, false, false, false, false, false, false, false, false, false, false, false, false, false, false] rfl rfl (by kernel_rfl) (fun _ _ _ h => h) (Or.inl ⟨by rfl, ?_⟩) hHeld ?_ ?_
  rotate_left
  · rintro w' ⟨s0, s1, s2, s3, s4, s5, s6, s7, s8, s9, s10, s11, s12⟩
    go_simp
    with_reducible rfl
  rotate_left
  · simp only [Act.put, List.setIfInBounds_toArray, List.set_cons_zero, List.set_cons_succ, i64_w, i32_w]
    rfl
  refine take_ (i := 1) (N := some 18) (v := ?_) (a' := ?_) #[true, true, false, false, false, false, false, false, false, false, false, false, false, false, false, false, false, false, false, false, false] rfl rfl (by kernel_rfl) (fun _ _ _ h => h) (Or.inl ⟨by rfl, ?_⟩) hHeld ?_ ?_
  rotate_left
  · rintro w' ⟨s0, s1, s2, s3, s4, s5, s6, s7, s8, s9, s10, s11, s12⟩
    go_simp
    with_reducible rfl
  rotate_left
  · simp only [Act.put, List.setIfInBounds_toArray, List.set_cons_zero, List.set_cons_succ, i64_w, i32_w]
    rfl
  refine take_ (i := 3) (N := some 20) (v := ?_) (a' := ?_) #[true, true, false, true, false, false, false, false, false, false, false, false, false, false, false, false, false, false, false, false, false] rfl rfl (by kernel_rfl) (fun _ _ _ h => h) (Or.inl ⟨by rfl, ?_⟩) hHeld ?_ ?_
  rotate_left
  · rintro w' ⟨s0, s1, s2, s3, s4, s5, s6, s7, s8, s9, s10, s11, s12⟩
    go_simp
    with_reducible rfl
  rotate_left
  · simp only [Act.put, List.setIfInBounds_toArray, List.set_cons_zero, List.set_cons_succ, i64_w, i32_w]
    rfl
  refine take_ (i := 4) (N := some 21) (v := ?_) (a' := ?_) #[true, true, false, true, true, false, false, false, false, false, false, false, false, false, false, false, false, false, false, false, false] rfl rfl (by kernel_rfl) (fun _ _ _ h => h) (Or.inl ⟨by rfl, ?_⟩) hHeld ?_ ?_
  rotate_left
  · rintro w' ⟨s0, s1, s2, s3, s4, s5, s6, s7, s8, s9, s10, s11, s12⟩
    go_simp
    with_reducible rfl
  rotate_left
  · simp only [Act.put, List.setIfInBounds_toArray, List.set_cons_zero, List.set_cons_succ, i64_w, i32_w]
    rfl
  refine one_ (i := 2) (N := some 19) #[true, true, true, true, true, false, false, false, false, false, false, false, false, false, false, false, false, false, false, false, false] rfl rfl (by kernel_rfl) (by decide) (fun K hK => ?_)
  refine goes_ Tryz.func29 (by kernel_rfl) rfl #[.agg #[.int .i64 Ka, .int .i64 Ha, .string sa, .slice A3a n3a c3a, .slice A4a n4a c4a, .slice A5a n5a c5a], .agg #[.int .i64 Kb, .int .i64 Hb, .string sb, .slice A3b n3b c3b, .slice A4b n4b c4b, .slice A5b n5b c5b]] (by rfl) rfl rfl (by simp only [List.map_toArray, List.map_cons, List.map_nil]; rfl) ?_
  with_reducible refine ((HAB.out _ (SPL.bel (hHeld.2.2.2.2.2.2.2.2.2.2.2.2)))).mono ?_
  rintro e w4 ⟨rfl, hb⟩
  refine ⟨_, rfl, ?_⟩
  have hz1 := SPL.below (hHeld.2.2.2.2.2.2.2.2.2.2.2.2) hb
  refine hK.out _ _ ⟨((six_cells (hz1.get 0 rfl)).1), ((six_cells (hz1.get 0 rfl)).2.1), ((six_cells (hz1.get 0 rfl)).2.2.1), ((six_cells (hz1.get 0 rfl)).2.2.2.1), ((six_cells (hz1.get 0 rfl)).2.2.2.2.1), ((six_cells (hz1.get 0 rfl)).2.2.2.2.2.1), ((six_cells (hz1.get 1 rfl)).1), ((six_cells (hz1.get 1 rfl)).2.1), ((six_cells (hz1.get 1 rfl)).2.2.1), ((six_cells (hz1.get 1 rfl)).2.2.2.1), ((six_cells (hz1.get 1 rfl)).2.2.2.2.1), ((six_cells (hz1.get 1 rfl)).2.2.2.2.2.1), hz1⟩ (fun hHeld => ?_)
  clear hK K
  refine norm_ (a' := ?_) ?_ ?_
  rotate_left
  · show Act.put _ (some 19) _ = _
    simp only [Act.put, List.setIfInBounds_toArray, List.set_cons_zero, List.set_cons_succ, i64_w, i32_w]
    rfl
  refine one_ (i := 5) (N := some 22) #[true, true, true, true, true, true, false, false, false, false, false, false, false, false, false, false, false, false, false, false, false] rfl rfl (by kernel_rfl) (by decide) (fun K hK => ?_)
  refine goes_ Tryz.func29 (by kernel_rfl) rfl #[.agg #[.int .i64 Kb, .int .i64 Hb, .string sb, .slice A3b n3b c3b, .slice A4b n4b c4b, .slice A5b n5b c5b], .agg #[.int .i64 Ka, .int .i64 Ha, .string sa, .slice A3a n3a c3a, .slice A4a n4a c4a, .slice A5a n5a c5a]] (by rfl) rfl rfl (by simp only [List.map_toArray, List.map_cons, List.map_nil]; rfl) ?_
  with_reducible refine ((HBA.out _ (SPL.bel (hHeld.2.2.2.2.2.2.2.2.2.2.2.2)))).mono ?_
  rintro e w5 ⟨rfl, hb⟩
  refine ⟨_, rfl, ?_⟩
  have hz2 := SPL.below (hHeld.2.2.2.2.2.2.2.2.2.2.2.2) hb
  refine hK.out _ _ ⟨((six_cells (hz2.get 0 rfl)).1), ((six_cells (hz2.get 0 rfl)).2.1), ((six_cells (hz2.get 0 rfl)).2.2.1), ((six_cells (hz2.get 0 rfl)).2.2.2.1), ((six_cells (hz2.get 0 rfl)).2.2.2.2.1), ((six_cells (hz2.get 0 rfl)).2.2.2.2.2.1), ((six_cells (hz2.get 1 rfl)).1), ((six_cells (hz2.get 1 rfl)).2.1), ((six_cells (hz2.get 1 rfl)).2.2.1), ((six_cells (hz2.get 1 rfl)).2.2.2.1), ((six_cells (hz2.get 1 rfl)).2.2.2.2.1), ((six_cells (hz2.get 1 rfl)).2.2.2.2.2.1), hz2⟩ (fun hHeld => ?_)
  clear hK K
  refine norm_ (a' := ?_) ?_ ?_
  rotate_left
  · show Act.put _ (some 22) _ = _
    simp only [Act.put, List.setIfInBounds_toArray, List.set_cons_zero, List.set_cons_succ, i64_w, i32_w]
    rfl
  refine pure_ (i := 6) (N := some 23) (v := ?_) (a' := ?_) #[true, true, true, true, true, true, true, false, false, false, false, false, false, false, false, false, false, false, false, false, false] rfl rfl (by kernel_rfl) (fun _ _ _ h => h) (Or.inl ⟨by rfl, ?_⟩) ?_ ?_
  rotate_left
  · intro w'
    go_simp
    with_reducible rfl
  rotate_left
  · simp only [Act.put, List.setIfInBounds_toArray, List.set_cons_zero, List.set_cons_succ, i64_w, i32_w]
    rfl
  refine pure_ (i := 7) (N := some 24) (v := ?_) (a' := ?_) #[true, true, true, true, true, true, true, true, false, false, false, false, false, false, false, false, false, false, false, false, false] rfl rfl (by kernel_rfl) (fun _ _ _ h => h) (Or.inl ⟨by rfl, ?_⟩) ?_ ?_
  rotate_left
  · intro w'
    go_simp
    with_reducible rfl
  rotate_left
  · simp only [Act.put, List.setIfInBounds_toArray, List.set_cons_zero, List.set_cons_succ, i64_w, i32_w]
    rfl
  refine pure_ (i := 8) (N := some 25) (v := ?_) (a' := ?_) #[true, true, true, true, true, true, true, true, true, false, false, false, false, false, false, false, false, false, false, false, false] rfl rfl (by kernel_rfl) (fun _ _ _ h => h) (Or.inl ⟨by rfl, ?_⟩) ?_ ?_
  rotate_left
  · intro w'
    go_simp
    with_reducible rfl
  rotate_left
  · simp only [Act.put, List.setIfInBounds_toArray, List.set_cons_zero, List.set_cons_succ, i64_w, i32_w]
    rfl
  refine take_ (i := 9) (N := some 26) (v := ?_) (a' := ?_) #[true, true, true, true, true, true, true, true, true, true, false, false, false, false, false, false, false, false, false, false, false] rfl rfl (by kernel_rfl) (fun _ _ _ h => h) (Or.inl ⟨by rfl, ?_⟩) hHeld ?_ ?_
  rotate_left
  · rintro w' ⟨s0, s1, s2, s3, s4, s5, s6, s7, s8, s9, s10, s11, s12⟩
    go_simp
    with_reducible rfl
  rotate_left
  · simp only [Act.put, List.setIfInBounds_toArray, List.set_cons_zero, List.set_cons_succ, i64_w, i32_w]
    rfl
  refine take_ (i := 10) (N := some 27) (v := ?_) (a' := ?_) #[true, true, true, true, true, true, true, true, true, true, true, false, false, false, false, false, false, false, false, false, false] rfl rfl (by kernel_rfl) (fun _ _ _ h => h) (Or.inl ⟨by rfl, ?_⟩) hHeld ?_ ?_
  rotate_left
  · rintro w' ⟨s0, s1, s2, s3, s4, s5, s6, s7, s8, s9, s10, s11, s12⟩
    go_simp
    with_reducible rfl
  rotate_left
  · simp only [Act.put, List.setIfInBounds_toArray, List.set_cons_zero, List.set_cons_succ, i64_w, i32_w]
    rfl
  refine one_ (i := 11) (N := some 28) #[true, true, true, true, true, true, true, true, true, true, true, true, false, false, false, false, false, false, false, false, false] rfl rfl (by kernel_rfl) (by decide) (fun K hK => ?_)
  refine goes_ Tryz.func29 (by kernel_rfl) rfl #[.agg #[.int .i64 Ka, .int .i64 Ha, .string sa, .slice A3a n3a c3a, .slice A4a n4a c4a, .slice A5a n5a c5a], .agg #[.int .i64 Ka, .int .i64 Ha, .string sa, .slice A3a n3a c3a, .slice A4a n4a c4a, .slice A5a n5a c5a]] (by rfl) rfl rfl (by simp only [List.map_toArray, List.map_cons, List.map_nil]; rfl) ?_
  with_reducible refine ((HAA.out _ (SPL.bel (hHeld.2.2.2.2.2.2.2.2.2.2.2.2)))).mono ?_
  rintro e w6 ⟨rfl, hb⟩
  refine ⟨_, rfl, ?_⟩
  have hz3 := SPL.below (hHeld.2.2.2.2.2.2.2.2.2.2.2.2) hb
  refine hK.out _ _ ⟨((six_cells (hz3.get 0 rfl)).1), ((six_cells (hz3.get 0 rfl)).2.1), ((six_cells (hz3.get 0 rfl)).2.2.1), ((six_cells (hz3.get 0 rfl)).2.2.2.1), ((six_cells (hz3.get 0 rfl)).2.2.2.2.1), ((six_cells (hz3.get 0 rfl)).2.2.2.2.2.1), ((six_cells (hz3.get 1 rfl)).1), ((six_cells (hz3.get 1 rfl)).2.1), ((six_cells (hz3.get 1 rfl)).2.2.1), ((six_cells (hz3.get 1 rfl)).2.2.2.1), ((six_cells (hz3.get 1 rfl)).2.2.2.2.1), ((six_cells (hz3.get 1 rfl)).2.2.2.2.2.1), hz3⟩ (fun hHeld => ?_)
  clear hK K
  refine norm_ (a' := ?_) ?_ ?_
  rotate_left
  · show Act.put _ (some 28) _ = _
    simp only [Act.put, List.setIfInBounds_toArray, List.set_cons_zero, List.set_cons_succ, i64_w, i32_w]
    rfl
  refine pure_ (i := 12) (N := some 29) (v := ?_) (a' := ?_) #[true, true, true, true, true, true, true, true, true, true, true, true, true, false, false, false, false, false, false, false, false] rfl rfl (by kernel_rfl) (fun _ _ _ h => h) (Or.inl ⟨by rfl, ?_⟩) ?_ ?_
  rotate_left
  · intro w'
    go_simp
    with_reducible rfl
  rotate_left
  · simp only [Act.put, List.setIfInBounds_toArray, List.set_cons_zero, List.set_cons_succ, i64_w, i32_w]
    rfl
  refine pure_ (i := 13) (N := some 30) (v := ?_) (a' := ?_) #[true, true, true, true, true, true, true, true, true, true, true, true, true, true, false, false, false, false, false, false, false] rfl rfl (by kernel_rfl) (fun _ _ _ h => h) (Or.inl ⟨by rfl, ?_⟩) ?_ ?_
  rotate_left
  · intro w'
    go_simp
    with_reducible rfl
  rotate_left
  · simp only [Act.put, List.setIfInBounds_toArray, List.set_cons_zero, List.set_cons_succ, i64_w, i32_w]
    rfl
  refine pure_ (i := 14) (N := some 31) (v := ?_) (a' := ?_) #[true, true, true, true, true, true, true, true, true, true, true, true, true, true, true, false, false, false, false, false, false] rfl rfl (by kernel_rfl) (fun _ _ _ h => h) (Or.inl ⟨by rfl, ?_⟩) ?_ ?_
  rotate_left
  · intro w'
    go_simp
    with_reducible rfl
  rotate_left
  · simp only [Act.put, List.setIfInBounds_toArray, List.set_cons_zero, List.set_cons_succ, i64_w, i32_w]
    rfl
  refine one_ (i := 15) (N := some 32) #[true, true, true, true, true, true, true, true, true, true, true, true, true, true, true, true, false, false, false, false, false] rfl rfl (by kernel_rfl) (by decide) (fun K hK => ?_)
  refine goes_ Tryz.func20 (by kernel_rfl) rfl #[.int .i64 0] (by rfl) rfl rfl (by simp only [List.map_toArray, List.map_cons, List.map_nil]; rfl) ?_
  with_reducible refine ((HN0.out _)).mono ?_
  rintro e w7 ⟨rfl, hb⟩
  refine ⟨_, rfl, ?_⟩
  have hz4 := SPL.below (hHeld.2.2.2.2.2.2.2.2.2.2.2.2) hb
  refine hK.out _ _ ⟨((six_cells (hz4.get 0 rfl)).1), ((six_cells (hz4.get 0 rfl)).2.1), ((six_cells (hz4.get 0 rfl)).2.2.1), ((six_cells (hz4.get 0 rfl)).2.2.2.1), ((six_cells (hz4.get 0 rfl)).2.2.2.2.1), ((six_cells (hz4.get 0 rfl)).2.2.2.2.2.1), ((six_cells (hz4.get 1 rfl)).1), ((six_cells (hz4.get 1 rfl)).2.1), ((six_cells (hz4.get 1 rfl)).2.2.1), ((six_cells (hz4.get 1 rfl)).2.2.2.1), ((six_cells (hz4.get 1 rfl)).2.2.2.2.1), ((six_cells (hz4.get 1 rfl)).2.2.2.2.2.1), hz4⟩ (fun hHeld => ?_)
  clear hK K
  refine norm_ (a' := ?_) ?_ ?_
  rotate_left
  · show Act.put _ (some 32) _ = _
    simp only [Act.put, List.setIfInBounds_toArray, List.set_cons_zero, List.set_cons_succ, i64_w, i32_w]
    rfl
  refine one_ (i := 16) (N := some 33) #[true, true, true, true, true, true, true, true, true, true, true, true, true, true, true, true, true, false, false, false, false] rfl rfl (by kernel_rfl) (by decide) (fun K hK => ?_)
  refine goes_ Tryz.func20 (by kernel_rfl) rfl #[.int .i64 1] (by rfl) rfl rfl (by simp only [List.map_toArray, List.map_cons, List.map_nil]; rfl) ?_
  with_reducible refine ((HN1.out _)).mono ?_
  rintro e w8 ⟨rfl, hb⟩
  refine ⟨_, rfl, ?_⟩
  have hz5 := SPL.below (hHeld.2.2.2.2.2.2.2.2.2.2.2.2) hb
  refine hK.out _ _ ⟨((six_cells (hz5.get 0 rfl)).1), ((six_cells (hz5.get 0 rfl)).2.1), ((six_cells (hz5.get 0 rfl)).2.2.1), ((six_cells (hz5.get 0 rfl)).2.2.2.1), ((six_cells (hz5.get 0 rfl)).2.2.2.2.1), ((six_cells (hz5.get 0 rfl)).2.2.2.2.2.1), ((six_cells (hz5.get 1 rfl)).1), ((six_cells (hz5.get 1 rfl)).2.1), ((six_cells (hz5.get 1 rfl)).2.2.1), ((six_cells (hz5.get 1 rfl)).2.2.2.1), ((six_cells (hz5.get 1 rfl)).2.2.2.2.1), ((six_cells (hz5.get 1 rfl)).2.2.2.2.2.1), hz5⟩ (fun hHeld => ?_)
  clear hK K
  refine norm_ (a' := ?_) ?_ ?_
  rotate_left
  · show Act.put _ (some 33) _ = _
    simp only [Act.put, List.setIfInBounds_toArray, List.set_cons_zero, List.set_cons_succ, i64_w, i32_w]
    rfl
  refine one_ (i := 17) (N := some 34) #[true, true, true, true, true, true, true, true, true, true, true, true, true, true, true, true, true, true, false, false, false] rfl rfl (by kernel_rfl) (by decide) (fun K hK => ?_)
  refine goes_ Tryz.func29 (by kernel_rfl) rfl #[.agg #[.int .i64 3, .int .i64 0, .string ⟨#[]⟩, .slice none 0 0, .slice none 0 0, .slice none 0 0], .agg #[.int .i64 3, .int .i64 2, .string ⟨#[]⟩, .slice none 0 0, .slice none 0 0, .slice none 0 0]] (by rfl) rfl rfl (by simp only [List.map_toArray, List.map_cons, List.map_nil]; rfl) ?_
  with_reducible refine ((H01.out _ (SPL.bel (hHeld.2.2.2.2.2.2.2.2.2.2.2.2)))).mono ?_
  rintro e w9 ⟨rfl, hb⟩
  refine ⟨_, rfl, ?_⟩
  have hz6 := SPL.below (hHeld.2.2.2.2.2.2.2.2.2.2.2.2) hb
  refine hK.out _ _ ⟨((six_cells (hz6.get 0 rfl)).1), ((six_cells (hz6.get 0 rfl)).2.1), ((six_cells (hz6.get 0 rfl)).2.2.1), ((six_cells (hz6.get 0 rfl)).2.2.2.1), ((six_cells (hz6.get 0 rfl)).2.2.2.2.1), ((six_cells (hz6.get 0 rfl)).2.2.2.2.2.1), ((six_cells (hz6.get 1 rfl)).1), ((six_cells (hz6.get 1 rfl)).2.1), ((six_cells (hz6.get 1 rfl)).2.2.1), ((six_cells (hz6.get 1 rfl)).2.2.2.1), ((six_cells (hz6.get 1 rfl)).2.2.2.2.1), ((six_cells (hz6.get 1 rfl)).2.2.2.2.2.1), hz6⟩ (fun hHeld => ?_)
  clear hK K
  refine norm_ (a' := ?_) ?_ ?_
  rotate_left
  · show Act.put _ (some 34) _ = _
    simp only [Act.put, List.setIfInBounds_toArray, List.set_cons_zero, List.set_cons_succ, i64_w, i32_w]
    rfl
  refine pure_ (i := 18) (N := some 35) (v := ?_) (a' := ?_) #[true, true, true, true, true, true, true, true, true, true, true, true, true, true, true, true, true, true, true, false, false] rfl rfl (by kernel_rfl) (fun _ _ _ h => h) (Or.inl ⟨by rfl, ?_⟩) ?_ ?_
  rotate_left
  · intro w'
    go_simp
    with_reducible rfl
  rotate_left
  · simp only [Act.put, List.setIfInBounds_toArray, List.set_cons_zero, List.set_cons_succ, i64_w, i32_w]
    rfl
  refine pure_ (i := 19) (N := some 36) (v := ?_) (a' := ?_) #[true, true, true, true, true, true, true, true, true, true, true, true, true, true, true, true, true, true, true, true, false] rfl rfl (by kernel_rfl) (fun _ _ _ h => h) (Or.inl ⟨by rfl, ?_⟩) ?_ ?_
  rotate_left
  · intro w'
    go_simp
    with_reducible rfl
  rotate_left
  · simp only [Act.put, List.setIfInBounds_toArray, List.set_cons_zero, List.set_cons_succ, i64_w, i32_w]
    rfl
  refine pure_ (i := 20) (N := some 4) (v := ?_) (a' := ?_) #[true, true, true, true, true, true, true, true, true, true, true, true, true, true, true, true, true, true, true, true, true] rfl rfl (by kernel_rfl) (fun _ _ _ h => h) (Or.inl ⟨by rfl, ?_⟩) ?_ ?_
  rotate_left
  · intro w'
    go_simp
    with_reducible rfl
  rotate_left
  · simp only [Act.put, List.setIfInBounds_toArray, List.set_cons_zero, List.set_cons_succ, i64_w, i32_w]
    rfl
  refine done_ (by kernel_rfl) ?_
  go_wp2_with fail
  go_ret
  exact ⟨rfl, hz6.1⟩
end Go.Proofs.YtdcgjfiknknjfaaGreatDoor.ValA
