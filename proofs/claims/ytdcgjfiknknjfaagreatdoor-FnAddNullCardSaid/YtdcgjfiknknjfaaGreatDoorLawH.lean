/-
FnAddNull: null can be added to any value, from both sides.
-/
import Derived.Test.YtdcgjfiknknjfaaGreatDoorAddB
import Derived.Test.YtdcgjfiknknjfaaGreatDoorMJ
set_option linter.unusedSimpArgs false
set_option linter.unusedVariables false
namespace Go.Proofs.YtdcgjfiknknjfaaGreatDoor.ValA
open Go.RowKit Go.Lib Go.Proofs.YtdcgjfiknknjfaaGreatDoorW.PrintWords Go.Proofs.YtdcgjfiknknjfaaGreatDoorW.PrintLast Go.Proofs.YtdcgjfiknknjfaaGreatDoorW.PrintMore Go.Proofs.YtdcgjfiknknjfaaGreatDoor.PzzFits1 Go.Proofs.YtdcgjfiknknjfaaGreatDoor.NumA
/-- null. -/
def zV : V := ⟨0, 0, ⟨#[]⟩, [], [], []⟩
theorem toGo_zV (w0 : World) : ToGo w0 zV [.int .i64 0, .int .i64 0, .string ⟨#[]⟩, .slice none 0 0, .slice none 0 0, .slice none 0 0] :=
  toGo_flat w0 zV (by show (0 : Int) ≤ 0; omega) (by show (0 : Int) ≤ 4; omega) (show JN 0 by unfold JN; omega) none none none 0 0 0
set_option maxRecDepth 100000 in
set_option maxHeartbeats 20000000 in
theorem fnAddNull_any (w0 : World) (hE : Env w0) (xa : V) (hza : Sz xa) (Ka Ha : Int) (sa : ByteArray) (A3a A4a A5a : Option Addr) (n3a c3a n4a c4a n5a c5a : Nat) (hKa : k26.K w0 xa [.int .i64 Ka, .int .i64 Ha, .string sa, .slice A3a n3a c3a, .slice A4a n4a c4a, .slice A5a n5a c5a]) :
    Calls Tryz.prog 14 #[.agg #[.int .i64 Ka, .int .i64 Ha, .string sa, .slice A3a n3a c3a, .slice A4a n4a c4a, .slice A5a n5a c5a]] w0 fun e w' => e = .returned (.bool true) ∧ Below w0.heap.size w0 w' := by
  obtain ⟨w, hw⟩ : ∃ w, w = w0 := ⟨_, rfl⟩
  obtain ⟨B3, e3, B4, e4, B5, e5, he, l3, g3, l4, g4, l5, g5⟩ := k26_open hKa
  simp only [List.cons.injEq, Value.int.injEq, Value.string.injEq, Value.slice.injEq, true_and, and_true] at he
  obtain ⟨rfl, rfl, rfl, ⟨rfl, rfl, rfl⟩, ⟨rfl, rfl, rfl⟩, ⟨rfl, rfl, rfl⟩⟩ := he
  clear l3 g3 l4 g4 l5 g5
  have HFa := Lib.hid (fun w1 hb => fits1_any w0 xa xa.f0 xa.f1 xa.f2 A3a A4a A5a xa.f3.length c3a xa.f4.length c4a xa.f5.length c5a hKa w1 hb)
  have HFI := Lib.hid (fun w1 hb => fit_any w0 hE xa hza xa.f0 xa.f1 xa.f2 A3a A4a A5a xa.f3.length c3a xa.f4.length c4a xa.f5.length c5a hKa w1 hb)
  have HTa := Lib.hid (fun h => toGo_any w0 _ xa (Nat.lt_succ_self _) hza h _ hKa)
  have HKA := Lib.hid hKa
  have HSZ := Lib.hid hza
  clear hE hza hKa
  subst hw
  go_enter Tryz.func14, Tryz.ntmps14
  go_wp2_with fail
  obtain ⟨A, hA⟩ : ∃ A, A = w.heap.size := ⟨_, rfl⟩
  obtain ⟨W0, hW0⟩ : ∃ W0, W0 = w.alloc (.cells #[.int .i64 xa.f0, .int .i64 xa.f1, .string xa.f2, .slice A3a xa.f3.length c3a, .slice A4a xa.f4.length c4a, .slice A5a xa.f5.length c5a] 26) := ⟨_, rfl⟩
  have h0 : SPL w [(A, #[.int .i64 xa.f0, .int .i64 xa.f1, .string xa.f2, .slice A3a xa.f3.length c3a, .slice A4a xa.f4.length c4a, .slice A5a xa.f5.length c5a], 26)] W0 := by rw [hA, hW0]; exact SPL.box w _ _ 
  rw [← hW0]
  try rw [← hA]
  have H0 := Lib.hid h0
  clear h0 hW0 hA
  have y := six_cells (H0.out.get 0 rfl)
  go_wp2_with fail
  refine (HFa.out W0 H0.out.1).mono ?_
  rintro e w1 ⟨r, rfl, hr, hb⟩
  have H1 := Lib.hid (H0.out.below hb)
  clear hb H0 y HFa hr
  cases r with
  | false =>
    go_wp2_with fail
    go_ret
    exact ⟨rfl, H1.out.1⟩
  | true =>
  have y := six_cells (H1.out.get 0 rfl)
  go_wp2_with fail
  refine (HFI.out w1 H1.out.1).mono ?_
  rintro e w2 ⟨r, rfl, hr, hb⟩
  have H2 := Lib.hid (H1.out.below hb)
  clear hb H1 y HFI
  cases r with
  | false =>
    go_wp2_with fail
    go_ret
    exact ⟨rfl, H2.out.1⟩
  | true =>
  have HW := Lib.hid (hr (by trivial))
  clear hr
  have HA1 := Lib.hid (fun w1 hb => impl_opAdd w zV xa xa 0 0 ⟨#[]⟩ none none none 0 0 0 0 0 0 xa.f0 xa.f1 xa.f2 A3a A4a A5a xa.f3.length c3a xa.f4.length c4a xa.f5.length c5a (toGo_zV w) (HTa.out HW.out) HW.out HSZ.out (fun g h n m w1 hg hh => by
    rw [hg.flat_inv (by show (0 : Int) ≤ 4; omega)]
    refine (zz_add_nil _ h (hh.cl (wf_facts HW.out).1) w1).mono ?_
    rintro e w' ⟨rfl, hb⟩
    exact ⟨h, m, rfl, hh.keepB hb, hb⟩) w1 hb)
  have HA2 := Lib.hid (fun w1 hb => impl_opAdd w xa zV xa xa.f0 xa.f1 xa.f2 A3a A4a A5a xa.f3.length c3a xa.f4.length c4a xa.f5.length c5a 0 0 ⟨#[]⟩ none none none 0 0 0 0 0 0 (HTa.out HW.out) (toGo_zV w) HW.out HSZ.out (fun g h n m w1 hg hh => by
    rw [hh.flat_inv (by show (0 : Int) ≤ 4; omega)]
    refine (zz_nil_add _ g (hg.cl (wf_facts HW.out).1) w1).mono ?_
    rintro e w' ⟨rfl, hb⟩
    exact ⟨g, n, rfl, hg.keepB hb, hb⟩) w1 hb)
  have e0 : (cmpV xa xa == 0) = true := by rw [cmpV_self]; rfl
  have HE0 := Lib.hid e0
  clear e0 HTa
  go_wp2_with fail
  refine start_ (n := 13) (S := fun w' => w'.cell? ⟨A, 0, none⟩ = some (.int .i64 xa.f0) ∧ w'.cell? ⟨A, 1, none⟩ = some (.int .i64 xa.f1) ∧ w'.cell? ⟨A, 2, none⟩ = some (.string xa.f2) ∧ w'.cell? ⟨A, 3, none⟩ = some (.slice A3a xa.f3.length c3a) ∧ w'.cell? ⟨A, 4, none⟩ = some (.slice A4a xa.f4.length c4a) ∧ w'.cell? ⟨A, 5, none⟩ = some (.slice A5a xa.f5.length c5a) ∧ SPL w [(A, #[.int .i64 xa.f0, .int .i64 xa.f1, .string xa.f2, .slice A3a xa.f3.length c3a, .slice A4a xa.f4.length c4a, .slice A5a xa.f5.length c5a], 26)] w') (ds := []) #[false, false, false, false, false, false, false, false, false, false, false, false, false] (by kernel_rfl) rfl rfl ⟨((six_cells ((SPL.drew H2.out).get 0 rfl)).1), ((six_cells ((SPL.drew H2.out).get 0 rfl)).2.1), ((six_cells ((SPL.drew H2.out).get 0 rfl)).2.2.1), ((six_cells ((SPL.drew H2.out).get 0 rfl)).2.2.2.1), ((six_cells ((SPL.drew H2.out).get 0 rfl)).2.2.2.2.1), ((six_cells ((SPL.drew H2.out).get 0 rfl)).2.2.2.2.2.1), (SPL.drew H2.out)⟩ (fun hHeld => ?_)
  refine pure_ (i := 0) (N := some 9) (v := ?_) (a' := ?_) #[true, false, false, false, false, false, false, false, false, false, false, false, false] rfl rfl (by kernel_rfl) (fun _ _ _ h => h) (Or.inl ⟨by rfl, ?_⟩) ?_ ?_
  rotate_left
  · intro w'
    go_simp
    with_reducible rfl
  rotate_left
  · simp only [Act.put, List.setIfInBounds_toArray, List.set_cons_zero, List.set_cons_succ, i64_w, i32_w]
    rfl
  refine take_ (i := 1) (N := some 10) (v := ?_) (a' := ?_) #[true, true, false, false, false, false, false, false, false, false, false, false, false] rfl rfl (by kernel_rfl) (fun _ _ _ h => h) (Or.inl ⟨by rfl, ?_⟩) hHeld ?_ ?_
  rotate_left
  · rintro w' ⟨s0, s1, s2, s3, s4, s5, s6⟩
    go_simp
    with_reducible rfl
  rotate_left
  · simp only [Act.put, List.setIfInBounds_toArray, List.set_cons_zero, List.set_cons_succ, i64_w, i32_w]
    rfl
  refine take_ (i := 3) (N := some 12) (v := ?_) (a' := ?_) #[true, true, false, true, false, false, false, false, false, false, false, false, false] rfl rfl (by kernel_rfl) (fun _ _ _ h => h) (Or.inl ⟨by rfl, ?_⟩) hHeld ?_ ?_
  rotate_left
  · rintro w' ⟨s0, s1, s2, s3, s4, s5, s6⟩
    go_simp
    with_reducible rfl
  rotate_left
  · simp only [Act.put, List.setIfInBounds_toArray, List.set_cons_zero, List.set_cons_succ, i64_w, i32_w]
    rfl
  refine one_ (i := 2) (N := some 11) #[true, true, true, true, false, false, false, false, false, false, false, false, false] rfl rfl (by kernel_rfl) (by decide) (fun K hK => ?_)
  refine goes_ Tryz.func17 (by kernel_rfl) rfl #[.agg #[.int .i64 0, .int .i64 0, .string ⟨#[]⟩, .slice none 0 0, .slice none 0 0, .slice none 0 0], .agg #[.int .i64 xa.f0, .int .i64 xa.f1, .string xa.f2, .slice A3a xa.f3.length c3a, .slice A4a xa.f4.length c4a, .slice A5a xa.f5.length c5a]] (by rfl) rfl rfl (by simp only [List.map_toArray, List.map_cons, List.map_nil]; rfl) ?_
  with_reducible refine ((HA1.out _ (SPL.bel (hHeld.2.2.2.2.2.2)))).mono ?_
  rintro e w5 ⟨B3x, d3x, B4x, d4x, B5x, d5x, rfl, hM, hb⟩
  have HGVx := Lib.hid (given_any w5 xa xa HW.out HW.out (k26.K_of_M hM) (k26.K_below ((SPL.bel (hHeld.2.2.2.2.2.2)).trans (hb.mono (SPL.bel (hHeld.2.2.2.2.2.2)).size)) HKA.out) w5 (Below.refl _ _))
  simp only [vl, rv] at HGVx
  rw [HE0.out] at HGVx
  clear hM
  refine ⟨_, rfl, ?_⟩
  have hz1 := SPL.below (hHeld.2.2.2.2.2.2) hb
  refine hK.out _ _ ⟨((six_cells (hz1.get 0 rfl)).1), ((six_cells (hz1.get 0 rfl)).2.1), ((six_cells (hz1.get 0 rfl)).2.2.1), ((six_cells (hz1.get 0 rfl)).2.2.2.1), ((six_cells (hz1.get 0 rfl)).2.2.2.2.1), ((six_cells (hz1.get 0 rfl)).2.2.2.2.2.1), hz1⟩ (fun hHeld => ?_)
  clear hK K
  refine norm_ (a' := ?_) ?_ ?_
  rotate_left
  · show Act.put _ (some 11) _ = _
    simp only [Act.put, List.setIfInBounds_toArray, List.set_cons_zero, List.set_cons_succ, i64_w, i32_w]
    rfl
  refine one_ (i := 4) (N := some 13) #[true, true, true, true, true, false, false, false, false, false, false, false, false] rfl rfl (by kernel_rfl) (by decide) (fun K hK => ?_)
  refine goes_ Tryz.func18 (by kernel_rfl) rfl #[.agg #[.int .i64 xa.f0, .int .i64 xa.f1, .string xa.f2, .slice B3x xa.f3.length d3x, .slice B4x xa.f4.length d4x, .slice B5x xa.f5.length d5x, .int .i64 0], .agg #[.int .i64 xa.f0, .int .i64 xa.f1, .string xa.f2, .slice A3a xa.f3.length c3a, .slice A4a xa.f4.length c4a, .slice A5a xa.f5.length c5a]] (by rfl) rfl rfl (by simp only [List.map_toArray, List.map_cons, List.map_nil]; rfl) ?_
  with_reducible refine ((HGVx.out)).mono ?_
  rintro e w6 ⟨rfl, hb⟩
  refine ⟨_, rfl, ?_⟩
  have hz2 := SPL.below (hHeld.2.2.2.2.2.2) hb
  refine hK.out _ _ ⟨((six_cells (hz2.get 0 rfl)).1), ((six_cells (hz2.get 0 rfl)).2.1), ((six_cells (hz2.get 0 rfl)).2.2.1), ((six_cells (hz2.get 0 rfl)).2.2.2.1), ((six_cells (hz2.get 0 rfl)).2.2.2.2.1), ((six_cells (hz2.get 0 rfl)).2.2.2.2.2.1), hz2⟩ (fun hHeld => ?_)
  clear hK K
  refine norm_ (a' := ?_) ?_ ?_
  rotate_left
  · show Act.put _ (some 13) _ = _
    simp only [Act.put, List.setIfInBounds_toArray, List.set_cons_zero, List.set_cons_succ, i64_w, i32_w]
    rfl
  refine pure_ (i := 5) (N := some 14) (v := ?_) (a' := ?_) #[true, true, true, true, true, true, false, false, false, false, false, false, false] rfl rfl (by kernel_rfl) (fun _ _ _ h => h) (Or.inl ⟨by rfl, ?_⟩) ?_ ?_
  rotate_left
  · intro w'
    go_simp
    with_reducible rfl
  rotate_left
  · simp only [Act.put, List.setIfInBounds_toArray, List.set_cons_zero, List.set_cons_succ, i64_w, i32_w]
    rfl
  refine pure_ (i := 7) (N := some 16) (v := ?_) (a' := ?_) #[true, true, true, true, true, true, false, true, false, false, false, false, false] rfl rfl (by kernel_rfl) (fun _ _ _ h => h) (Or.inl ⟨by rfl, ?_⟩) ?_ ?_
  rotate_left
  · intro w'
    go_simp
    with_reducible rfl
  rotate_left
  · simp only [Act.put, List.setIfInBounds_toArray, List.set_cons_zero, List.set_cons_succ, i64_w, i32_w]
    rfl
  refine take_ (i := 6) (N := some 15) (v := ?_) (a' := ?_) #[true, true, true, true, true, true, true, true, false, false, false, false, false] rfl rfl (by kernel_rfl) (fun _ _ _ h => h) (Or.inl ⟨by rfl, ?_⟩) hHeld ?_ ?_
  rotate_left
  · rintro w' ⟨s0, s1, s2, s3, s4, s5, s6⟩
    go_simp
    with_reducible rfl
  rotate_left
  · simp only [Act.put, List.setIfInBounds_toArray, List.set_cons_zero, List.set_cons_succ, i64_w, i32_w]
    rfl
  refine take_ (i := 9) (N := some 18) (v := ?_) (a' := ?_) #[true, true, true, true, true, true, true, true, false, true, false, false, false] rfl rfl (by kernel_rfl) (fun _ _ _ h => h) (Or.inl ⟨by rfl, ?_⟩) hHeld ?_ ?_
  rotate_left
  · rintro w' ⟨s0, s1, s2, s3, s4, s5, s6⟩
    go_simp
    with_reducible rfl
  rotate_left
  · simp only [Act.put, List.setIfInBounds_toArray, List.set_cons_zero, List.set_cons_succ, i64_w, i32_w]
    rfl
  refine one_ (i := 8) (N := some 17) #[true, true, true, true, true, true, true, true, true, true, false, false, false] rfl rfl (by kernel_rfl) (by decide) (fun K hK => ?_)
  refine goes_ Tryz.func17 (by kernel_rfl) rfl #[.agg #[.int .i64 xa.f0, .int .i64 xa.f1, .string xa.f2, .slice A3a xa.f3.length c3a, .slice A4a xa.f4.length c4a, .slice A5a xa.f5.length c5a], .agg #[.int .i64 0, .int .i64 0, .string ⟨#[]⟩, .slice none 0 0, .slice none 0 0, .slice none 0 0]] (by rfl) rfl rfl (by simp only [List.map_toArray, List.map_cons, List.map_nil]; rfl) ?_
  with_reducible refine ((HA2.out _ (SPL.bel (hHeld.2.2.2.2.2.2)))).mono ?_
  rintro e w7 ⟨B3y, d3y, B4y, d4y, B5y, d5y, rfl, hM, hb⟩
  have HGVy := Lib.hid (given_any w7 xa xa HW.out HW.out (k26.K_of_M hM) (k26.K_below ((SPL.bel (hHeld.2.2.2.2.2.2)).trans (hb.mono (SPL.bel (hHeld.2.2.2.2.2.2)).size)) HKA.out) w7 (Below.refl _ _))
  simp only [vl, rv] at HGVy
  rw [HE0.out] at HGVy
  clear hM
  refine ⟨_, rfl, ?_⟩
  have hz3 := SPL.below (hHeld.2.2.2.2.2.2) hb
  refine hK.out _ _ ⟨((six_cells (hz3.get 0 rfl)).1), ((six_cells (hz3.get 0 rfl)).2.1), ((six_cells (hz3.get 0 rfl)).2.2.1), ((six_cells (hz3.get 0 rfl)).2.2.2.1), ((six_cells (hz3.get 0 rfl)).2.2.2.2.1), ((six_cells (hz3.get 0 rfl)).2.2.2.2.2.1), hz3⟩ (fun hHeld => ?_)
  clear hK K
  refine norm_ (a' := ?_) ?_ ?_
  rotate_left
  · show Act.put _ (some 17) _ = _
    simp only [Act.put, List.setIfInBounds_toArray, List.set_cons_zero, List.set_cons_succ, i64_w, i32_w]
    rfl
  refine one_ (i := 10) (N := some 19) #[true, true, true, true, true, true, true, true, true, true, true, false, false] rfl rfl (by kernel_rfl) (by decide) (fun K hK => ?_)
  refine goes_ Tryz.func18 (by kernel_rfl) rfl #[.agg #[.int .i64 xa.f0, .int .i64 xa.f1, .string xa.f2, .slice B3y xa.f3.length d3y, .slice B4y xa.f4.length d4y, .slice B5y xa.f5.length d5y, .int .i64 0], .agg #[.int .i64 xa.f0, .int .i64 xa.f1, .string xa.f2, .slice A3a xa.f3.length c3a, .slice A4a xa.f4.length c4a, .slice A5a xa.f5.length c5a]] (by rfl) rfl rfl (by simp only [List.map_toArray, List.map_cons, List.map_nil]; rfl) ?_
  with_reducible refine ((HGVy.out)).mono ?_
  rintro e w8 ⟨rfl, hb⟩
  refine ⟨_, rfl, ?_⟩
  have hz4 := SPL.below (hHeld.2.2.2.2.2.2) hb
  refine hK.out _ _ ⟨((six_cells (hz4.get 0 rfl)).1), ((six_cells (hz4.get 0 rfl)).2.1), ((six_cells (hz4.get 0 rfl)).2.2.1), ((six_cells (hz4.get 0 rfl)).2.2.2.1), ((six_cells (hz4.get 0 rfl)).2.2.2.2.1), ((six_cells (hz4.get 0 rfl)).2.2.2.2.2.1), hz4⟩ (fun hHeld => ?_)
  clear hK K
  refine norm_ (a' := ?_) ?_ ?_
  rotate_left
  · show Act.put _ (some 19) _ = _
    simp only [Act.put, List.setIfInBounds_toArray, List.set_cons_zero, List.set_cons_succ, i64_w, i32_w]
    rfl
  refine pure_ (i := 11) (N := some 20) (v := ?_) (a' := ?_) #[true, true, true, true, true, true, true, true, true, true, true, true, false] rfl rfl (by kernel_rfl) (fun _ _ _ h => h) (Or.inl ⟨by rfl, ?_⟩) ?_ ?_
  rotate_left
  · intro w'
    go_simp
    with_reducible rfl
  rotate_left
  · simp only [Act.put, List.setIfInBounds_toArray, List.set_cons_zero, List.set_cons_succ, i64_w, i32_w]
    rfl
  refine pure_ (i := 12) (N := some 2) (v := ?_) (a' := ?_) #[true, true, true, true, true, true, true, true, true, true, true, true, true] rfl rfl (by kernel_rfl) (fun _ _ _ h => h) (Or.inl ⟨by rfl, ?_⟩) ?_ ?_
  rotate_left
  · intro w'
    go_simp
    with_reducible rfl
  rotate_left
  · simp only [Act.put, List.setIfInBounds_toArray, List.set_cons_zero, List.set_cons_succ, i64_w, i32_w]
    rfl
  refine done_ (by kernel_rfl) ?_
  go_wp2_with fail
  go_ret
  exact ⟨rfl, hz4.1⟩
end Go.Proofs.YtdcgjfiknknjfaaGreatDoor.ValA
