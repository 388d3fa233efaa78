/-
FnUniqueSort: unique is sort, with equal neighbours once; of it unique is the same, and so is unique of the array twice.
-/
import Derived.Test.YtbnfeicpjmfooaaGreatDoorM6
set_option linter.unusedSimpArgs false
set_option linter.unusedVariables false
namespace Go.Proofs.YtbnfeicpjmfooaaGreatDoor.ValA
open Go.RowKit Go.Lib Go.Proofs.YtbnfeicpjmfooaaGreatDoorW.PrintWords Go.Proofs.YtbnfeicpjmfooaaGreatDoorW.PrintLast Go.Proofs.YtbnfeicpjmfooaaGreatDoorW.PrintMore Go.Proofs.YtbnfeicpjmfooaaGreatDoor.PzzFits1 Go.Proofs.YtbnfeicpjmfooaaGreatDoor.NumA
attribute [local go_sem] run_val
set_option maxRecDepth 100000 in
set_option maxHeartbeats 20000000 in
theorem core_unique (w0 : World) (hE : Env w0) (a : V) (hza : Sz a) (A3a A4a A5a : Option Addr) (a3a a4a a5a : Nat) (hKa : k26.K w0 a [.int .i64 a.f0, .int .i64 a.f1, .string a.f2, .slice A3a a.f3.length a3a, .slice A4a a.f4.length a4a, .slice A5a a.f5.length a5a]) :
    Calls Tryz.prog 5 #[.agg #[.int .i64 a.f0, .int .i64 a.f1, .string a.f2, .slice A3a a.f3.length a3a, .slice A4a a.f4.length a4a, .slice A5a a.f5.length a5a]] w0 fun e w' => e = .returned (.bool true) ∧ Below w0.heap.size w0 w' := by
  obtain ⟨w, hw⟩ : ∃ w, w = w0 := ⟨_, rfl⟩
  obtain ⟨_, _, _, _, _, _, hea, _, ga, _, _, _, _⟩ := k26_open hKa
  simp only [List.cons.injEq, Value.int.injEq, Value.string.injEq, Value.slice.injEq, true_and, and_true] at hea
  obtain ⟨⟨rfl, rfl⟩, ⟨rfl, rfl⟩, ⟨rfl, rfl⟩⟩ := hea
  have HG := Lib.hid ga
  have HFA := Lib.hid (fun w1 hb => fits1_any w0 a _ _ _ _ _ _ _ _ _ _ _ _ hKa w1 hb)
  have HFI := Lib.hid (fun w1 hb => fit_any w0 hE a hza _ _ _ _ _ _ _ _ _ _ _ _ hKa w1 hb)
  have HTA := Lib.hid (fun h => toGo_any w0 _ a (Nat.lt_succ_self _) hza h _ hKa)
  have HS := Lib.hid hza
  have HKA := Lib.hid hKa
  clear hE hza hKa ga
  subst hw
  go_enter Tryz.func5, Tryz.ntmps5
  go_wp2_with fail
  obtain ⟨A, hA⟩ : ∃ A, A = w.heap.size := ⟨_, rfl⟩
  obtain ⟨W0, hW0⟩ : ∃ W0, W0 = w.alloc (.cells #[.int .i64 a.f0, .int .i64 a.f1, .string a.f2, .slice A3a a.f3.length a3a, .slice A4a a.f4.length a4a, .slice A5a a.f5.length a5a] 26) := ⟨_, rfl⟩
  have hS : SPN w [(A, #[.int .i64 a.f0, .int .i64 a.f1, .string a.f2, .slice A3a a.f3.length a3a, .slice A4a a.f4.length a4a, .slice A5a a.f5.length a5a], 26)] W0 := by rw [hA, hW0]; exact (sp_nil w).more #[.int .i64 a.f0, .int .i64 a.f1, .string a.f2, .slice A3a a.f3.length a3a, .slice A4a a.f4.length a4a, .slice A5a a.f5.length a5a] 26
  rw [← hW0]
  try rw [← hA]
  have H0 := Lib.hid hS
  have y := six_cells (hS.1.get 0 rfl)
  clear hS hW0 hA
  try go_wp2_with fail
  refine (HFA.out W0 H0.out.1.1).mono ?_
  rintro e w1 ⟨r, rfl, hr, hb⟩
  have H1 := Lib.hid (SPN.below H0.out hb)
  clear hb hr HFA H0 y
  cases r with
  | false =>
    go_wp2_with fail
    go_ret
    exact ⟨rfl, H1.out.1.1⟩
  | true =>
  have ya := six_cells (H1.out.1.get 0 rfl)
  go_wp2_with fail
  refine (HFI.out _ H1.out.1.1).mono ?_
  rintro e w3 ⟨r, rfl, hr, hb⟩
  have H3 := Lib.hid (SPN.below H1.out hb)
  clear hb H1 HFI ya
  cases r with
  | false =>
    go_wp2_with fail
    go_ret
    exact ⟨rfl, H3.out.1.1⟩
  | true =>
  have hr0 := Lib.hid (hr (by trivial))
  have HWA := Lib.hid (loose hr0.out)
  clear hr
  have ya := six_cells (H3.out.1.get 0 rfl)
  cases ka : (a.f0 != 5) with
  | true =>
    go_wp2_with fail
    go_ret
    exact ⟨rfl, H3.out.1.1⟩
  | false =>
  have HKF : Hid (a.f0 = 5) := Lib.hid (by simpa using ka)
  obtain ⟨m, hs⟩ : ∃ m, m = lV (sortV a.f3) := ⟨_, rfl⟩
  obtain ⟨u, hu⟩ : ∃ u, u = lV (uqV (sortV a.f3)) := ⟨_, rfl⟩
  have HSE : Hid (m.f3 = sortV a.f3) := Lib.hid (by rw [hs]; rfl)
  have HUE : Hid (u.f3 = uqV m.f3) := Lib.hid (by rw [hu, HSE.out]; rfl)
  have HN : Hid (a.f3.length ≤ 400000) := Lib.hid (by have := hr0.out; exact Nat.le_trans (wf_n3 this) (by omega))
  have HEL : Hid (∀ y ∈ a.f3, WL y ∧ Sz y) := Lib.hid (fun y hy => ⟨HWA.out.h3 y hy, sz_h3 HS.out y hy⟩)
  have HES : Hid (∀ y ∈ m.f3, WL y ∧ Sz y) := Lib.hid (fun y hy => HEL.out y (mem_sortV.1 (by rw [← HSE.out]; exact hy)))
  have HEU : Hid (∀ y ∈ u.f3, WL y ∧ Sz y) := Lib.hid (fun y hy => HES.out y ((mem_uq (by rw [HSE.out]; exact sortV_ris _) (fun y hy => (HES.out y hy).1)).1 (by rw [← HUE.out]; exact hy)))
  have HNS : Hid (m.f3.length ≤ 1000000 ∧ u.f3.length ≤ 1000000) := Lib.hid (by
    have h1 : m.f3.length ≤ 1000000 := by rw [HSE.out, sortV_len]; have := HN.out; omega
    exact ⟨h1, by rw [HUE.out]; exact Nat.le_trans (uq_len _) h1⟩)
  have HWU : Hid (WL u ∧ Sz u ∧ u.f0 = 5 ∧ u = lV u.f3) := Lib.hid (by
    have e : u = lV u.f3 := by rw [hu]; rfl
    exact ⟨by rw [e]; exact wl_lV HNS.out.2 (fun y hy => (HEU.out y hy).1), by rw [e]; exact sz_lV (fun y hy => (HEU.out y hy).2), by rw [hu]; rfl, e⟩)
  have HUU : Hid (lV (uqV (sortV u.f3)) = u) := Lib.hid (by rw [uq_again (by rw [HUE.out]; exact uq_up (by rw [HSE.out]; exact sortV_ris _)) (fun y hy => (HEU.out y hy).1)]; exact HWU.out.2.2.2.symm)
  have HUT : Hid (lV (uqV (sortV (a.f3 ++ a.f3))) = u) := Lib.hid (by rw [uq_twice (fun y hy => (HEL.out y hy).1), hu])
  have HUQ := Lib.hid (fun L rs w1 (h : SPR w L rs w1) => h.res (impl_Unique w a u _ _ _ _ _ _ _ _ _ _ _ _ (HTA.out HWA.out) (fun g n w hg => by rw [hu]; exact zz_Unique HKF.out HWA.out HS.out hg) w1 h.bel))
  have HSO := Lib.hid (fun L rs w1 (h : SPR w L rs w1) => h.res (impl_Sort w a m _ _ _ _ _ _ _ _ _ _ _ _ (HTA.out HWA.out) (fun g n w hg => by rw [hs]; exact zz_sort HKF.out HWA.out HS.out hg) w1 h.bel))
  have H3R := Lib.hid (SPR.start H3.out)
  clear hs hu HTA
  go_wp2_with fail
  clear ya H3 ka
  have HS5 : ∀ w', SPR w [(A, cv a A3a a3a A4a a4a A5a a5a, 26)] [] w' → w'.cell? ⟨A, 0, none⟩ = some (.int .i64 a.f0) ∧ w'.cell? ⟨A, 1, none⟩ = some (.int .i64 a.f1) ∧ w'.cell? ⟨A, 2, none⟩ = some (.string a.f2) ∧ w'.cell? ⟨A, 3, none⟩ = some (.slice A3a a.f3.length a3a) ∧ w'.cell? ⟨A, 4, none⟩ = some (.slice A4a a.f4.length a4a) ∧ w'.cell? ⟨A, 5, none⟩ = some (.slice A5a a.f5.length a5a) ∧ SPR w [(A, cv a A3a a3a A4a a4a A5a a5a, 26)] [] w' := fun w' h => ⟨((six_cells (h.get 0 rfl)).1), ((six_cells (h.get 0 rfl)).2.1), ((six_cells (h.get 0 rfl)).2.2.1), ((six_cells (h.get 0 rfl)).2.2.2.1), ((six_cells (h.get 0 rfl)).2.2.2.2.1), ((six_cells (h.get 0 rfl)).2.2.2.2.2.1), h⟩
  refine start_ (n := 8) (S := fun w' => w'.cell? ⟨A, 0, none⟩ = some (.int .i64 a.f0) ∧ w'.cell? ⟨A, 1, none⟩ = some (.int .i64 a.f1) ∧ w'.cell? ⟨A, 2, none⟩ = some (.string a.f2) ∧ w'.cell? ⟨A, 3, none⟩ = some (.slice A3a a.f3.length a3a) ∧ w'.cell? ⟨A, 4, none⟩ = some (.slice A4a a.f4.length a4a) ∧ w'.cell? ⟨A, 5, none⟩ = some (.slice A5a a.f5.length a5a) ∧ SPR w [(A, cv a A3a a3a A4a a4a A5a a5a, 26)] [] w') (ds := []) #[false, false, false, false, false, false, false, false] (by kernel_rfl) rfl rfl (HS5 _ (SPR.drew H3R.out)) (fun hHeld => ?_)
  refine take_ (i := 0) (N := some 20) (v := ?_) (a' := ?_) #[true, false, false, false, false, false, false, false] rfl rfl (by kernel_rfl) (fun _ _ _ h => h) (Or.inl ⟨by rfl, ?_⟩) hHeld ?_ ?_
  rotate_left
  ·rintro w' ⟨s0, s1, s2, s3, s4, s5, s6⟩
   go_simp
   with_reducible rfl
  rotate_left
  ·simp only [Act.put, List.setIfInBounds_toArray, List.set_cons_zero, List.set_cons_succ, i64_w, i32_w]
   rfl
  refine take_ (i := 2) (N := some 22) (v := ?_) (a' := ?_) #[true, false, true, false, false, false, false, false] rfl rfl (by kernel_rfl) (fun _ _ _ h => h) (Or.inl ⟨by rfl, ?_⟩) hHeld ?_ ?_
  rotate_left
  ·rintro w' ⟨s0, s1, s2, s3, s4, s5, s6⟩
   go_simp
   with_reducible rfl
  rotate_left
  ·simp only [Act.put, List.setIfInBounds_toArray, List.set_cons_zero, List.set_cons_succ, i64_w, i32_w]
   rfl
  refine join_ (σ := Nat × Nat × Array Value × Array Value) 2 #[true, true, true, true, true, true, false, false] (fun s => [(21, .agg s.2.2.1), (23, .agg s.2.2.2), (3, .pointer (some ⟨s.1, 0, none⟩)), (4, .pointer (some ⟨s.2.1, 0, none⟩))]) (fun s w' => SPR w [(A, cv a A3a a3a A4a a4a A5a a5a, 26), (s.1, z7, 30), (s.2.1, z7, 30)] [(u, s.2.2.1), (m, s.2.2.2)] w') ?_ ?_
  rotate_left
  ·intro hCont
   refine three_ (i := 1) (j := 4) (k := 5) (Ni := some 21) (Nj := some 3) (Nk := some 4) #[true, true, true, false, false, false, false, false] #[true, false, true, false, true, false, false, false] #[true, false, true, false, false, true, false, false] rfl rfl rfl rfl rfl rfl (by kernel_rfl) (by decide) (by decide) (by decide) (fun K hK => ?_) (fun K hK => ?_) (fun K hK => ?_)
   ·skip
    refine goes_ Tryz.func23 (by kernel_rfl) rfl #[.agg #[.int .i64 a.f0, .int .i64 a.f1, .string a.f2, .slice A3a a.f3.length a3a, .slice A4a a.f4.length a4a, .slice A5a a.f5.length a5a]] (by rfl) rfl rfl (by simp only [List.map_toArray, List.map_cons, List.map_nil]; rfl) ?_
    with_reducible refine ((HUQ.out _ _ _ (hHeld.2.2.2.2.2.2))).mono ?_
    rintro e w61 ⟨u1, rfl, hz1⟩
    refine ⟨_, rfl, ?_⟩
    refine hK.out _ _ (HS5 _ (SPR.pre1 hz1)) (fun hHeld => ?_)
    clear hK K
    refine norm_ (a' := ?_) ?_ ?_
    rotate_left
    ·show Act.put _ (some 21) _ = _
     simp only [Act.put, List.setIfInBounds_toArray, List.set_cons_zero, List.set_cons_succ, i64_w, i32_w]
     rfl
    refine three_ (i := 3) (j := 4) (k := 5) (Ni := some 23) (Nj := some 3) (Nk := some 4) #[true, true, true, true, false, false, false, false] #[true, true, true, false, true, false, false, false] #[true, true, true, false, false, true, false, false] rfl rfl rfl rfl rfl rfl (by kernel_rfl) (by decide) (by decide) (by decide) (fun K hK => ?_) (fun K hK => ?_) (fun K hK => ?_)
    ·skip
     refine goes_ Tryz.func17 (by kernel_rfl) rfl #[.agg #[.int .i64 a.f0, .int .i64 a.f1, .string a.f2, .slice A3a a.f3.length a3a, .slice A4a a.f4.length a4a, .slice A5a a.f5.length a5a]] (by rfl) rfl rfl (by simp only [List.map_toArray, List.map_cons, List.map_nil]; rfl) ?_
     with_reducible refine ((HSO.out _ _ _ (hz1))).mono ?_
     rintro e w62 ⟨u3, rfl, hz2⟩
     refine ⟨_, rfl, ?_⟩
     refine hK.out _ _ (HS5 _ (SPR.pre1 hz2)) (fun hHeld => ?_)
     clear hK K
     refine norm_ (a' := ?_) ?_ ?_
     rotate_left
     ·show Act.put _ (some 23) _ = _
      simp only [Act.put, List.setIfInBounds_toArray, List.set_cons_zero, List.set_cons_succ, i64_w, i32_w]
      rfl
     refine two_ (i := 4) (j := 5) (Ni := some 3) (Nj := some 4) #[true, true, true, true, true, false, false, false] #[true, true, true, true, false, true, false, false] rfl rfl rfl rfl (by kernel_rfl) (by decide) (by decide) (fun K hK => ?_) (fun K hK => ?_)
     ·skip
      refine freshR_ (c := #[.int .i64 0, .int .i64 0, .string ⟨#[]⟩, .slice none 0 0, .slice none 0 0, .slice none 0 0, .int .i64 0]) (t := 30) (hz2) (by rfl) rfl ?_ ?_
      ·first | (go_simp; done) | (go_simp; rfl)
      intro R4 w63 hz3
      refine hK.out _ _ (HS5 _ (SPR.pre1 hz3)) (fun hHeld => ?_)
      clear hK K
      refine norm_ (a' := ?_) ?_ ?_
      rotate_left
      ·show Act.put _ (some 3) _ = _
       simp only [Act.put, List.setIfInBounds_toArray, List.set_cons_zero, List.set_cons_succ, i64_w, i32_w]
       rfl
      refine one_ (i := 5) (N := some 4) #[true, true, true, true, true, true, false, false] rfl rfl (by kernel_rfl) (by decide) (fun K hK => ?_)
      refine freshR_ (c := #[.int .i64 0, .int .i64 0, .string ⟨#[]⟩, .slice none 0 0, .slice none 0 0, .slice none 0 0, .int .i64 0]) (t := 30) (hz3) (by rfl) rfl ?_ ?_
      ·first | (go_simp; done) | (go_simp; rfl)
      intro R5 w64 hz4
      refine hK.out _ _ (HS5 _ (SPR.pre1 hz4)) (fun hHeld => ?_)
      clear hK K
      refine norm_ (a' := ?_) ?_ ?_
      rotate_left
      ·show Act.put _ (some 4) _ = _
       simp only [Act.put, List.setIfInBounds_toArray, List.set_cons_zero, List.set_cons_succ, i64_w, i32_w]
       rfl
      exact norm_ (by first | (simp only [putAll, Act.put, List.setIfInBounds_toArray, List.set_cons_zero, List.set_cons_succ]; done) | (simp only [putAll, Act.put, List.setIfInBounds_toArray, List.set_cons_zero, List.set_cons_succ, World.size_alloc]; done) | (simp only [putAll, Act.put, List.setIfInBounds_toArray, List.set_cons_zero, List.set_cons_succ, World.size_alloc]; rfl)) (hCont (R4, R5, u1, u3) _ hz4)
     ·skip
      refine freshR_ (c := #[.int .i64 0, .int .i64 0, .string ⟨#[]⟩, .slice none 0 0, .slice none 0 0, .slice none 0 0, .int .i64 0]) (t := 30) (hz2) (by rfl) rfl ?_ ?_
      ·first | (go_simp; done) | (go_simp; rfl)
      intro R5 w63 hz3
      refine hK.out _ _ (HS5 _ (SPR.pre1 hz3)) (fun hHeld => ?_)
      clear hK K
      refine norm_ (a' := ?_) ?_ ?_
      rotate_left
      ·show Act.put _ (some 4) _ = _
       simp only [Act.put, List.setIfInBounds_toArray, List.set_cons_zero, List.set_cons_succ, i64_w, i32_w]
       rfl
      refine one_ (i := 4) (N := some 3) #[true, true, true, true, true, true, false, false] rfl rfl (by kernel_rfl) (by decide) (fun K hK => ?_)
      refine freshR_ (c := #[.int .i64 0, .int .i64 0, .string ⟨#[]⟩, .slice none 0 0, .slice none 0 0, .slice none 0 0, .int .i64 0]) (t := 30) (hz3) (by rfl) rfl ?_ ?_
      ·first | (go_simp; done) | (go_simp; rfl)
      intro R4 w64 hz4
      refine hK.out _ _ (HS5 _ (SPR.pre1 hz4)) (fun hHeld => ?_)
      clear hK K
      refine norm_ (a' := ?_) ?_ ?_
      rotate_left
      ·show Act.put _ (some 3) _ = _
       simp only [Act.put, List.setIfInBounds_toArray, List.set_cons_zero, List.set_cons_succ, i64_w, i32_w]
       rfl
      exact norm_ (by first | (simp only [putAll, Act.put, List.setIfInBounds_toArray, List.set_cons_zero, List.set_cons_succ]; done) | (simp only [putAll, Act.put, List.setIfInBounds_toArray, List.set_cons_zero, List.set_cons_succ, World.size_alloc]; done) | (simp only [putAll, Act.put, List.setIfInBounds_toArray, List.set_cons_zero, List.set_cons_succ, World.size_alloc]; rfl)) (hCont (R4, R5, u1, u3) _ (SPR.swap hz4))
    ·skip
     refine freshR_ (c := #[.int .i64 0, .int .i64 0, .string ⟨#[]⟩, .slice none 0 0, .slice none 0 0, .slice none 0 0, .int .i64 0]) (t := 30) (hz1) (by rfl) rfl ?_ ?_
     ·first | (go_simp; done) | (go_simp; rfl)
     intro R4 w62 hz2
     refine hK.out _ _ (HS5 _ (SPR.pre1 hz2)) (fun hHeld => ?_)
     clear hK K
     refine norm_ (a' := ?_) ?_ ?_
     rotate_left
     ·show Act.put _ (some 3) _ = _
      simp only [Act.put, List.setIfInBounds_toArray, List.set_cons_zero, List.set_cons_succ, i64_w, i32_w]
      rfl
     refine two_ (i := 3) (j := 5) (Ni := some 23) (Nj := some 4) #[true, true, true, true, true, false, false, false] #[true, true, true, false, true, true, false, false] rfl rfl rfl rfl (by kernel_rfl) (by decide) (by decide) (fun K hK => ?_) (fun K hK => ?_)
     ·skip
      refine goes_ Tryz.func17 (by kernel_rfl) rfl #[.agg #[.int .i64 a.f0, .int .i64 a.f1, .string a.f2, .slice A3a a.f3.length a3a, .slice A4a a.f4.length a4a, .slice A5a a.f5.length a5a]] (by rfl) rfl rfl (by simp only [List.map_toArray, List.map_cons, List.map_nil]; rfl) ?_
      with_reducible refine ((HSO.out _ _ _ (hz2))).mono ?_
      rintro e w63 ⟨u3, rfl, hz3⟩
      refine ⟨_, rfl, ?_⟩
      refine hK.out _ _ (HS5 _ (SPR.pre1 hz3)) (fun hHeld => ?_)
      clear hK K
      refine norm_ (a' := ?_) ?_ ?_
      rotate_left
      ·show Act.put _ (some 23) _ = _
       simp only [Act.put, List.setIfInBounds_toArray, List.set_cons_zero, List.set_cons_succ, i64_w, i32_w]
       rfl
      refine one_ (i := 5) (N := some 4) #[true, true, true, true, true, true, false, false] rfl rfl (by kernel_rfl) (by decide) (fun K hK => ?_)
      refine freshR_ (c := #[.int .i64 0, .int .i64 0, .string ⟨#[]⟩, .slice none 0 0, .slice none 0 0, .slice none 0 0, .int .i64 0]) (t := 30) (hz3) (by rfl) rfl ?_ ?_
      ·first | (go_simp; done) | (go_simp; rfl)
      intro R5 w64 hz4
      refine hK.out _ _ (HS5 _ (SPR.pre1 hz4)) (fun hHeld => ?_)
      clear hK K
      refine norm_ (a' := ?_) ?_ ?_
      rotate_left
      ·show Act.put _ (some 4) _ = _
       simp only [Act.put, List.setIfInBounds_toArray, List.set_cons_zero, List.set_cons_succ, i64_w, i32_w]
       rfl
      exact norm_ (by first | (simp only [putAll, Act.put, List.setIfInBounds_toArray, List.set_cons_zero, List.set_cons_succ]; done) | (simp only [putAll, Act.put, List.setIfInBounds_toArray, List.set_cons_zero, List.set_cons_succ, World.size_alloc]; done) | (simp only [putAll, Act.put, List.setIfInBounds_toArray, List.set_cons_zero, List.set_cons_succ, World.size_alloc]; rfl)) (hCont (R4, R5, u1, u3) _ hz4)
     ·skip
      refine freshR_ (c := #[.int .i64 0, .int .i64 0, .string ⟨#[]⟩, .slice none 0 0, .slice none 0 0, .slice none 0 0, .int .i64 0]) (t := 30) (hz2) (by rfl) rfl ?_ ?_
      ·first | (go_simp; done) | (go_simp; rfl)
      intro R5 w63 hz3
      refine hK.out _ _ (HS5 _ (SPR.pre1 hz3)) (fun hHeld => ?_)
      clear hK K
      refine norm_ (a' := ?_) ?_ ?_
      rotate_left
      ·show Act.put _ (some 4) _ = _
       simp only [Act.put, List.setIfInBounds_toArray, List.set_cons_zero, List.set_cons_succ, i64_w, i32_w]
       rfl
      refine one_ (i := 3) (N := some 23) #[true, true, true, true, true, true, false, false] rfl rfl (by kernel_rfl) (by decide) (fun K hK => ?_)
      refine goes_ Tryz.func17 (by kernel_rfl) rfl #[.agg #[.int .i64 a.f0, .int .i64 a.f1, .string a.f2, .slice A3a a.f3.length a3a, .slice A4a a.f4.length a4a, .slice A5a a.f5.length a5a]] (by rfl) rfl rfl (by simp only [List.map_toArray, List.map_cons, List.map_nil]; rfl) ?_
      with_reducible refine ((HSO.out _ _ _ (hz3))).mono ?_
      rintro e w64 ⟨u3, rfl, hz4⟩
      refine ⟨_, rfl, ?_⟩
      refine hK.out _ _ (HS5 _ (SPR.pre1 hz4)) (fun hHeld => ?_)
      clear hK K
      refine norm_ (a' := ?_) ?_ ?_
      rotate_left
      ·show Act.put _ (some 23) _ = _
       simp only [Act.put, List.setIfInBounds_toArray, List.set_cons_zero, List.set_cons_succ, i64_w, i32_w]
       rfl
      exact norm_ (by first | (simp only [putAll, Act.put, List.setIfInBounds_toArray, List.set_cons_zero, List.set_cons_succ]; done) | (simp only [putAll, Act.put, List.setIfInBounds_toArray, List.set_cons_zero, List.set_cons_succ, World.size_alloc]; done) | (simp only [putAll, Act.put, List.setIfInBounds_toArray, List.set_cons_zero, List.set_cons_succ, World.size_alloc]; rfl)) (hCont (R4, R5, u1, u3) _ hz4)
    ·skip
     refine freshR_ (c := #[.int .i64 0, .int .i64 0, .string ⟨#[]⟩, .slice none 0 0, .slice none 0 0, .slice none 0 0, .int .i64 0]) (t := 30) (hz1) (by rfl) rfl ?_ ?_
     ·first | (go_simp; done) | (go_simp; rfl)
     intro R5 w62 hz2
     refine hK.out _ _ (HS5 _ (SPR.pre1 hz2)) (fun hHeld => ?_)
     clear hK K
     refine norm_ (a' := ?_) ?_ ?_
     rotate_left
     ·show Act.put _ (some 4) _ = _
      simp only [Act.put, List.setIfInBounds_toArray, List.set_cons_zero, List.set_cons_succ, i64_w, i32_w]
      rfl
     refine two_ (i := 3) (j := 4) (Ni := some 23) (Nj := some 3) #[true, true, true, true, false, true, false, false] #[true, true, true, false, true, true, false, false] rfl rfl rfl rfl (by kernel_rfl) (by decide) (by decide) (fun K hK => ?_) (fun K hK => ?_)
     ·skip
      refine goes_ Tryz.func17 (by kernel_rfl) rfl #[.agg #[.int .i64 a.f0, .int .i64 a.f1, .string a.f2, .slice A3a a.f3.length a3a, .slice A4a a.f4.length a4a, .slice A5a a.f5.length a5a]] (by rfl) rfl rfl (by simp only [List.map_toArray, List.map_cons, List.map_nil]; rfl) ?_
      with_reducible refine ((HSO.out _ _ _ (hz2))).mono ?_
      rintro e w63 ⟨u3, rfl, hz3⟩
      refine ⟨_, rfl, ?_⟩
      refine hK.out _ _ (HS5 _ (SPR.pre1 hz3)) (fun hHeld => ?_)
      clear hK K
      refine norm_ (a' := ?_) ?_ ?_
      rotate_left
      ·show Act.put _ (some 23) _ = _
       simp only [Act.put, List.setIfInBounds_toArray, List.set_cons_zero, List.set_cons_succ, i64_w, i32_w]
       rfl
      refine one_ (i := 4) (N := some 3) #[true, true, true, true, true, true, false, false] rfl rfl (by kernel_rfl) (by decide) (fun K hK => ?_)
      refine freshR_ (c := #[.int .i64 0, .int .i64 0, .string ⟨#[]⟩, .slice none 0 0, .slice none 0 0, .slice none 0 0, .int .i64 0]) (t := 30) (hz3) (by rfl) rfl ?_ ?_
      ·first | (go_simp; done) | (go_simp; rfl)
      intro R4 w64 hz4
      refine hK.out _ _ (HS5 _ (SPR.pre1 hz4)) (fun hHeld => ?_)
      clear hK K
      refine norm_ (a' := ?_) ?_ ?_
      rotate_left
      ·show Act.put _ (some 3) _ = _
       simp only [Act.put, List.setIfInBounds_toArray, List.set_cons_zero, List.set_cons_succ, i64_w, i32_w]
       rfl
      exact norm_ (by first | (simp only [putAll, Act.put, List.setIfInBounds_toArray, List.set_cons_zero, List.set_cons_succ]; done) | (simp only [putAll, Act.put, List.setIfInBounds_toArray, List.set_cons_zero, List.set_cons_succ, World.size_alloc]; done) | (simp only [putAll, Act.put, List.setIfInBounds_toArray, List.set_cons_zero, List.set_cons_succ, World.size_alloc]; rfl)) (hCont (R4, R5, u1, u3) _ (SPR.swap hz4))
     ·skip
      refine freshR_ (c := #[.int .i64 0, .int .i64 0, .string ⟨#[]⟩, .slice none 0 0, .slice none 0 0, .slice none 0 0, .int .i64 0]) (t := 30) (hz2) (by rfl) rfl ?_ ?_
      ·first | (go_simp; done) | (go_simp; rfl)
      intro R4 w63 hz3
      refine hK.out _ _ (HS5 _ (SPR.pre1 hz3)) (fun hHeld => ?_)
      clear hK K
      refine norm_ (a' := ?_) ?_ ?_
      rotate_left
      ·show Act.put _ (some 3) _ = _
       simp only [Act.put, List.setIfInBounds_toArray, List.set_cons_zero, List.set_cons_succ, i64_w, i32_w]
       rfl
      refine one_ (i := 3) (N := some 23) #[true, true, true, true, true, true, false, false] rfl rfl (by kernel_rfl) (by decide) (fun K hK => ?_)
      refine goes_ Tryz.func17 (by kernel_rfl) rfl #[.agg #[.int .i64 a.f0, .int .i64 a.f1, .string a.f2, .slice A3a a.f3.length a3a, .slice A4a a.f4.length a4a, .slice A5a a.f5.length a5a]] (by rfl) rfl rfl (by simp only [List.map_toArray, List.map_cons, List.map_nil]; rfl) ?_
      with_reducible refine ((HSO.out _ _ _ (hz3))).mono ?_
      rintro e w64 ⟨u3, rfl, hz4⟩
      refine ⟨_, rfl, ?_⟩
      refine hK.out _ _ (HS5 _ (SPR.pre1 hz4)) (fun hHeld => ?_)
      clear hK K
      refine norm_ (a' := ?_) ?_ ?_
      rotate_left
      ·show Act.put _ (some 23) _ = _
       simp only [Act.put, List.setIfInBounds_toArray, List.set_cons_zero, List.set_cons_succ, i64_w, i32_w]
       rfl
      exact norm_ (by first | (simp only [putAll, Act.put, List.setIfInBounds_toArray, List.set_cons_zero, List.set_cons_succ]; done) | (simp only [putAll, Act.put, List.setIfInBounds_toArray, List.set_cons_zero, List.set_cons_succ, World.size_alloc]; done) | (simp only [putAll, Act.put, List.setIfInBounds_toArray, List.set_cons_zero, List.set_cons_succ, World.size_alloc]; rfl)) (hCont (R4, R5, u1, u3) _ (SPR.swap hz4))
   ·skip
    refine freshR_ (c := #[.int .i64 0, .int .i64 0, .string ⟨#[]⟩, .slice none 0 0, .slice none 0 0, .slice none 0 0, .int .i64 0]) (t := 30) (hHeld.2.2.2.2.2.2) (by rfl) rfl ?_ ?_
    ·first | (go_simp; done) | (go_simp; rfl)
    intro R4 w61 hz1
    refine hK.out _ _ (HS5 _ (SPR.pre1 hz1)) (fun hHeld => ?_)
    clear hK K
    refine norm_ (a' := ?_) ?_ ?_
    rotate_left
    ·show Act.put _ (some 3) _ = _
     simp only [Act.put, List.setIfInBounds_toArray, List.set_cons_zero, List.set_cons_succ, i64_w, i32_w]
     rfl
    refine two_ (i := 1) (j := 5) (Ni := some 21) (Nj := some 4) #[true, true, true, false, true, false, false, false] #[true, false, true, false, true, true, false, false] rfl rfl rfl rfl (by kernel_rfl) (by decide) (by decide) (fun K hK => ?_) (fun K hK => ?_)
    ·skip
     refine goes_ Tryz.func23 (by kernel_rfl) rfl #[.agg #[.int .i64 a.f0, .int .i64 a.f1, .string a.f2, .slice A3a a.f3.length a3a, .slice A4a a.f4.length a4a, .slice A5a a.f5.length a5a]] (by rfl) rfl rfl (by simp only [List.map_toArray, List.map_cons, List.map_nil]; rfl) ?_
     with_reducible refine ((HUQ.out _ _ _ (hz1))).mono ?_
     rintro e w62 ⟨u1, rfl, hz2⟩
     refine ⟨_, rfl, ?_⟩
     refine hK.out _ _ (HS5 _ (SPR.pre1 hz2)) (fun hHeld => ?_)
     clear hK K
     refine norm_ (a' := ?_) ?_ ?_
     rotate_left
     ·show Act.put _ (some 21) _ = _
      simp only [Act.put, List.setIfInBounds_toArray, List.set_cons_zero, List.set_cons_succ, i64_w, i32_w]
      rfl
     refine two_ (i := 3) (j := 5) (Ni := some 23) (Nj := some 4) #[true, true, true, true, true, false, false, false] #[true, true, true, false, true, true, false, false] rfl rfl rfl rfl (by kernel_rfl) (by decide) (by decide) (fun K hK => ?_) (fun K hK => ?_)
     ·skip
      refine goes_ Tryz.func17 (by kernel_rfl) rfl #[.agg #[.int .i64 a.f0, .int .i64 a.f1, .string a.f2, .slice A3a a.f3.length a3a, .slice A4a a.f4.length a4a, .slice A5a a.f5.length a5a]] (by rfl) rfl rfl (by simp only [List.map_toArray, List.map_cons, List.map_nil]; rfl) ?_
      with_reducible refine ((HSO.out _ _ _ (hz2))).mono ?_
      rintro e w63 ⟨u3, rfl, hz3⟩
      refine ⟨_, rfl, ?_⟩
      refine hK.out _ _ (HS5 _ (SPR.pre1 hz3)) (fun hHeld => ?_)
      clear hK K
      refine norm_ (a' := ?_) ?_ ?_
      rotate_left
      ·show Act.put _ (some 23) _ = _
       simp only [Act.put, List.setIfInBounds_toArray, List.set_cons_zero, List.set_cons_succ, i64_w, i32_w]
       rfl
      refine one_ (i := 5) (N := some 4) #[true, true, true, true, true, true, false, false] rfl rfl (by kernel_rfl) (by decide) (fun K hK => ?_)
      refine freshR_ (c := #[.int .i64 0, .int .i64 0, .string ⟨#[]⟩, .slice none 0 0, .slice none 0 0, .slice none 0 0, .int .i64 0]) (t := 30) (hz3) (by rfl) rfl ?_ ?_
      ·first | (go_simp; done) | (go_simp; rfl)
      intro R5 w64 hz4
      refine hK.out _ _ (HS5 _ (SPR.pre1 hz4)) (fun hHeld => ?_)
      clear hK K
      refine norm_ (a' := ?_) ?_ ?_
      rotate_left
      ·show Act.put _ (some 4) _ = _
       simp only [Act.put, List.setIfInBounds_toArray, List.set_cons_zero, List.set_cons_succ, i64_w, i32_w]
       rfl
      exact norm_ (by first | (simp only [putAll, Act.put, List.setIfInBounds_toArray, List.set_cons_zero, List.set_cons_succ]; done) | (simp only [putAll, Act.put, List.setIfInBounds_toArray, List.set_cons_zero, List.set_cons_succ, World.size_alloc]; done) | (simp only [putAll, Act.put, List.setIfInBounds_toArray, List.set_cons_zero, List.set_cons_succ, World.size_alloc]; rfl)) (hCont (R4, R5, u1, u3) _ hz4)
     ·skip
      refine freshR_ (c := #[.int .i64 0, .int .i64 0, .string ⟨#[]⟩, .slice none 0 0, .slice none 0 0, .slice none 0 0, .int .i64 0]) (t := 30) (hz2) (by rfl) rfl ?_ ?_
      ·first | (go_simp; done) | (go_simp; rfl)
      intro R5 w63 hz3
      refine hK.out _ _ (HS5 _ (SPR.pre1 hz3)) (fun hHeld => ?_)
      clear hK K
      refine norm_ (a' := ?_) ?_ ?_
      rotate_left
      ·show Act.put _ (some 4) _ = _
       simp only [Act.put, List.setIfInBounds_toArray, List.set_cons_zero, List.set_cons_succ, i64_w, i32_w]
       rfl
      refine one_ (i := 3) (N := some 23) #[true, true, true, true, true, true, false, false] rfl rfl (by kernel_rfl) (by decide) (fun K hK => ?_)
      refine goes_ Tryz.func17 (by kernel_rfl) rfl #[.agg #[.int .i64 a.f0, .int .i64 a.f1, .string a.f2, .slice A3a a.f3.length a3a, .slice A4a a.f4.length a4a, .slice A5a a.f5.length a5a]] (by rfl) rfl rfl (by simp only [List.map_toArray, List.map_cons, List.map_nil]; rfl) ?_
      with_reducible refine ((HSO.out _ _ _ (hz3))).mono ?_
      rintro e w64 ⟨u3, rfl, hz4⟩
      refine ⟨_, rfl, ?_⟩
      refine hK.out _ _ (HS5 _ (SPR.pre1 hz4)) (fun hHeld => ?_)
      clear hK K
      refine norm_ (a' := ?_) ?_ ?_
      rotate_left
      ·show Act.put _ (some 23) _ = _
       simp only [Act.put, List.setIfInBounds_toArray, List.set_cons_zero, List.set_cons_succ, i64_w, i32_w]
       rfl
      exact norm_ (by first | (simp only [putAll, Act.put, List.setIfInBounds_toArray, List.set_cons_zero, List.set_cons_succ]; done) | (simp only [putAll, Act.put, List.setIfInBounds_toArray, List.set_cons_zero, List.set_cons_succ, World.size_alloc]; done) | (simp only [putAll, Act.put, List.setIfInBounds_toArray, List.set_cons_zero, List.set_cons_succ, World.size_alloc]; rfl)) (hCont (R4, R5, u1, u3) _ hz4)
    ·skip
     refine freshR_ (c := #[.int .i64 0, .int .i64 0, .string ⟨#[]⟩, .slice none 0 0, .slice none 0 0, .slice none 0 0, .int .i64 0]) (t := 30) (hz1) (by rfl) rfl ?_ ?_
     ·first | (go_simp; done) | (go_simp; rfl)
     intro R5 w62 hz2
     refine hK.out _ _ (HS5 _ (SPR.pre1 hz2)) (fun hHeld => ?_)
     clear hK K
     refine norm_ (a' := ?_) ?_ ?_
     rotate_left
     ·show Act.put _ (some 4) _ = _
      simp only [Act.put, List.setIfInBounds_toArray, List.set_cons_zero, List.set_cons_succ, i64_w, i32_w]
      rfl
     refine one_ (i := 1) (N := some 21) #[true, true, true, false, true, true, false, false] rfl rfl (by kernel_rfl) (by decide) (fun K hK => ?_)
     refine goes_ Tryz.func23 (by kernel_rfl) rfl #[.agg #[.int .i64 a.f0, .int .i64 a.f1, .string a.f2, .slice A3a a.f3.length a3a, .slice A4a a.f4.length a4a, .slice A5a a.f5.length a5a]] (by rfl) rfl rfl (by simp only [List.map_toArray, List.map_cons, List.map_nil]; rfl) ?_
     with_reducible refine ((HUQ.out _ _ _ (hz2))).mono ?_
     rintro e w63 ⟨u1, rfl, hz3⟩
     refine ⟨_, rfl, ?_⟩
     refine hK.out _ _ (HS5 _ (SPR.pre1 hz3)) (fun hHeld => ?_)
     clear hK K
     refine norm_ (a' := ?_) ?_ ?_
     rotate_left
     ·show Act.put _ (some 21) _ = _
      simp only [Act.put, List.setIfInBounds_toArray, List.set_cons_zero, List.set_cons_succ, i64_w, i32_w]
      rfl
     refine one_ (i := 3) (N := some 23) #[true, true, true, true, true, true, false, false] rfl rfl (by kernel_rfl) (by decide) (fun K hK => ?_)
     refine goes_ Tryz.func17 (by kernel_rfl) rfl #[.agg #[.int .i64 a.f0, .int .i64 a.f1, .string a.f2, .slice A3a a.f3.length a3a, .slice A4a a.f4.length a4a, .slice A5a a.f5.length a5a]] (by rfl) rfl rfl (by simp only [List.map_toArray, List.map_cons, List.map_nil]; rfl) ?_
     with_reducible refine ((HSO.out _ _ _ (hz3))).mono ?_
     rintro e w64 ⟨u3, rfl, hz4⟩
     refine ⟨_, rfl, ?_⟩
     refine hK.out _ _ (HS5 _ (SPR.pre1 hz4)) (fun hHeld => ?_)
     clear hK K
     refine norm_ (a' := ?_) ?_ ?_
     rotate_left
     ·show Act.put _ (some 23) _ = _
      simp only [Act.put, List.setIfInBounds_toArray, List.set_cons_zero, List.set_cons_succ, i64_w, i32_w]
      rfl
     exact norm_ (by first | (simp only [putAll, Act.put, List.setIfInBounds_toArray, List.set_cons_zero, List.set_cons_succ]; done) | (simp only [putAll, Act.put, List.setIfInBounds_toArray, List.set_cons_zero, List.set_cons_succ, World.size_alloc]; done) | (simp only [putAll, Act.put, List.setIfInBounds_toArray, List.set_cons_zero, List.set_cons_succ, World.size_alloc]; rfl)) (hCont (R4, R5, u1, u3) _ hz4)
   ·skip
    refine freshR_ (c := #[.int .i64 0, .int .i64 0, .string ⟨#[]⟩, .slice none 0 0, .slice none 0 0, .slice none 0 0, .int .i64 0]) (t := 30) (hHeld.2.2.2.2.2.2) (by rfl) rfl ?_ ?_
    ·first | (go_simp; done) | (go_simp; rfl)
    intro R5 w61 hz1
    refine hK.out _ _ (HS5 _ (SPR.pre1 hz1)) (fun hHeld => ?_)
    clear hK K
    refine norm_ (a' := ?_) ?_ ?_
    rotate_left
    ·show Act.put _ (some 4) _ = _
     simp only [Act.put, List.setIfInBounds_toArray, List.set_cons_zero, List.set_cons_succ, i64_w, i32_w]
     rfl
    refine two_ (i := 1) (j := 4) (Ni := some 21) (Nj := some 3) #[true, true, true, false, false, true, false, false] #[true, false, true, false, true, true, false, false] rfl rfl rfl rfl (by kernel_rfl) (by decide) (by decide) (fun K hK => ?_) (fun K hK => ?_)
    ·skip
     refine goes_ Tryz.func23 (by kernel_rfl) rfl #[.agg #[.int .i64 a.f0, .int .i64 a.f1, .string a.f2, .slice A3a a.f3.length a3a, .slice A4a a.f4.length a4a, .slice A5a a.f5.length a5a]] (by rfl) rfl rfl (by simp only [List.map_toArray, List.map_cons, List.map_nil]; rfl) ?_
     with_reducible refine ((HUQ.out _ _ _ (hz1))).mono ?_
     rintro e w62 ⟨u1, rfl, hz2⟩
     refine ⟨_, rfl, ?_⟩
     refine hK.out _ _ (HS5 _ (SPR.pre1 hz2)) (fun hHeld => ?_)
     clear hK K
     refine norm_ (a' := ?_) ?_ ?_
     rotate_left
     ·show Act.put _ (some 21) _ = _
      simp only [Act.put, List.setIfInBounds_toArray, List.set_cons_zero, List.set_cons_succ, i64_w, i32_w]
      rfl
     refine two_ (i := 3) (j := 4) (Ni := some 23) (Nj := some 3) #[true, true, true, true, false, true, false, false] #[true, true, true, false, true, true, false, false] rfl rfl rfl rfl (by kernel_rfl) (by decide) (by decide) (fun K hK => ?_) (fun K hK => ?_)
     ·skip
      refine goes_ Tryz.func17 (by kernel_rfl) rfl #[.agg #[.int .i64 a.f0, .int .i64 a.f1, .string a.f2, .slice A3a a.f3.length a3a, .slice A4a a.f4.length a4a, .slice A5a a.f5.length a5a]] (by rfl) rfl rfl (by simp only [List.map_toArray, List.map_cons, List.map_nil]; rfl) ?_
      with_reducible refine ((HSO.out _ _ _ (hz2))).mono ?_
      rintro e w63 ⟨u3, rfl, hz3⟩
      refine ⟨_, rfl, ?_⟩
      refine hK.out _ _ (HS5 _ (SPR.pre1 hz3)) (fun hHeld => ?_)
      clear hK K
      refine norm_ (a' := ?_) ?_ ?_
      rotate_left
      ·show Act.put _ (some 23) _ = _
       simp only [Act.put, List.setIfInBounds_toArray, List.set_cons_zero, List.set_cons_succ, i64_w, i32_w]
       rfl
      refine one_ (i := 4) (N := some 3) #[true, true, true, true, true, true, false, false] rfl rfl (by kernel_rfl) (by decide) (fun K hK => ?_)
      refine freshR_ (c := #[.int .i64 0, .int .i64 0, .string ⟨#[]⟩, .slice none 0 0, .slice none 0 0, .slice none 0 0, .int .i64 0]) (t := 30) (hz3) (by rfl) rfl ?_ ?_
      ·first | (go_simp; done) | (go_simp; rfl)
      intro R4 w64 hz4
      refine hK.out _ _ (HS5 _ (SPR.pre1 hz4)) (fun hHeld => ?_)
      clear hK K
      refine norm_ (a' := ?_) ?_ ?_
      rotate_left
      ·show Act.put _ (some 3) _ = _
       simp only [Act.put, List.setIfInBounds_toArray, List.set_cons_zero, List.set_cons_succ, i64_w, i32_w]
       rfl
      exact norm_ (by first | (simp only [putAll, Act.put, List.setIfInBounds_toArray, List.set_cons_zero, List.set_cons_succ]; done) | (simp only [putAll, Act.put, List.setIfInBounds_toArray, List.set_cons_zero, List.set_cons_succ, World.size_alloc]; done) | (simp only [putAll, Act.put, List.setIfInBounds_toArray, List.set_cons_zero, List.set_cons_succ, World.size_alloc]; rfl)) (hCont (R4, R5, u1, u3) _ (SPR.swap hz4))
     ·skip
      refine freshR_ (c := #[.int .i64 0, .int .i64 0, .string ⟨#[]⟩, .slice none 0 0, .slice none 0 0, .slice none 0 0, .int .i64 0]) (t := 30) (hz2) (by rfl) rfl ?_ ?_
      ·first | (go_simp; done) | (go_simp; rfl)
      intro R4 w63 hz3
      refine hK.out _ _ (HS5 _ (SPR.pre1 hz3)) (fun hHeld => ?_)
      clear hK K
      refine norm_ (a' := ?_) ?_ ?_
      rotate_left
      ·show Act.put _ (some 3) _ = _
       simp only [Act.put, List.setIfInBounds_toArray, List.set_cons_zero, List.set_cons_succ, i64_w, i32_w]
       rfl
      refine one_ (i := 3) (N := some 23) #[true, true, true, true, true, true, false, false] rfl rfl (by kernel_rfl) (by decide) (fun K hK => ?_)
      refine goes_ Tryz.func17 (by kernel_rfl) rfl #[.agg #[.int .i64 a.f0, .int .i64 a.f1, .string a.f2, .slice A3a a.f3.length a3a, .slice A4a a.f4.length a4a, .slice A5a a.f5.length a5a]] (by rfl) rfl rfl (by simp only [List.map_toArray, List.map_cons, List.map_nil]; rfl) ?_
      with_reducible refine ((HSO.out _ _ _ (hz3))).mono ?_
      rintro e w64 ⟨u3, rfl, hz4⟩
      refine ⟨_, rfl, ?_⟩
      refine hK.out _ _ (HS5 _ (SPR.pre1 hz4)) (fun hHeld => ?_)
      clear hK K
      refine norm_ (a' := ?_) ?_ ?_
      rotate_left
      ·show Act.put _ (some 23) _ = _
       simp only [Act.put, List.setIfInBounds_toArray, List.set_cons_zero, List.set_cons_succ, i64_w, i32_w]
       rfl
      exact norm_ (by first | (simp only [putAll, Act.put, List.setIfInBounds_toArray, List.set_cons_zero, List.set_cons_succ]; done) | (simp only [putAll, Act.put, List.setIfInBounds_toArray, List.set_cons_zero, List.set_cons_succ, World.size_alloc]; done) | (simp only [putAll, Act.put, List.setIfInBounds_toArray, List.set_cons_zero, List.set_cons_succ, World.size_alloc]; rfl)) (hCont (R4, R5, u1, u3) _ (SPR.swap hz4))
    ·skip
     refine freshR_ (c := #[.int .i64 0, .int .i64 0, .string ⟨#[]⟩, .slice none 0 0, .slice none 0 0, .slice none 0 0, .int .i64 0]) (t := 30) (hz1) (by rfl) rfl ?_ ?_
     ·first | (go_simp; done) | (go_simp; rfl)
     intro R4 w62 hz2
     refine hK.out _ _ (HS5 _ (SPR.pre1 hz2)) (fun hHeld => ?_)
     clear hK K
     refine norm_ (a' := ?_) ?_ ?_
     rotate_left
     ·show Act.put _ (some 3) _ = _
      simp only [Act.put, List.setIfInBounds_toArray, List.set_cons_zero, List.set_cons_succ, i64_w, i32_w]
      rfl
     refine one_ (i := 1) (N := some 21) #[true, true, true, false, true, true, false, false] rfl rfl (by kernel_rfl) (by decide) (fun K hK => ?_)
     refine goes_ Tryz.func23 (by kernel_rfl) rfl #[.agg #[.int .i64 a.f0, .int .i64 a.f1, .string a.f2, .slice A3a a.f3.length a3a, .slice A4a a.f4.length a4a, .slice A5a a.f5.length a5a]] (by rfl) rfl rfl (by simp only [List.map_toArray, List.map_cons, List.map_nil]; rfl) ?_
     with_reducible refine ((HUQ.out _ _ _ (hz2))).mono ?_
     rintro e w63 ⟨u1, rfl, hz3⟩
     refine ⟨_, rfl, ?_⟩
     refine hK.out _ _ (HS5 _ (SPR.pre1 hz3)) (fun hHeld => ?_)
     clear hK K
     refine norm_ (a' := ?_) ?_ ?_
     rotate_left
     ·show Act.put _ (some 21) _ = _
      simp only [Act.put, List.setIfInBounds_toArray, List.set_cons_zero, List.set_cons_succ, i64_w, i32_w]
      rfl
     refine one_ (i := 3) (N := some 23) #[true, true, true, true, true, true, false, false] rfl rfl (by kernel_rfl) (by decide) (fun K hK => ?_)
     refine goes_ Tryz.func17 (by kernel_rfl) rfl #[.agg #[.int .i64 a.f0, .int .i64 a.f1, .string a.f2, .slice A3a a.f3.length a3a, .slice A4a a.f4.length a4a, .slice A5a a.f5.length a5a]] (by rfl) rfl rfl (by simp only [List.map_toArray, List.map_cons, List.map_nil]; rfl) ?_
     with_reducible refine ((HSO.out _ _ _ (hz3))).mono ?_
     rintro e w64 ⟨u3, rfl, hz4⟩
     refine ⟨_, rfl, ?_⟩
     refine hK.out _ _ (HS5 _ (SPR.pre1 hz4)) (fun hHeld => ?_)
     clear hK K
     refine norm_ (a' := ?_) ?_ ?_
     rotate_left
     ·show Act.put _ (some 23) _ = _
      simp only [Act.put, List.setIfInBounds_toArray, List.set_cons_zero, List.set_cons_succ, i64_w, i32_w]
      rfl
     exact norm_ (by first | (simp only [putAll, Act.put, List.setIfInBounds_toArray, List.set_cons_zero, List.set_cons_succ]; done) | (simp only [putAll, Act.put, List.setIfInBounds_toArray, List.set_cons_zero, List.set_cons_succ, World.size_alloc]; done) | (simp only [putAll, Act.put, List.setIfInBounds_toArray, List.set_cons_zero, List.set_cons_succ, World.size_alloc]; rfl)) (hCont (R4, R5, u1, u3) _ (SPR.swap hz4))
  rintro ⟨R, T, cu, cm⟩ w' hF
  change SPR w [(A, cv a A3a a3a A4a a4a A5a a5a, 26), (R, z7, 30), (T, z7, 30)] [(u, cu), (m, cm)] w' at hF
  obtain ⟨B3u, d3u, B4u, d4u, B5u, d5u, rfl⟩ := hF.cells 0 rfl
  obtain ⟨B3m, d3m, B4m, d4m, B5m, d5m, rfl⟩ := hF.cells 1 rfl
  have hHeld : w'.cell? ⟨A, 0, none⟩ = some (.int .i64 a.f0) ∧ w'.cell? ⟨A, 1, none⟩ = some (.int .i64 a.f1) ∧ w'.cell? ⟨A, 2, none⟩ = some (.string a.f2) ∧ w'.cell? ⟨A, 3, none⟩ = some (.slice A3a a.f3.length a3a) ∧ w'.cell? ⟨A, 4, none⟩ = some (.slice A4a a.f4.length a4a) ∧ w'.cell? ⟨A, 5, none⟩ = some (.slice A5a a.f5.length a5a) ∧ SPR w [(A, cv a A3a a3a A4a a4a A5a a5a, 26)] [] w' := (HS5 _ (SPR.pre1 hF))
  refine norm_ (a' := ?_) ?_ ?_
  rotate_left
  ·simp only [putAll, Act.put, List.setIfInBounds_toArray, List.set_cons_zero, List.set_cons_succ]
   rfl
  refine one_ (i := 6) (N := none) #[true, true, true, true, true, true, true, false] rfl rfl (by kernel_rfl) (by decide) (fun K hK => ?_)
  obtain ⟨y0, y1, y2, y3, y4, y5, y6, f0, f1, f2, f3, f4, f5, f6⟩ := sev_cells (hF.get 1 rfl)
  refine put7R_ (v0 := .int .i64 u.f0) (v1 := .int .i64 u.f1) (v2 := .string u.f2) (v3 := .slice B3u u.f3.length d3u) (v4 := .slice B4u u.f4.length d4u) (v5 := .slice B5u u.f5.length d5u) (v6 := .int .i64 0) hF 1 rfl (by rfl) rfl ?_ ?_
  ·first | (go_simp; done) | (go_simp; rfl)
  clear y0 y1 y2 y3 y4 y5 y6 f0 f1 f2 f3 f4 f5 f6
  intro w68 hz8
  change SPR w [(A, cv a A3a a3a A4a a4a A5a a5a, 26), (R, rc u B3u d3u B4u d4u B5u d5u, 30), (T, z7, 30)] [(u, rc u B3u d3u B4u d4u B5u d5u), (m, rc m B3m d3m B4m d4m B5m d5m)] w68 at hz8
  refine hK.out _ _ (HS5 _ (SPR.pre1 hz8)) (fun hHeld => ?_)
  clear hK K
  refine one_ (i := 7) (N := none) #[true, true, true, true, true, true, true, true] rfl rfl (by kernel_rfl) (by decide) (fun K hK => ?_)
  obtain ⟨y0, y1, y2, y3, y4, y5, y6, f0, f1, f2, f3, f4, f5, f6⟩ := sev_cells (hz8.get 2 rfl)
  refine put7R_ (v0 := .int .i64 m.f0) (v1 := .int .i64 m.f1) (v2 := .string m.f2) (v3 := .slice B3m m.f3.length d3m) (v4 := .slice B4m m.f4.length d4m) (v5 := .slice B5m m.f5.length d5m) (v6 := .int .i64 0) hz8 2 rfl (by rfl) rfl ?_ ?_
  ·first | (go_simp; done) | (go_simp; rfl)
  clear y0 y1 y2 y3 y4 y5 y6 f0 f1 f2 f3 f4 f5 f6
  intro w69 hz9
  change SPR w [(A, cv a A3a a3a A4a a4a A5a a5a, 26), (R, rc u B3u d3u B4u d4u B5u d5u, 30), (T, rc m B3m d3m B4m d4m B5m d5m, 30)] [(u, rc u B3u d3u B4u d4u B5u d5u), (m, rc m B3m d3m B4m d4m B5m d5m)] w69 at hz9
  refine hK.out _ _ (HS5 _ (SPR.pre1 hz9)) (fun hHeld => ?_)
  clear hK K
  refine done_ (by kernel_rfl) ?_
  have H6 := Lib.hid hz9
  clear hz9 HUQ HSO H3R HS5
  obtain ⟨_, _, _, _, _, _, hes, _, gs, _, _, _, _⟩ := k26_open (H6.out.held 1 rfl)
  simp only [List.cons.injEq, Value.int.injEq, Value.string.injEq, Value.slice.injEq, true_and, and_true] at hes
  obtain ⟨⟨rfl, rfl⟩, ⟨rfl, rfl⟩, ⟨rfl, rfl⟩⟩ := hes
  have HGS := Lib.hid gs
  have yt := sev_cells (H6.out.get 2 rfl)
  clear gs
  go_wp2_with fail
  clear yt
  go_loopg [5, 28] m.f3.length (fun k v i wr => ∃ j : Nat, i = .int .i64 j ∧ k + j = m.f3.length ∧ SPO w69 [] v (uqT m.f3 j) wr)
  case atStart => exact ⟨0, rfl, by omega, SPO.start (sp_nil _)⟩
  case round =>
    obtain ⟨j, rfl, hkj, hO⟩ := hrel
    by_cases hlt : j < m.f3.length
    · obtain ⟨AL, cL, rfl, hle, hCL⟩ := hO.row
      obtain ⟨nL, hnL⟩ : ∃ nL, nL = (uqT m.f3 j).length := ⟨_, rfl⟩
      rw [← hnL] at hO ⊢
      clear hle hCL hnL
      obtain ⟨ad, C3, e3, C4, e4, C5, e5, hB, x0, x1, x2, x3, x4, x5, hKy⟩ := elem_at HGS.out hO.bel j hlt
      obtain rfl := hB
      obtain ⟨y, hy⟩ : ∃ y, y = rd_T26 m.f3 j := ⟨_, rfl⟩
      rw [← hy] at x0 x1 x2 x3 x4 x5 hKy
      have HY := Lib.hid (And.intro hy (And.intro (HES.out y (by rw [hy]; exact rd_mem m.f3 j hlt)) hKy))
      have HR := Lib.hid (And.intro hO (And.intro hkj hlt))
      have hlt2 : (j : Int) < (m.f3.length : Int) := by omega
      have hT := H6.out.below hO.bel
      have yt := sev_cells (hT.get 2 rfl)
      have hlt3 : T < wr.heap.size := lt_of_heap (hT.get 2 rfl)
      clear hy hKy hkj hO hT
      go_wp2_with fail
      obtain ⟨Y, hY⟩ : ∃ Y, Y = wr.heap.size := ⟨_, rfl⟩
      obtain ⟨W7, hW7⟩ : ∃ W7, W7 = wr.alloc (.cells #[.int .i64 y.f0, .int .i64 y.f1, .string y.f2, .slice C3 y.f3.length e3, .slice C4 y.f4.length e4, .slice C5 y.f5.length e5] 26) := ⟨_, rfl⟩
      have hS7 := HR.out.1.more #[.int .i64 y.f0, .int .i64 y.f1, .string y.f2, .slice C3 y.f3.length e3, .slice C4 y.f4.length e4, .slice C5 y.f5.length e5] 26
      rw [← hY, ← hW7] at hS7
      rw [← hW7]
      try rw [← hY]
      have H7 := Lib.hid hS7
      clear hS7 hW7 hY x0 x1 x2 x3 x4 x5 yt hlt3
      by_cases j0 : 0 < j
      · obtain ⟨q, hq⟩ : ∃ q, q = j - 1 := ⟨_, rfl⟩
        have hwq : wrap64 ((j : Int) - 1) = (q : Int) := by rw [hq]; exact w_pred (n := m.f3.length) hlt (Nat.le_succ_of_le HNS.out.1) j0
        have hqn : q < m.f3.length := by omega
        obtain ⟨ad2, D3, h3, D4, h4, D5, h5, he2, u0, u1, u2, u3, u4, u5, hKp⟩ := elem_at HGS.out (Below.refl _ w69) q hqn
        obtain rfl : ad = ad2 := Option.some.inj he2
        obtain ⟨p, hp⟩ : ∃ p, p = rd_T26 m.f3 q := ⟨_, rfl⟩
        rw [← hp] at u0 u1 u2 u3 u4 u5 hKp
        have HWP := Lib.hid (HES.out p (by rw [hp]; exact rd_mem m.f3 q hqn))
        have HSA := Lib.hid (fun w1 hb => same_any w69 p y HWP.out.1 HY.out.2.1.1 hKp HY.out.2.2 w1 hb)
        simp only [vl] at HSA
        obtain ⟨bz, hbz⟩ : ∃ bz, bz = (cmpV p y == 0) := ⟨_, rfl⟩
        rw [← hbz] at HSA
        have HZ : Hid (bz = (cmpV (rd_T26 m.f3 ((j - 1 : Nat) : Int)) (rd_T26 m.f3 (j : Nat)) == 0)) := Lib.hid (by rw [hbz, hp, hq, HY.out.1])
        have hj1 : ((j : Int) == 0) = false := by rw [Bool.eq_false_iff]; intro h; rw [beq_iff_eq] at h; omega
        have hj2 : (j == 0) = false := by rw [Bool.eq_false_iff]; intro h; rw [beq_iff_eq] at h; omega
        have HJ := Lib.hid j0
        have hqn2 : (q : Int) < (m.f3.length : Int) := by omega
        have hq0 : (0 : Int) ≤ (q : Int) := by omega
        have HU := Lib.hid (And.intro u0 (And.intro u1 (And.intro u2 (And.intro u3 (And.intro u4 (And.intro u5 trivial))))))
        clear hq hp hbz hKp he2 hlt hqn j0 u0 u1 u2 u3 u4 u5
        go_wp2_with fail
        refine start_ (n := 14) (S := fun w' => w'.cell? ⟨Y, 0, none⟩ = some (.int .i64 y.f0) ∧ w'.cell? ⟨Y, 1, none⟩ = some (.int .i64 y.f1) ∧ w'.cell? ⟨Y, 2, none⟩ = some (.string y.f2) ∧ w'.cell? ⟨Y, 3, none⟩ = some (.slice C3 y.f3.length e3) ∧ w'.cell? ⟨Y, 4, none⟩ = some (.slice C4 y.f4.length e4) ∧ w'.cell? ⟨Y, 5, none⟩ = some (.slice C5 y.f5.length e5) ∧ w'.cell? ⟨T, 3, none⟩ = some (.slice (some ad) m.f3.length d3m) ∧ w'.cell? (ad.add (q * 6)) = some (.int .i64 p.f0) ∧ w'.cell? ⟨(ad.add (q * 6)).block, (ad.add (q * 6)).off + 1, none⟩ = some (.int .i64 p.f1) ∧ w'.cell? ⟨(ad.add (q * 6)).block, (ad.add (q * 6)).off + 2, none⟩ = some (.string p.f2) ∧ w'.cell? ⟨(ad.add (q * 6)).block, (ad.add (q * 6)).off + 3, none⟩ = some (.slice D3 p.f3.length h3) ∧ w'.cell? ⟨(ad.add (q * 6)).block, (ad.add (q * 6)).off + 4, none⟩ = some (.slice D4 p.f4.length h4) ∧ w'.cell? ⟨(ad.add (q * 6)).block, (ad.add (q * 6)).off + 5, none⟩ = some (.slice D5 p.f5.length h5) ∧ SPO w69 [(Y, #[.int .i64 y.f0, .int .i64 y.f1, .string y.f2, .slice C3 y.f3.length e3, .slice C4 y.f4.length e4, .slice C5 y.f5.length e5], 26)] (.slice AL nL cL) (uqT m.f3 j) w') (ds := []) #[false, false, false, false, false, false, false, false, false, false, false, false, false, false] (by kernel_rfl) rfl rfl ⟨((six_cells (((SPO.drew H7.out).1.1).get 0 rfl)).1), ((six_cells (((SPO.drew H7.out).1.1).get 0 rfl)).2.1), ((six_cells (((SPO.drew H7.out).1.1).get 0 rfl)).2.2.1), ((six_cells (((SPO.drew H7.out).1.1).get 0 rfl)).2.2.2.1), ((six_cells (((SPO.drew H7.out).1.1).get 0 rfl)).2.2.2.2.1), ((six_cells (((SPO.drew H7.out).1.1).get 0 rfl)).2.2.2.2.2.1), ((sev_cells (((H6.out.below (SPO.bel (SPO.drew H7.out)))).get 2 rfl)).2.2.2.1), (pw_cell_below (SPO.bel (SPO.drew H7.out)) HU.out.1), (pw_cell_below (SPO.bel (SPO.drew H7.out)) HU.out.2.1), (pw_cell_below (SPO.bel (SPO.drew H7.out)) HU.out.2.2.1), (pw_cell_below (SPO.bel (SPO.drew H7.out)) HU.out.2.2.2.1), (pw_cell_below (SPO.bel (SPO.drew H7.out)) HU.out.2.2.2.2.1), (pw_cell_below (SPO.bel (SPO.drew H7.out)) HU.out.2.2.2.2.2.1), (SPO.drew H7.out)⟩ (fun hHeld => ?_)
        refine pure_ (i := 0) (N := some 33) (v := ?_) (a' := ?_) #[true, false, false, false, false, false, false, false, false, false, false, false, false, false] rfl rfl (by kernel_rfl) (fun _ _ _ h => h) (Or.inl ⟨by rfl, ?_⟩) ?_ ?_
        rotate_left
        ·intro w'
         go_simp
         with_reducible rfl
        rotate_left
        ·simp only [Act.put, List.setIfInBounds_toArray, List.set_cons_zero, List.set_cons_succ, i64_w, i32_w]
         rfl
        refine pure_ (i := 1) (N := some 34) (v := ?_) (a' := ?_) #[true, true, false, false, false, false, false, false, false, false, false, false, false, false] rfl rfl (by kernel_rfl) (fun _ _ _ h => h) (Or.inl ⟨by rfl, ?_⟩) ?_ ?_
        rotate_left
        ·intro w'
         go_simp
         with_reducible rfl
        rotate_left
        ·simp only [Act.put, List.setIfInBounds_toArray, List.set_cons_zero, List.set_cons_succ, i64_w, i32_w]
         rfl
        refine pure_ (i := 2) (N := some 35) (v := ?_) (a' := ?_) #[true, true, true, false, false, false, false, false, false, false, false, false, false, false] rfl rfl (by kernel_rfl) (fun _ _ _ h => h) (Or.inl ⟨by rfl, ?_⟩) ?_ ?_
        rotate_left
        ·intro w'
         go_simp
         with_reducible rfl
        rotate_left
        ·simp only [Act.put, List.setIfInBounds_toArray, List.set_cons_zero, List.set_cons_succ, i64_w, i32_w]
         rfl
        refine pure_ (i := 3) (N := some 36) (v := ?_) (a' := ?_) #[true, true, true, true, false, false, false, false, false, false, false, false, false, false] rfl rfl (by kernel_rfl) (fun _ _ _ h => h) (Or.inl ⟨by rfl, ?_⟩) ?_ ?_
        rotate_left
        ·intro w'
         go_simp
         with_reducible rfl
        rotate_left
        ·simp only [Act.put, List.setIfInBounds_toArray, List.set_cons_zero, List.set_cons_succ, i64_w, i32_w]
         rfl
        refine pure_ (i := 4) (N := some 37) (v := ?_) (a' := ?_) #[true, true, true, true, true, false, false, false, false, false, false, false, false, false] rfl rfl (by kernel_rfl) (fun _ _ _ h => h) (Or.inl ⟨by rfl, ?_⟩) ?_ ?_
        rotate_left
        ·intro w'
         go_simp
         with_reducible rfl
        rotate_left
        ·simp only [Act.put, List.setIfInBounds_toArray, List.set_cons_zero, List.set_cons_succ, i64_w, i32_w]
         rfl
        refine pure_ (i := 6) (N := some 39) (v := ?_) (a' := ?_) #[true, true, true, true, true, false, true, false, false, false, false, false, false, false] rfl rfl (by kernel_rfl) (fun _ _ _ h => h) (Or.inl ⟨by rfl, ?_⟩) ?_ ?_
        rotate_left
        ·intro w'
         go_simp
         with_reducible rfl
        rotate_left
        ·simp only [Act.put, List.setIfInBounds_toArray, List.set_cons_zero, List.set_cons_succ, i64_w, i32_w]
         rfl
        refine pure_ (i := 7) (N := some 40) (v := ?_) (a' := ?_) #[true, true, true, true, true, false, true, true, false, false, false, false, false, false] rfl rfl (by kernel_rfl) (fun _ _ _ h => h) (Or.inl ⟨by rfl, ?_⟩) ?_ ?_
        rotate_left
        ·intro w'
         go_simp
         with_reducible rfl
        rotate_left
        ·simp only [Act.put, List.setIfInBounds_toArray, List.set_cons_zero, List.set_cons_succ, i64_w, i32_w]
         rfl
        refine take_ (i := 5) (N := some 38) (v := ?_) (a' := ?_) #[true, true, true, true, true, true, true, true, false, false, false, false, false, false] rfl rfl (by kernel_rfl) (fun _ _ _ h => h) (Or.inl ⟨by rfl, ?_⟩) hHeld ?_ ?_
        rotate_left
        ·rintro w' ⟨s0, s1, s2, s3, s4, s5, s6, s7, s8, s9, s10, s11, s12, s13⟩
         go_simp
         with_reducible rfl
        rotate_left
        ·simp only [Act.put, List.setIfInBounds_toArray, List.set_cons_zero, List.set_cons_succ, i64_w, i32_w]
         rfl
        refine pure_ (i := 8) (N := some 41) (v := ?_) (a' := ?_) #[true, true, true, true, true, true, true, true, true, false, false, false, false, false] rfl rfl (by kernel_rfl) (fun _ _ _ h => h) (Or.inl ⟨by rfl, ?_⟩) ?_ ?_
        rotate_left
        ·intro w'
         go_simp
         with_reducible rfl
        rotate_left
        ·simp only [Act.put, List.setIfInBounds_toArray, List.set_cons_zero, List.set_cons_succ, i64_w, i32_w]
         rfl
        refine take_ (i := 9) (N := some 42) (v := ?_) (a' := ?_) #[true, true, true, true, true, true, true, true, true, true, false, false, false, false] rfl rfl (by kernel_rfl) (fun _ _ _ h => h) (Or.inl ⟨by rfl, ?_⟩) hHeld ?_ ?_
        rotate_left
        ·rintro w' ⟨s0, s1, s2, s3, s4, s5, s6, s7, s8, s9, s10, s11, s12, s13⟩
         go_simp
         with_reducible rfl
        rotate_left
        ·simp only [Act.put, List.setIfInBounds_toArray, List.set_cons_zero, List.set_cons_succ, i64_w, i32_w]
         rfl
        refine take_ (i := 10) (N := some 43) (v := ?_) (a' := ?_) #[true, true, true, true, true, true, true, true, true, true, true, false, false, false] rfl rfl (by kernel_rfl) (fun _ _ _ h => h) (Or.inl ⟨by rfl, ?_⟩) hHeld ?_ ?_
        rotate_left
        ·rintro w' ⟨s0, s1, s2, s3, s4, s5, s6, s7, s8, s9, s10, s11, s12, s13⟩
         go_simp
         with_reducible rfl
        rotate_left
        ·simp only [Act.put, List.setIfInBounds_toArray, List.set_cons_zero, List.set_cons_succ, i64_w, i32_w]
         rfl
        refine one_ (i := 11) (N := some 44) #[true, true, true, true, true, true, true, true, true, true, true, true, false, false] rfl rfl (by kernel_rfl) (by decide) (fun K hK => ?_)
        refine goes_ Tryz.func22 (by kernel_rfl) rfl #[.agg #[.int .i64 p.f0, .int .i64 p.f1, .string p.f2, .slice D3 p.f3.length h3, .slice D4 p.f4.length h4, .slice D5 p.f5.length h5], .agg #[.int .i64 y.f0, .int .i64 y.f1, .string y.f2, .slice C3 y.f3.length e3, .slice C4 y.f4.length e4, .slice C5 y.f5.length e5]] (by rfl) rfl rfl (by simp only [List.map_toArray, List.map_cons, List.map_nil]; rfl) ?_
        with_reducible refine ((HSA.out _ (SPO.bel hHeld.2.2.2.2.2.2.2.2.2.2.2.2.2))).mono ?_
        rintro e wz ⟨rfl, hb10⟩
        refine ⟨_, rfl, ?_⟩
        have hz10 := SPO.below hHeld.2.2.2.2.2.2.2.2.2.2.2.2.2 hb10
        refine hK.out _ _ ⟨((six_cells ((hz10.1.1).get 0 rfl)).1), ((six_cells ((hz10.1.1).get 0 rfl)).2.1), ((six_cells ((hz10.1.1).get 0 rfl)).2.2.1), ((six_cells ((hz10.1.1).get 0 rfl)).2.2.2.1), ((six_cells ((hz10.1.1).get 0 rfl)).2.2.2.2.1), ((six_cells ((hz10.1.1).get 0 rfl)).2.2.2.2.2.1), ((sev_cells (((H6.out.below (SPO.bel hz10))).get 2 rfl)).2.2.2.1), (pw_cell_below (SPO.bel hz10) HU.out.1), (pw_cell_below (SPO.bel hz10) HU.out.2.1), (pw_cell_below (SPO.bel hz10) HU.out.2.2.1), (pw_cell_below (SPO.bel hz10) HU.out.2.2.2.1), (pw_cell_below (SPO.bel hz10) HU.out.2.2.2.2.1), (pw_cell_below (SPO.bel hz10) HU.out.2.2.2.2.2.1), hz10⟩ (fun hHeld => ?_)
        clear hK K
        refine norm_ (a' := ?_) ?_ ?_
        rotate_left
        ·show Act.put _ (some 44) _ = _
         simp only [Act.put, List.setIfInBounds_toArray, List.set_cons_zero, List.set_cons_succ, i64_w, i32_w]
         rfl
        refine pure_ (i := 12) (N := some 45) (v := ?_) (a' := ?_) #[true, true, true, true, true, true, true, true, true, true, true, true, true, false] rfl rfl (by kernel_rfl) (fun _ _ _ h => h) (Or.inl ⟨by rfl, ?_⟩) ?_ ?_
        rotate_left
        ·intro w'
         go_simp
         with_reducible rfl
        rotate_left
        ·simp only [Act.put, List.setIfInBounds_toArray, List.set_cons_zero, List.set_cons_succ, i64_w, i32_w]
         rfl
        refine pure_ (i := 13) (N := some 46) (v := ?_) (a' := ?_) #[true, true, true, true, true, true, true, true, true, true, true, true, true, true] rfl rfl (by kernel_rfl) (fun _ _ _ h => h) (Or.inl ⟨by rfl, ?_⟩) ?_ ?_
        rotate_left
        ·intro w'
         go_simp
         with_reducible rfl
        rotate_left
        ·simp only [Act.put, List.setIfInBounds_toArray, List.set_cons_zero, List.set_cons_succ, i64_w, i32_w]
         rfl
        refine done_ (by kernel_rfl) ?_
        have H8 := Lib.hid hz10
        clear hj1 hj2 hqn2 hq0 hwq HU HWP HSA
        cases bz with
        | true =>
          go_wp2_with fail
          go_roundg (gk - 1)
          case measure => exact ms_lt HR.out.2
          case rel =>
            have hw : wrap64 ((j : Int) + 1) = ((j + 1 : Nat) : Int) := w_succ HR.out.2.2 (Nat.le_succ_of_le HNS.out.1)
            try rw [hw]
            refine ⟨j + 1, rfl, ms_eq HR.out.2, ?_⟩
            rw [uqT_succ, if_neg (fun h => h.elim (Nat.pos_iff_ne_zero.1 HJ.out) (fun h => h (beq_iff_eq.1 HZ.out.symm))), List.append_nil]
            exact H8.out.none_
        | false =>
          have HYES := Lib.hid (show j = 0 ∨ cmpV (rd_T26 m.f3 ((j - 1 : Nat) : Int)) (rd_T26 m.f3 (j : Nat)) ≠ 0 from .inr (fun h => by have := HZ.out; rw [h] at this; cases this))
          obtain ⟨v1, wg, hrun, hG⟩ := spo_grow H8.out rfl HY.out.2.2 (Nat.le_trans (Nat.le_of_lt HR.out.2.2) HNS.out.1) HY.out.1 HYES.out
          have HRUN := Lib.hid hrun
          have HG2 := Lib.hid hG
          have yY := six_cells (H8.out.get 0 rfl)
          clear hrun hG
          go_wp2_with ((with_reducible refine gate_builtin (b := .append) (xs := #[.tmp 47, .tmp 49]) rfl ?_); at_builtin; refine wp_append_run rfl (.tmp 47) (.tmp 49) 22 rfl _ _ rfl rfl HRUN.out ?_)
          go_roundg (gk - 1)
          case measure => exact ms_lt HR.out.2
          case rel =>
            have hw : wrap64 ((j : Int) + 1) = ((j + 1 : Nat) : Int) := w_succ HR.out.2.2 (Nat.le_succ_of_le HNS.out.1)
            try rw [hw]
            exact ⟨j + 1, rfl, ms_eq HR.out.2, HG2.out⟩
      · have j00 : j = 0 := by omega
        have hj1 : ((j : Int) == 0) = true := by rw [j00]; rfl
        have hj2 : (j == 0) = true := by rw [j00]; rfl
        have HYES := Lib.hid (show j = 0 ∨ cmpV (rd_T26 m.f3 ((j - 1 : Nat) : Int)) (rd_T26 m.f3 (j : Nat)) ≠ 0 from .inl j00)
        clear hlt j0 j00
        go_wp2_with fail
        refine start_ (n := 14) (S := fun w' => w'.cell? ⟨Y, 0, none⟩ = some (.int .i64 y.f0) ∧ w'.cell? ⟨Y, 1, none⟩ = some (.int .i64 y.f1) ∧ w'.cell? ⟨Y, 2, none⟩ = some (.string y.f2) ∧ w'.cell? ⟨Y, 3, none⟩ = some (.slice C3 y.f3.length e3) ∧ w'.cell? ⟨Y, 4, none⟩ = some (.slice C4 y.f4.length e4) ∧ w'.cell? ⟨Y, 5, none⟩ = some (.slice C5 y.f5.length e5) ∧ SPO w69 [(Y, #[.int .i64 y.f0, .int .i64 y.f1, .string y.f2, .slice C3 y.f3.length e3, .slice C4 y.f4.length e4, .slice C5 y.f5.length e5], 26)] (.slice AL nL cL) (uqT m.f3 j) w') (ds := []) #[false, false, false, false, false, false, false, false, false, false, false, false, false, false] (by kernel_rfl) rfl rfl ⟨((six_cells (((SPO.drew H7.out).1.1).get 0 rfl)).1), ((six_cells (((SPO.drew H7.out).1.1).get 0 rfl)).2.1), ((six_cells (((SPO.drew H7.out).1.1).get 0 rfl)).2.2.1), ((six_cells (((SPO.drew H7.out).1.1).get 0 rfl)).2.2.2.1), ((six_cells (((SPO.drew H7.out).1.1).get 0 rfl)).2.2.2.2.1), ((six_cells (((SPO.drew H7.out).1.1).get 0 rfl)).2.2.2.2.2.1), (SPO.drew H7.out)⟩ (fun hHeld => ?_)
        refine pure_ (i := 0) (N := some 33) (v := ?_) (a' := ?_) #[true, false, false, false, false, false, false, false, false, false, false, false, false, false] rfl rfl (by kernel_rfl) (fun _ _ _ h => h) (Or.inl ⟨by rfl, ?_⟩) ?_ ?_
        rotate_left
        ·intro w'
         go_simp
         with_reducible rfl
        rotate_left
        ·simp only [Act.put, List.setIfInBounds_toArray, List.set_cons_zero, List.set_cons_succ, i64_w, i32_w]
         rfl
        refine pure_ (i := 1) (N := some 34) (v := ?_) (a' := ?_) #[true, true, false, false, false, false, false, false, false, false, false, false, false, false] rfl rfl (by kernel_rfl) (fun _ _ _ h => h) (Or.inl ⟨by rfl, ?_⟩) ?_ ?_
        rotate_left
        ·intro w'
         go_simp
         with_reducible rfl
        rotate_left
        ·simp only [Act.put, List.setIfInBounds_toArray, List.set_cons_zero, List.set_cons_succ, i64_w, i32_w]
         rfl
        refine pure_ (i := 2) (N := some 35) (v := ?_) (a' := ?_) #[true, true, true, false, false, false, false, false, false, false, false, false, false, false] rfl rfl (by kernel_rfl) (fun _ _ _ h => h) (Or.inl ⟨by rfl, ?_⟩) ?_ ?_
        rotate_left
        ·intro w'
         go_simp
         with_reducible rfl
        rotate_left
        ·simp only [Act.put, List.setIfInBounds_toArray, List.set_cons_zero, List.set_cons_succ, i64_w, i32_w]
         rfl
        refine pure_ (i := 3) (N := some 36) (v := undef) (a' := ?_) #[true, true, true, true, false, false, false, false, false, false, false, false, false, false] rfl rfl (by kernel_rfl) (fun _ _ _ h => h) (Or.inr ⟨by rfl, rfl⟩) ?_ ?_
        rotate_left
        ·simp only [Act.put, List.setIfInBounds_toArray, List.set_cons_zero, List.set_cons_succ, i64_w, i32_w]
         rfl
        refine pure_ (i := 4) (N := some 37) (v := undef) (a' := ?_) #[true, true, true, true, true, false, false, false, false, false, false, false, false, false] rfl rfl (by kernel_rfl) (fun _ _ _ h => h) (Or.inr ⟨by rfl, rfl⟩) ?_ ?_
        rotate_left
        ·simp only [Act.put, List.setIfInBounds_toArray, List.set_cons_zero, List.set_cons_succ, i64_w, i32_w]
         rfl
        refine pure_ (i := 5) (N := some 38) (v := undef) (a' := ?_) #[true, true, true, true, true, true, false, false, false, false, false, false, false, false] rfl rfl (by kernel_rfl) (fun _ _ _ h => h) (Or.inr ⟨by rfl, rfl⟩) ?_ ?_
        rotate_left
        ·simp only [Act.put, List.setIfInBounds_toArray, List.set_cons_zero, List.set_cons_succ, i64_w, i32_w]
         rfl
        refine pure_ (i := 6) (N := some 39) (v := undef) (a' := ?_) #[true, true, true, true, true, true, true, false, false, false, false, false, false, false] rfl rfl (by kernel_rfl) (fun _ _ _ h => h) (Or.inr ⟨by rfl, rfl⟩) ?_ ?_
        rotate_left
        ·simp only [Act.put, List.setIfInBounds_toArray, List.set_cons_zero, List.set_cons_succ, i64_w, i32_w]
         rfl
        refine pure_ (i := 7) (N := some 40) (v := undef) (a' := ?_) #[true, true, true, true, true, true, true, true, false, false, false, false, false, false] rfl rfl (by kernel_rfl) (fun _ _ _ h => h) (Or.inr ⟨by rfl, rfl⟩) ?_ ?_
        rotate_left
        ·simp only [Act.put, List.setIfInBounds_toArray, List.set_cons_zero, List.set_cons_succ, i64_w, i32_w]
         rfl
        refine pure_ (i := 8) (N := some 41) (v := undef) (a' := ?_) #[true, true, true, true, true, true, true, true, true, false, false, false, false, false] rfl rfl (by kernel_rfl) (fun _ _ _ h => h) (Or.inr ⟨by rfl, rfl⟩) ?_ ?_
        rotate_left
        ·simp only [Act.put, List.setIfInBounds_toArray, List.set_cons_zero, List.set_cons_succ, i64_w, i32_w]
         rfl
        refine pure_ (i := 9) (N := some 42) (v := undef) (a' := ?_) #[true, true, true, true, true, true, true, true, true, true, false, false, false, false] rfl rfl (by kernel_rfl) (fun _ _ _ h => h) (Or.inr ⟨by rfl, rfl⟩) ?_ ?_
        rotate_left
        ·simp only [Act.put, List.setIfInBounds_toArray, List.set_cons_zero, List.set_cons_succ, i64_w, i32_w]
         rfl
        refine pure_ (i := 10) (N := some 43) (v := undef) (a' := ?_) #[true, true, true, true, true, true, true, true, true, true, true, false, false, false] rfl rfl (by kernel_rfl) (fun _ _ _ h => h) (Or.inr ⟨by rfl, rfl⟩) ?_ ?_
        rotate_left
        ·simp only [Act.put, List.setIfInBounds_toArray, List.set_cons_zero, List.set_cons_succ, i64_w, i32_w]
         rfl
        refine pure_ (i := 11) (N := some 44) (v := undef) (a' := ?_) #[true, true, true, true, true, true, true, true, true, true, true, true, false, false] rfl rfl (by kernel_rfl) (fun _ _ _ h => h) (Or.inr ⟨by rfl, rfl⟩) ?_ ?_
        rotate_left
        ·simp only [Act.put, List.setIfInBounds_toArray, List.set_cons_zero, List.set_cons_succ, i64_w, i32_w]
         rfl
        refine pure_ (i := 12) (N := some 45) (v := undef) (a' := ?_) #[true, true, true, true, true, true, true, true, true, true, true, true, true, false] rfl rfl (by kernel_rfl) (fun _ _ _ h => h) (Or.inr ⟨by rfl, rfl⟩) ?_ ?_
        rotate_left
        ·simp only [Act.put, List.setIfInBounds_toArray, List.set_cons_zero, List.set_cons_succ, i64_w, i32_w]
         rfl
        refine pure_ (i := 13) (N := some 46) (v := ?_) (a' := ?_) #[true, true, true, true, true, true, true, true, true, true, true, true, true, true] rfl rfl (by kernel_rfl) (fun _ _ _ h => h) (Or.inl ⟨by rfl, ?_⟩) ?_ ?_
        rotate_left
        ·intro w'
         go_simp
         with_reducible rfl
        rotate_left
        ·simp only [Act.put, List.setIfInBounds_toArray, List.set_cons_zero, List.set_cons_succ, i64_w, i32_w]
         rfl
        refine done_ (by kernel_rfl) ?_
        have H8 := Lib.hid hHeld.2.2.2.2.2.2
        clear hj1 hj2
        obtain ⟨v1, wg, hrun, hG⟩ := spo_grow H8.out rfl HY.out.2.2 (Nat.le_trans (Nat.le_of_lt HR.out.2.2) HNS.out.1) HY.out.1 HYES.out
        have HRUN := Lib.hid hrun
        have HG2 := Lib.hid hG
        have yY := six_cells (H8.out.get 0 rfl)
        clear hrun hG
        go_wp2_with ((with_reducible refine gate_builtin (b := .append) (xs := #[.tmp 47, .tmp 49]) rfl ?_); at_builtin; refine wp_append_run rfl (.tmp 47) (.tmp 49) 22 rfl _ _ rfl rfl HRUN.out ?_)
        go_roundg (gk - 1)
        case measure => exact ms_lt HR.out.2
        case rel =>
          have hw : wrap64 ((j : Int) + 1) = ((j + 1 : Nat) : Int) := w_succ HR.out.2.2 (Nat.le_succ_of_le HNS.out.1)
          try rw [hw]
          exact ⟨j + 1, rfl, ms_eq HR.out.2, HG2.out⟩
    · have q2 : ¬ (j : Int) < (m.f3.length : Int) := by omega
      have q4 : decide ((j : Int) < (m.f3.length : Int)) = false := decide_eq_false q2
      have q5 : decide (j < m.f3.length) = false := decide_eq_false hlt
      have hj : j = m.f3.length := by omega
      rw [hj] at hO
      obtain ⟨AL, cL, rfl, hle, hCL⟩ := SPO.row (xs := u.f3) (by rw [HUE.out]; exact hO)
      have HL := Lib.hid (And.intro hle hCL)
      have HB := Lib.hid hO.bel
      have HP := Lib.hid (H6.out.below hO.bel)
      have HCLA : Hid (∀ w1, Below wr.heap.size wr w1 → ReadsRow (k26.K wr) 6 w1 A3a a.f3.length a.f3) := Lib.hid (fun w1 hb => ReadsRow.imp_ (Kd.C_below HG.out HP.out.bel) hb (fun _ _ h => h))
      have HAR := Lib.hid (fun A n c w => spec_arrayU A n c w)
      have HLN := Lib.hid (show a.f3.length ≤ 400000 from HN.out)
      have HNW := Lib.hid (sp_nil wr)
      clear hkj hlt q2 hO hj hle hCL
      have HKL : Hid (k26.K wr (lV u.f3) [.int .i64 5, .int .i64 0, .string ⟨#[]⟩, .slice AL u.f3.length cL, .slice none 0 0, .slice none 0 0]) := Lib.hid (k26_mk wr (lV u.f3) HL.out.1 HL.out.2 (Nat.le_refl _) (Kd.C_nil _ _) (Nat.le_refl _) (Kd.C_nil _ _))
      have HKU := Lib.hid (HP.out.held 0 rfl)
      have HU2 := Lib.hid (fun w1 hb => impl_Unique wr u u _ _ _ _ _ _ _ _ _ _ _ _ (toGo_any wr _ u (Nat.lt_succ_self _) HWU.out.2.1 HWU.out.1 _ HKU.out) (fun g n w hg => by rw [← HUU.out]; exact zz_Unique HWU.out.2.2.1 HWU.out.1 HWU.out.2.1 hg) w1 hb)
      have HWT : Hid (WL (lV (a.f3 ++ a.f3)) ∧ Sz (lV (a.f3 ++ a.f3))) := Lib.hid (by
        have hm : ∀ y ∈ a.f3 ++ a.f3, WL y ∧ Sz y := fun y hy => by rcases List.mem_append.1 hy with h | h <;> exact HEL.out y h
        exact ⟨wl_lV (by rw [List.length_append]; have := HN.out; omega) (fun y hy => (hm y hy).1), sz_lV (fun y hy => (hm y hy).2)⟩)
      have HUL : Hid ((cmpV u (lV u.f3) == 0) = true ∧ (cmpV u u == 0) = true) := Lib.hid ⟨by have e := HWU.out.2.2.2; rw [← e, cmpV_self]; rfl, by rw [cmpV_self]; rfl⟩
      have HWL : Hid (WL (lV u.f3)) := Lib.hid (by rw [← HWU.out.2.2.2]; exact HWU.out.1)
      go_wp2_with fail
      have HSp : ∀ w', SPN wr [] w' → w'.cell? ⟨A, 0, none⟩ = some (.int .i64 a.f0) ∧ w'.cell? ⟨A, 1, none⟩ = some (.int .i64 a.f1) ∧ w'.cell? ⟨A, 2, none⟩ = some (.string a.f2) ∧ w'.cell? ⟨A, 3, none⟩ = some (.slice A3a a.f3.length a3a) ∧ w'.cell? ⟨A, 4, none⟩ = some (.slice A4a a.f4.length a4a) ∧ w'.cell? ⟨A, 5, none⟩ = some (.slice A5a a.f5.length a5a) ∧ SPN wr [] w' := fun w' h => ⟨((six_cells ((HP.out.below (SPN.bel h)).get 0 rfl)).1), ((six_cells ((HP.out.below (SPN.bel h)).get 0 rfl)).2.1), ((six_cells ((HP.out.below (SPN.bel h)).get 0 rfl)).2.2.1), ((six_cells ((HP.out.below (SPN.bel h)).get 0 rfl)).2.2.2.1), ((six_cells ((HP.out.below (SPN.bel h)).get 0 rfl)).2.2.2.2.1), ((six_cells ((HP.out.below (SPN.bel h)).get 0 rfl)).2.2.2.2.2.1), h⟩
      refine start_ (n := 10) (S := fun w' => w'.cell? ⟨A, 0, none⟩ = some (.int .i64 a.f0) ∧ w'.cell? ⟨A, 1, none⟩ = some (.int .i64 a.f1) ∧ w'.cell? ⟨A, 2, none⟩ = some (.string a.f2) ∧ w'.cell? ⟨A, 3, none⟩ = some (.slice A3a a.f3.length a3a) ∧ w'.cell? ⟨A, 4, none⟩ = some (.slice A4a a.f4.length a4a) ∧ w'.cell? ⟨A, 5, none⟩ = some (.slice A5a a.f5.length a5a) ∧ SPN wr [] w') (ds := []) #[false, false, false, false, false, false, false, false, false, false] (by kernel_rfl) rfl rfl (HSp _ (SPN.drew HNW.out)) (fun hHeld => ?_)
      refine pure_ (i := 1) (N := some 53) (v := ?_) (a' := ?_) #[false, true, false, false, false, false, false, false, false, false] rfl rfl (by kernel_rfl) (fun _ _ _ h => h) (Or.inl ⟨by rfl, ?_⟩) ?_ ?_
      rotate_left
      ·intro w'
       go_simp
       with_reducible rfl
      rotate_left
      ·simp only [Act.put, List.setIfInBounds_toArray, List.set_cons_zero, List.set_cons_succ, i64_w, i32_w]
       rfl
      refine pure_ (i := 4) (N := some 56) (v := ?_) (a' := ?_) #[false, true, false, false, true, false, false, false, false, false] rfl rfl (by kernel_rfl) (fun _ _ _ h => h) (Or.inl ⟨by rfl, ?_⟩) ?_ ?_
      rotate_left
      ·intro w'
       go_simp
       with_reducible rfl
      rotate_left
      ·simp only [Act.put, List.setIfInBounds_toArray, List.set_cons_zero, List.set_cons_succ, i64_w, i32_w]
       rfl
      refine take_ (i := 2) (N := some 54) (v := ?_) (a' := ?_) #[false, true, true, false, true, false, false, false, false, false] rfl rfl (by kernel_rfl) (fun _ _ _ h => h) (Or.inl ⟨by rfl, ?_⟩) hHeld ?_ ?_
      rotate_left
      ·rintro w' ⟨s0, s1, s2, s3, s4, s5, s6⟩
       go_simp
       with_reducible rfl
      rotate_left
      ·simp only [Act.put, List.setIfInBounds_toArray, List.set_cons_zero, List.set_cons_succ, i64_w, i32_w]
       rfl
      refine take_ (i := 5) (N := some 57) (v := ?_) (a' := ?_) #[false, true, true, false, true, true, false, false, false, false] rfl rfl (by kernel_rfl) (fun _ _ _ h => h) (Or.inl ⟨by rfl, ?_⟩) hHeld ?_ ?_
      rotate_left
      ·rintro w' ⟨s0, s1, s2, s3, s4, s5, s6⟩
       go_simp
       with_reducible rfl
      rotate_left
      ·simp only [Act.put, List.setIfInBounds_toArray, List.set_cons_zero, List.set_cons_succ, i64_w, i32_w]
       rfl
      refine join_ (σ := Nat × Option Addr × Nat × Option Addr × Nat × Nat × Unit) 1 #[true, true, true, true, true, true, true, true, true, false] (fun s => [(52, .slice (some ⟨s.1, 0, none⟩) 0 0), (55, .slice s.2.1 a.f3.length s.2.2.1), (58, .slice s.2.2.2.1 (a.f3.length + a.f3.length) s.2.2.2.2.1), (59, .agg #[.int .i64 5, .int .i64 0, .string ⟨#[]⟩, .slice s.2.2.2.1 (a.f3.length + a.f3.length) s.2.2.2.2.1, .slice none 0 0, .slice none 0 0]), (8, .pointer (some ⟨s.2.2.2.2.2.1, 0, none⟩))]) (fun s w' => SPO wr [(s.2.2.2.2.2.1, #[.int .i64 0, .int .i64 0, .string ⟨#[]⟩, .slice none 0 0, .slice none 0 0, .slice none 0 0], 26)] (.slice s.2.2.2.1 (a.f3.length + a.f3.length) s.2.2.2.2.1) (a.f3 ++ a.f3) w') ?_ ?_
      rotate_left
      ·intro hJ0_3_6_7_8
       refine join_ (σ := Nat × Option Addr × Nat × Option Addr × Nat × Unit) 2 #[true, true, true, true, true, true, true, true, false, false] (fun s => [(52, .slice (some ⟨s.1, 0, none⟩) 0 0), (55, .slice s.2.1 a.f3.length s.2.2.1), (58, .slice s.2.2.2.1 (a.f3.length + a.f3.length) s.2.2.2.2.1), (59, .agg #[.int .i64 5, .int .i64 0, .string ⟨#[]⟩, .slice s.2.2.2.1 (a.f3.length + a.f3.length) s.2.2.2.2.1, .slice none 0 0, .slice none 0 0])]) (fun s w' => SPO wr [] (.slice s.2.2.2.1 (a.f3.length + a.f3.length) s.2.2.2.2.1) (a.f3 ++ a.f3) w') ?_ ?_
       rotate_left
       ·intro hJ0_3_6_7
        refine join_ (σ := Nat × Option Addr × Nat × Option Addr × Nat × Nat × Unit) 2 #[true, true, true, true, true, true, true, false, true, false] (fun s => [(52, .slice (some ⟨s.1, 0, none⟩) 0 0), (55, .slice s.2.1 a.f3.length s.2.2.1), (58, .slice s.2.2.2.1 (a.f3.length + a.f3.length) s.2.2.2.2.1), (8, .pointer (some ⟨s.2.2.2.2.2.1, 0, none⟩))]) (fun s w' => SPO wr [(s.2.2.2.2.2.1, #[.int .i64 0, .int .i64 0, .string ⟨#[]⟩, .slice none 0 0, .slice none 0 0, .slice none 0 0], 26)] (.slice s.2.2.2.1 (a.f3.length + a.f3.length) s.2.2.2.2.1) (a.f3 ++ a.f3) w') ?_ ?_
        rotate_left
        ·intro hJ0_3_6_8
         refine join_ (σ := Nat × Option Addr × Nat × Option Addr × Nat × Unit) 3 #[true, true, true, true, true, true, true, false, false, false] (fun s => [(52, .slice (some ⟨s.1, 0, none⟩) 0 0), (55, .slice s.2.1 a.f3.length s.2.2.1), (58, .slice s.2.2.2.1 (a.f3.length + a.f3.length) s.2.2.2.2.1)]) (fun s w' => SPO wr [] (.slice s.2.2.2.1 (a.f3.length + a.f3.length) s.2.2.2.2.1) (a.f3 ++ a.f3) w') ?_ ?_
         rotate_left
         ·intro hJ0_3_6
          refine join_ (σ := Nat × Option Addr × Nat × Nat × Unit) 3 #[true, true, true, true, true, true, false, false, true, false] (fun s => [(52, .slice (some ⟨s.1, 0, none⟩) 0 0), (55, .slice s.2.1 a.f3.length s.2.2.1), (8, .pointer (some ⟨s.2.2.2.1, 0, none⟩))]) (fun s w' => SPO wr [(s.2.2.2.1, #[.int .i64 0, .int .i64 0, .string ⟨#[]⟩, .slice none 0 0, .slice none 0 0, .slice none 0 0], 26)] (.slice s.2.1 a.f3.length s.2.2.1) a.f3 w') ?_ ?_
          rotate_left
          ·intro hJ0_3_8
           refine join_ (σ := Nat × Option Addr × Nat × Unit) 4 #[true, true, true, true, true, true, false, false, false, false] (fun s => [(52, .slice (some ⟨s.1, 0, none⟩) 0 0), (55, .slice s.2.1 a.f3.length s.2.2.1)]) (fun s w' => SPO wr [] (.slice s.2.1 a.f3.length s.2.2.1) a.f3 w') ?_ ?_
           rotate_left
           ·intro hJ0_3
            refine join_ (σ := Nat × Nat × Unit) 4 #[true, true, true, false, true, true, false, false, true, false] (fun s => [(52, .slice (some ⟨s.1, 0, none⟩) 0 0), (8, .pointer (some ⟨s.2.1, 0, none⟩))]) (fun s w' => SPO wr [(s.2.1, #[.int .i64 0, .int .i64 0, .string ⟨#[]⟩, .slice none 0 0, .slice none 0 0, .slice none 0 0], 26)] (.slice (some ⟨s.1, 0, none⟩) 0 0) [] w') ?_ ?_
            rotate_left
            ·intro hJ0_8
             refine join_ (σ := Nat × Unit) 5 #[true, true, true, false, true, true, false, false, false, false] (fun s => [(52, .slice (some ⟨s.1, 0, none⟩) 0 0)]) (fun s w' => SPO wr [] (.slice (some ⟨s.1, 0, none⟩) 0 0) [] w') ?_ ?_
             rotate_left
             ·intro hJ0
              refine join_ (σ := Nat × Unit) 5 #[false, true, true, false, true, true, false, false, true, false] (fun s => [(8, .pointer (some ⟨s.1, 0, none⟩))]) (fun s w' => SPO wr [(s.1, #[.int .i64 0, .int .i64 0, .string ⟨#[]⟩, .slice none 0 0, .slice none 0 0, .slice none 0 0], 26)] (.slice none 0 0) [] w') ?_ ?_
              rotate_left
              ·intro hJ8
               refine two_ (i := 0) (j := 8) (Ni := some 52) (Nj := some 8) #[true, true, true, false, true, true, false, false, false, false] #[false, true, true, false, true, true, false, false, true, false] rfl rfl rfl rfl (by kernel_rfl) (by decide) (by decide) (fun K hK => ?_) (fun K hK => ?_)
               ·skip
                refine slice0O_ (L := []) (SPO.spn (SPO.start hHeld.2.2.2.2.2.2)) (by rfl) rfl ?_ ?_
                ·first | (go_simp; done) | (go_simp; rfl)
                intro gp wz hz
                have hzb := SPO.tk 0 hz
                refine hK.out _ _ (HSp _ hzb) (fun hHeld => ?_)
                clear hK K
                refine norm_ (a' := ?_) ?_ ?_
                rotate_left
                ·show Act.put _ (some 52) _ = _
                 simp only [Act.put, List.setIfInBounds_toArray, List.set_cons_zero, List.set_cons_succ, i64_w, i32_w]
                 rfl
                exact norm_ (by simp only [putAll, Act.put, List.setIfInBounds_toArray, List.set_cons_zero, List.set_cons_succ, World.size_alloc] <;> rfl) (hJ0 (gp, ()) _ hz)
               ·skip
                refine freshO_ (c := #[.int .i64 0, .int .i64 0, .string ⟨#[]⟩, .slice none 0 0, .slice none 0 0, .slice none 0 0]) (t := 26) (SPO.start hHeld.2.2.2.2.2.2) (by rfl) rfl ?_ ?_
                ·first | (go_simp; done) | (go_simp; rfl)
                intro Rp8 wz hz
                have hzb := SPO.tk 0 hz
                refine hK.out _ _ (HSp _ hzb) (fun hHeld => ?_)
                clear hK K
                refine norm_ (a' := ?_) ?_ ?_
                rotate_left
                ·show Act.put _ (some 8) _ = _
                 simp only [Act.put, List.setIfInBounds_toArray, List.set_cons_zero, List.set_cons_succ, i64_w, i32_w]
                 rfl
                exact norm_ (by simp only [putAll, Act.put, List.setIfInBounds_toArray, List.set_cons_zero, List.set_cons_succ, World.size_alloc] <;> rfl) (hJ8 (Rp8, ()) _ hz)
              ·skip
               rintro ⟨Rp8, _⟩ w' hF
               change SPO wr [(Rp8, #[.int .i64 0, .int .i64 0, .string ⟨#[]⟩, .slice none 0 0, .slice none 0 0, .slice none 0 0], 26)] (.slice none 0 0) [] w' at hF
               have hHeld := HSp _ (SPO.tk 0 hF)
               refine norm_ (a' := ?_) ?_ ?_
               rotate_left
               ·simp only [putAll, Act.put, List.setIfInBounds_toArray, List.set_cons_zero, List.set_cons_succ]
                rfl
               refine one_ (i := 0) (N := some 52) #[true, true, true, false, true, true, false, false, true, false] rfl rfl (by kernel_rfl) (by decide) (fun K hK => ?_)
               refine slice0O_ (L := [(Rp8, #[.int .i64 0, .int .i64 0, .string ⟨#[]⟩, .slice none 0 0, .slice none 0 0, .slice none 0 0], 26)]) (SPO.spn hF) (by rfl) rfl ?_ ?_
               ·first | (go_simp; done) | (go_simp; rfl)
               intro gp wz hz
               have hzb := SPO.tk 0 hz
               refine hK.out _ _ (HSp _ hzb) (fun hHeld => ?_)
               clear hK K
               refine norm_ (a' := ?_) ?_ ?_
               rotate_left
               ·show Act.put _ (some 52) _ = _
                simp only [Act.put, List.setIfInBounds_toArray, List.set_cons_zero, List.set_cons_succ, i64_w, i32_w]
                rfl
               exact norm_ (by simp only [putAll, Act.put, List.setIfInBounds_toArray, List.set_cons_zero, List.set_cons_succ, World.size_alloc] <;> rfl) (hJ0_8 (gp, Rp8, ()) _ hz)
             ·skip
              rintro ⟨gp, _⟩ w' hF
              change SPO wr [] (.slice (some ⟨gp, 0, none⟩) 0 0) [] w' at hF
              have hHeld := HSp _ (SPO.tk 0 hF)
              refine norm_ (a' := ?_) ?_ ?_
              rotate_left
              ·simp only [putAll, Act.put, List.setIfInBounds_toArray, List.set_cons_zero, List.set_cons_succ]
               rfl
              refine two_ (i := 3) (j := 8) (Ni := some 55) (Nj := some 8) #[true, true, true, true, true, true, false, false, false, false] #[true, true, true, false, true, true, false, false, true, false] rfl rfl rfl rfl (by kernel_rfl) (by decide) (by decide) (fun K hK => ?_) (fun K hK => ?_)
              ·skip
               obtain ⟨v1, wz, hr, hz0⟩ := SPO.app hF (HCLA.out _ (SPO.bel hF)) (by have := HLN.out; simp; omega)
               have hz1 : SPO wr [] v1 a.f3 wz := hz0
               obtain ⟨A1p, c1p, rfl, -, -⟩ := SPO.row hz1
               refine append_step_ (by rfl) rfl rfl rfl (by rfl) (by rfl) hr ?_
               have hz := hz1
               have hzb := SPO.tk 0 hz
               refine hK.out _ _ (HSp _ hzb) (fun hHeld => ?_)
               clear hK K
               refine norm_ (a' := ?_) ?_ ?_
               rotate_left
               ·show Act.put _ (some 55) _ = _
                simp only [Act.put, List.setIfInBounds_toArray, List.set_cons_zero, List.set_cons_succ, i64_w, i32_w]
                rfl
               exact norm_ (by simp only [putAll, Act.put, List.setIfInBounds_toArray, List.set_cons_zero, List.set_cons_succ, World.size_alloc] <;> rfl) (hJ0_3 (gp, A1p, c1p, ()) _ hz)
              ·skip
               refine freshO_ (c := #[.int .i64 0, .int .i64 0, .string ⟨#[]⟩, .slice none 0 0, .slice none 0 0, .slice none 0 0]) (t := 26) hF (by rfl) rfl ?_ ?_
               ·first | (go_simp; done) | (go_simp; rfl)
               intro Rp8 wz hz
               have hzb := SPO.tk 0 hz
               refine hK.out _ _ (HSp _ hzb) (fun hHeld => ?_)
               clear hK K
               refine norm_ (a' := ?_) ?_ ?_
               rotate_left
               ·show Act.put _ (some 8) _ = _
                simp only [Act.put, List.setIfInBounds_toArray, List.set_cons_zero, List.set_cons_succ, i64_w, i32_w]
                rfl
               exact norm_ (by simp only [putAll, Act.put, List.setIfInBounds_toArray, List.set_cons_zero, List.set_cons_succ, World.size_alloc] <;> rfl) (hJ0_8 (gp, Rp8, ()) _ hz)
            ·skip
             rintro ⟨gp, Rp8, _⟩ w' hF
             change SPO wr [(Rp8, #[.int .i64 0, .int .i64 0, .string ⟨#[]⟩, .slice none 0 0, .slice none 0 0, .slice none 0 0], 26)] (.slice (some ⟨gp, 0, none⟩) 0 0) [] w' at hF
             have hHeld := HSp _ (SPO.tk 0 hF)
             refine norm_ (a' := ?_) ?_ ?_
             rotate_left
             ·simp only [putAll, Act.put, List.setIfInBounds_toArray, List.set_cons_zero, List.set_cons_succ]
              rfl
             refine one_ (i := 3) (N := some 55) #[true, true, true, true, true, true, false, false, true, false] rfl rfl (by kernel_rfl) (by decide) (fun K hK => ?_)
             obtain ⟨v1, wz, hr, hz0⟩ := SPO.app hF (HCLA.out _ (SPO.bel hF)) (by have := HLN.out; simp; omega)
             have hz1 : SPO wr [(Rp8, #[.int .i64 0, .int .i64 0, .string ⟨#[]⟩, .slice none 0 0, .slice none 0 0, .slice none 0 0], 26)] v1 a.f3 wz := hz0
             obtain ⟨A1p, c1p, rfl, -, -⟩ := SPO.row hz1
             refine append_step_ (by rfl) rfl rfl rfl (by rfl) (by rfl) hr ?_
             have hz := hz1
             have hzb := SPO.tk 0 hz
             refine hK.out _ _ (HSp _ hzb) (fun hHeld => ?_)
             clear hK K
             refine norm_ (a' := ?_) ?_ ?_
             rotate_left
             ·show Act.put _ (some 55) _ = _
              simp only [Act.put, List.setIfInBounds_toArray, List.set_cons_zero, List.set_cons_succ, i64_w, i32_w]
              rfl
             exact norm_ (by simp only [putAll, Act.put, List.setIfInBounds_toArray, List.set_cons_zero, List.set_cons_succ, World.size_alloc] <;> rfl) (hJ0_3_8 (gp, A1p, c1p, Rp8, ()) _ hz)
           ·skip
            rintro ⟨gp, A1p, c1p, _⟩ w' hF
            change SPO wr [] (.slice A1p a.f3.length c1p) a.f3 w' at hF
            have hHeld := HSp _ (SPO.tk 0 hF)
            refine norm_ (a' := ?_) ?_ ?_
            rotate_left
            ·simp only [putAll, Act.put, List.setIfInBounds_toArray, List.set_cons_zero, List.set_cons_succ]
             rfl
            refine two_ (i := 6) (j := 8) (Ni := some 58) (Nj := some 8) #[true, true, true, true, true, true, true, false, false, false] #[true, true, true, true, true, true, false, false, true, false] rfl rfl rfl rfl (by kernel_rfl) (by decide) (by decide) (fun K hK => ?_) (fun K hK => ?_)
            ·skip
             obtain ⟨v1, wz, hr, hz0⟩ := SPO.app hF (HCLA.out _ (SPO.bel hF)) (by have := HLN.out; simp; omega)
             have hz1 : SPO wr [] v1 (a.f3 ++ a.f3) wz := hz0
             obtain ⟨A2p, c2p, rfl, -, -⟩ := SPO.row2 hz1
             refine append_step_ (by rfl) rfl rfl rfl (by rfl) (by rfl) hr ?_
             have hz := hz1
             have hzb := SPO.tk 0 hz
             refine hK.out _ _ (HSp _ hzb) (fun hHeld => ?_)
             clear hK K
             refine norm_ (a' := ?_) ?_ ?_
             rotate_left
             ·show Act.put _ (some 58) _ = _
              simp only [Act.put, List.setIfInBounds_toArray, List.set_cons_zero, List.set_cons_succ, i64_w, i32_w]
              rfl
             exact norm_ (by simp only [putAll, Act.put, List.setIfInBounds_toArray, List.set_cons_zero, List.set_cons_succ, World.size_alloc] <;> rfl) (hJ0_3_6 (gp, A1p, c1p, A2p, c2p, ()) _ hz)
            ·skip
             refine freshO_ (c := #[.int .i64 0, .int .i64 0, .string ⟨#[]⟩, .slice none 0 0, .slice none 0 0, .slice none 0 0]) (t := 26) hF (by rfl) rfl ?_ ?_
             ·first | (go_simp; done) | (go_simp; rfl)
             intro Rp8 wz hz
             have hzb := SPO.tk 0 hz
             refine hK.out _ _ (HSp _ hzb) (fun hHeld => ?_)
             clear hK K
             refine norm_ (a' := ?_) ?_ ?_
             rotate_left
             ·show Act.put _ (some 8) _ = _
              simp only [Act.put, List.setIfInBounds_toArray, List.set_cons_zero, List.set_cons_succ, i64_w, i32_w]
              rfl
             exact norm_ (by simp only [putAll, Act.put, List.setIfInBounds_toArray, List.set_cons_zero, List.set_cons_succ, World.size_alloc] <;> rfl) (hJ0_3_8 (gp, A1p, c1p, Rp8, ()) _ hz)
          ·skip
           rintro ⟨gp, A1p, c1p, Rp8, _⟩ w' hF
           change SPO wr [(Rp8, #[.int .i64 0, .int .i64 0, .string ⟨#[]⟩, .slice none 0 0, .slice none 0 0, .slice none 0 0], 26)] (.slice A1p a.f3.length c1p) a.f3 w' at hF
           have hHeld := HSp _ (SPO.tk 0 hF)
           refine norm_ (a' := ?_) ?_ ?_
           rotate_left
           ·simp only [putAll, Act.put, List.setIfInBounds_toArray, List.set_cons_zero, List.set_cons_succ]
            rfl
           refine one_ (i := 6) (N := some 58) #[true, true, true, true, true, true, true, false, true, false] rfl rfl (by kernel_rfl) (by decide) (fun K hK => ?_)
           obtain ⟨v1, wz, hr, hz0⟩ := SPO.app hF (HCLA.out _ (SPO.bel hF)) (by have := HLN.out; simp; omega)
           have hz1 : SPO wr [(Rp8, #[.int .i64 0, .int .i64 0, .string ⟨#[]⟩, .slice none 0 0, .slice none 0 0, .slice none 0 0], 26)] v1 (a.f3 ++ a.f3) wz := hz0
           obtain ⟨A2p, c2p, rfl, -, -⟩ := SPO.row2 hz1
           refine append_step_ (by rfl) rfl rfl rfl (by rfl) (by rfl) hr ?_
           have hz := hz1
           have hzb := SPO.tk 0 hz
           refine hK.out _ _ (HSp _ hzb) (fun hHeld => ?_)
           clear hK K
           refine norm_ (a' := ?_) ?_ ?_
           rotate_left
           ·show Act.put _ (some 58) _ = _
            simp only [Act.put, List.setIfInBounds_toArray, List.set_cons_zero, List.set_cons_succ, i64_w, i32_w]
            rfl
           exact norm_ (by simp only [putAll, Act.put, List.setIfInBounds_toArray, List.set_cons_zero, List.set_cons_succ, World.size_alloc] <;> rfl) (hJ0_3_6_8 (gp, A1p, c1p, A2p, c2p, Rp8, ()) _ hz)
         ·skip
          rintro ⟨gp, A1p, c1p, A2p, c2p, _⟩ w' hF
          change SPO wr [] (.slice A2p (a.f3.length + a.f3.length) c2p) (a.f3 ++ a.f3) w' at hF
          have hHeld := HSp _ (SPO.tk 0 hF)
          refine norm_ (a' := ?_) ?_ ?_
          rotate_left
          ·simp only [putAll, Act.put, List.setIfInBounds_toArray, List.set_cons_zero, List.set_cons_succ]
           rfl
          refine two_ (i := 7) (j := 8) (Ni := some 59) (Nj := some 8) #[true, true, true, true, true, true, true, true, false, false] #[true, true, true, true, true, true, true, false, true, false] rfl rfl rfl rfl (by kernel_rfl) (by decide) (by decide) (fun K hK => ?_) (fun K hK => ?_)
          ·skip
           refine goes_ Tryz.func15 (by kernel_rfl) rfl #[.slice A2p (a.f3.length + a.f3.length) c2p] (by rfl) rfl rfl (by simp only [List.map_toArray, List.map_cons, List.map_nil]; rfl) ?_
           with_reducible refine ((HAR.out A2p (a.f3.length + a.f3.length) c2p _)).mono ?_
           rintro e wz ⟨rfl, hb⟩
           refine ⟨_, rfl, ?_⟩
           have hz := SPO.below hF hb
           have hzb := SPO.tk 0 hz
           refine hK.out _ _ (HSp _ hzb) (fun hHeld => ?_)
           clear hK K
           refine norm_ (a' := ?_) ?_ ?_
           rotate_left
           ·show Act.put _ (some 59) _ = _
            simp only [Act.put, List.setIfInBounds_toArray, List.set_cons_zero, List.set_cons_succ, i64_w, i32_w]
            rfl
           exact norm_ (by simp only [putAll, Act.put, List.setIfInBounds_toArray, List.set_cons_zero, List.set_cons_succ, World.size_alloc] <;> rfl) (hJ0_3_6_7 (gp, A1p, c1p, A2p, c2p, ()) _ hz)
          ·skip
           refine freshO_ (c := #[.int .i64 0, .int .i64 0, .string ⟨#[]⟩, .slice none 0 0, .slice none 0 0, .slice none 0 0]) (t := 26) hF (by rfl) rfl ?_ ?_
           ·first | (go_simp; done) | (go_simp; rfl)
           intro Rp8 wz hz
           have hzb := SPO.tk 0 hz
           refine hK.out _ _ (HSp _ hzb) (fun hHeld => ?_)
           clear hK K
           refine norm_ (a' := ?_) ?_ ?_
           rotate_left
           ·show Act.put _ (some 8) _ = _
            simp only [Act.put, List.setIfInBounds_toArray, List.set_cons_zero, List.set_cons_succ, i64_w, i32_w]
            rfl
           exact norm_ (by simp only [putAll, Act.put, List.setIfInBounds_toArray, List.set_cons_zero, List.set_cons_succ, World.size_alloc] <;> rfl) (hJ0_3_6_8 (gp, A1p, c1p, A2p, c2p, Rp8, ()) _ hz)
        ·skip
         rintro ⟨gp, A1p, c1p, A2p, c2p, Rp8, _⟩ w' hF
         change SPO wr [(Rp8, #[.int .i64 0, .int .i64 0, .string ⟨#[]⟩, .slice none 0 0, .slice none 0 0, .slice none 0 0], 26)] (.slice A2p (a.f3.length + a.f3.length) c2p) (a.f3 ++ a.f3) w' at hF
         have hHeld := HSp _ (SPO.tk 0 hF)
         refine norm_ (a' := ?_) ?_ ?_
         rotate_left
         ·simp only [putAll, Act.put, List.setIfInBounds_toArray, List.set_cons_zero, List.set_cons_succ]
          rfl
         refine one_ (i := 7) (N := some 59) #[true, true, true, true, true, true, true, true, true, false] rfl rfl (by kernel_rfl) (by decide) (fun K hK => ?_)
         refine goes_ Tryz.func15 (by kernel_rfl) rfl #[.slice A2p (a.f3.length + a.f3.length) c2p] (by rfl) rfl rfl (by simp only [List.map_toArray, List.map_cons, List.map_nil]; rfl) ?_
         with_reducible refine ((HAR.out A2p (a.f3.length + a.f3.length) c2p _)).mono ?_
         rintro e wz ⟨rfl, hb⟩
         refine ⟨_, rfl, ?_⟩
         have hz := SPO.below hF hb
         have hzb := SPO.tk 0 hz
         refine hK.out _ _ (HSp _ hzb) (fun hHeld => ?_)
         clear hK K
         refine norm_ (a' := ?_) ?_ ?_
         rotate_left
         ·show Act.put _ (some 59) _ = _
          simp only [Act.put, List.setIfInBounds_toArray, List.set_cons_zero, List.set_cons_succ, i64_w, i32_w]
          rfl
         exact norm_ (by simp only [putAll, Act.put, List.setIfInBounds_toArray, List.set_cons_zero, List.set_cons_succ, World.size_alloc] <;> rfl) (hJ0_3_6_7_8 (gp, A1p, c1p, A2p, c2p, Rp8, ()) _ hz)
       ·skip
        rintro ⟨gp, A1p, c1p, A2p, c2p, _⟩ w' hF
        change SPO wr [] (.slice A2p (a.f3.length + a.f3.length) c2p) (a.f3 ++ a.f3) w' at hF
        have hHeld := HSp _ (SPO.tk 0 hF)
        refine norm_ (a' := ?_) ?_ ?_
        rotate_left
        ·simp only [putAll, Act.put, List.setIfInBounds_toArray, List.set_cons_zero, List.set_cons_succ]
         rfl
        refine one_ (i := 8) (N := some 8) #[true, true, true, true, true, true, true, true, true, false] rfl rfl (by kernel_rfl) (by decide) (fun K hK => ?_)
        refine freshO_ (c := #[.int .i64 0, .int .i64 0, .string ⟨#[]⟩, .slice none 0 0, .slice none 0 0, .slice none 0 0]) (t := 26) hF (by rfl) rfl ?_ ?_
        ·first | (go_simp; done) | (go_simp; rfl)
        intro Rp8 wz hz
        have hzb := SPO.tk 0 hz
        refine hK.out _ _ (HSp _ hzb) (fun hHeld => ?_)
        clear hK K
        refine norm_ (a' := ?_) ?_ ?_
        rotate_left
        ·show Act.put _ (some 8) _ = _
         simp only [Act.put, List.setIfInBounds_toArray, List.set_cons_zero, List.set_cons_succ, i64_w, i32_w]
         rfl
        exact norm_ (by simp only [putAll, Act.put, List.setIfInBounds_toArray, List.set_cons_zero, List.set_cons_succ, World.size_alloc] <;> rfl) (hJ0_3_6_7_8 (gp, A1p, c1p, A2p, c2p, Rp8, ()) _ hz)
      rintro ⟨gp, A1p, c1p, A2p, c2p, Rp8, _⟩ w' hF
      change SPO wr [(Rp8, #[.int .i64 0, .int .i64 0, .string ⟨#[]⟩, .slice none 0 0, .slice none 0 0, .slice none 0 0], 26)] (.slice A2p (a.f3.length + a.f3.length) c2p) (a.f3 ++ a.f3) w' at hF
      have hHeld := HSp _ (SPO.tk 0 hF)
      refine norm_ (a' := ?_) ?_ ?_
      rotate_left
      ·simp only [putAll, Act.put, List.setIfInBounds_toArray, List.set_cons_zero, List.set_cons_succ]
       rfl
      refine one_ (i := 9) (N := none) #[true, true, true, true, true, true, true, true, true, true] rfl rfl (by kernel_rfl) (by decide) (fun K hK => ?_)
      obtain ⟨y0, y1, y2, y3, y4, y5, f0, f1, f2, f3, f4, f5⟩ := six_cells (SPO.get hF 0 rfl)
      refine put6O_ (v0 := .int .i64 5) (v1 := .int .i64 0) (v2 := .string ⟨#[]⟩) (v3 := .slice A2p (a.f3.length + a.f3.length) c2p) (v4 := .slice none 0 0) (v5 := .slice none 0 0) hF 0 rfl (by rfl) rfl ?_ ?_
      ·first | (go_simp; done) | (go_simp; rfl)
      clear y0 y1 y2 y3 y4 y5 f0 f1 f2 f3 f4 f5
      intro wsp0 hsp0
      change SPO wr [(Rp8, #[.int .i64 5, .int .i64 0, .string ⟨#[]⟩, .slice A2p (a.f3.length + a.f3.length) c2p, .slice none 0 0, .slice none 0 0], 26)] (.slice A2p (a.f3.length + a.f3.length) c2p) (a.f3 ++ a.f3) wsp0 at hsp0
      have hzb := SPO.tk 0 hsp0
      refine hK.out _ _ (HSp _ hzb) (fun hHeld => ?_)
      clear hK K
      refine done_ (by kernel_rfl) ?_
      have HQ := Lib.hid hsp0
      obtain ⟨A2x, c2x, hex, _, hKT⟩ := SPO.row2 HQ.out
      simp only [Value.slice.injEq, true_and] at hex
      obtain ⟨rfl, rfl⟩ := hex
      have HU3 := Lib.hid (fun w1 hb => impl_Unique wsp0 (lV (a.f3 ++ a.f3)) u _ _ _ _ _ _ _ _ _ _ _ _ (toGo_any wsp0 _ (lV (a.f3 ++ a.f3)) (Nat.lt_succ_self _) HWT.out.2 HWT.out.1 _ hKT) (fun g n w hg => by rw [← HUT.out]; exact zz_Unique rfl HWT.out.1 HWT.out.2 hg) w1 hb)
      have HQ1 := Lib.hid (SPO.spn HQ.out)
      clear hKT HSp
      go_wp2_with fail
      refine start_ (n := 20) (S := fun w' => w'.cell? ⟨R, 0, none⟩ = some (.int .i64 u.f0) ∧ w'.cell? ⟨R, 1, none⟩ = some (.int .i64 u.f1) ∧ w'.cell? ⟨R, 2, none⟩ = some (.string u.f2) ∧ w'.cell? ⟨R, 3, none⟩ = some (.slice B3u u.f3.length d3u) ∧ w'.cell? ⟨R, 4, none⟩ = some (.slice B4u u.f4.length d4u) ∧ w'.cell? ⟨R, 5, none⟩ = some (.slice B5u u.f5.length d5u) ∧ w'.cell? ⟨R, 6, none⟩ = some (.int .i64 0) ∧ w'.cell? ⟨Rp8, 0, none⟩ = some (.int .i64 5) ∧ w'.cell? ⟨Rp8, 1, none⟩ = some (.int .i64 0) ∧ w'.cell? ⟨Rp8, 2, none⟩ = some (.string ⟨#[]⟩) ∧ w'.cell? ⟨Rp8, 3, none⟩ = some (.slice A2p (a.f3.length + a.f3.length) c2p) ∧ w'.cell? ⟨Rp8, 4, none⟩ = some (.slice none 0 0) ∧ w'.cell? ⟨Rp8, 5, none⟩ = some (.slice none 0 0) ∧ SPN wr [(Rp8, #[.int .i64 5, .int .i64 0, .string ⟨#[]⟩, .slice A2p (a.f3.length + a.f3.length) c2p, .slice none 0 0, .slice none 0 0], 26)] w' ∧ Below wsp0.heap.size wsp0 w') (ds := []) #[false, false, false, false, false, false, false, false, false, false, false, false, false, false, false, false, false, false, false, false] (by kernel_rfl) rfl rfl ⟨((sev_cells ((HP.out.below (SPN.bel (SPN.drew HQ1.out))).get 1 rfl)).1), ((sev_cells ((HP.out.below (SPN.bel (SPN.drew HQ1.out))).get 1 rfl)).2.1), ((sev_cells ((HP.out.below (SPN.bel (SPN.drew HQ1.out))).get 1 rfl)).2.2.1), ((sev_cells ((HP.out.below (SPN.bel (SPN.drew HQ1.out))).get 1 rfl)).2.2.2.1), ((sev_cells ((HP.out.below (SPN.bel (SPN.drew HQ1.out))).get 1 rfl)).2.2.2.2.1), ((sev_cells ((HP.out.below (SPN.bel (SPN.drew HQ1.out))).get 1 rfl)).2.2.2.2.2.1), ((sev_cells ((HP.out.below (SPN.bel (SPN.drew HQ1.out))).get 1 rfl)).2.2.2.2.2.2.1), ((six_cells (((SPN.drew HQ1.out).1).get 0 rfl)).1), ((six_cells (((SPN.drew HQ1.out).1).get 0 rfl)).2.1), ((six_cells (((SPN.drew HQ1.out).1).get 0 rfl)).2.2.1), ((six_cells (((SPN.drew HQ1.out).1).get 0 rfl)).2.2.2.1), ((six_cells (((SPN.drew HQ1.out).1).get 0 rfl)).2.2.2.2.1), ((six_cells (((SPN.drew HQ1.out).1).get 0 rfl)).2.2.2.2.2.1), (SPN.drew HQ1.out), (pw_below_drewN (Below.refl _ _) 1)⟩ (fun hHeld => ?_)
      refine pure_ (i := 1) (N := some 61) (v := ?_) (a' := ?_) #[false, true, false, false, false, false, false, false, false, false, false, false, false, false, false, false, false, false, false, false] rfl rfl (by kernel_rfl) (fun _ _ _ h => h) (Or.inl ⟨by rfl, ?_⟩) ?_ ?_
      rotate_left
      ·intro w'
       go_simp
       with_reducible rfl
      rotate_left
      ·simp only [Act.put, List.setIfInBounds_toArray, List.set_cons_zero, List.set_cons_succ, i64_w, i32_w]
       rfl
      refine take_ (i := 0) (N := some 60) (v := ?_) (a' := ?_) #[true, true, false, false, false, false, false, false, false, false, false, false, false, false, false, false, false, false, false, false] rfl rfl (by kernel_rfl) (fun _ _ _ h => h) (Or.inl ⟨by rfl, ?_⟩) hHeld ?_ ?_
      rotate_left
      ·rintro w' ⟨s0, s1, s2, s3, s4, s5, s6, s7, s8, s9, s10, s11, s12, s13, s14⟩
       go_simp
       with_reducible rfl
      rotate_left
      ·simp only [Act.put, List.setIfInBounds_toArray, List.set_cons_zero, List.set_cons_succ, i64_w, i32_w]
       rfl
      refine one_ (i := 2) (N := some 62) #[true, true, true, false, false, false, false, false, false, false, false, false, false, false, false, false, false, false, false, false] rfl rfl (by kernel_rfl) (by decide) (fun K hK => ?_)
      refine goes_ Tryz.func15 (by kernel_rfl) rfl #[.slice AL u.f3.length cL] (by rfl) rfl rfl (by simp only [List.map_toArray, List.map_cons, List.map_nil]; rfl) ?_
      with_reducible refine ((HAR.out _ _ _ _)).mono ?_
      rintro e wz ⟨rfl, hb0⟩
      refine ⟨_, rfl, ?_⟩
      have hq0 := SPN.below hHeld.2.2.2.2.2.2.2.2.2.2.2.2.2.1 hb0
      have hB0 := hHeld.2.2.2.2.2.2.2.2.2.2.2.2.2.2.trans (hb0.mono hHeld.2.2.2.2.2.2.2.2.2.2.2.2.2.2.size)
      have HGV0 : Hid (Calls Tryz.prog 18 #[.agg #[.int .i64 u.f0, .int .i64 u.f1, .string u.f2, .slice B3u u.f3.length d3u, .slice B4u u.f4.length d4u, .slice B5u u.f5.length d5u, .int .i64 0], .agg #[.int .i64 5, .int .i64 0, .string ⟨#[]⟩, .slice AL u.f3.length cL, .slice none 0 0, .slice none 0 0]] wz fun e w' => e = .returned (.bool (cmpV u (lV u.f3) == 0)) ∧ Below wz.heap.size wz w') := Lib.hid (given_any wz u (lV u.f3) HWU.out.1 HWL.out (k26.K_below (SPN.bel hq0) HKU.out) (k26.K_below (SPN.bel hq0) HKL.out) wz (Below.refl _ _))
      rw [HUL.out.1] at HGV0
      refine hK.out _ _ ⟨((sev_cells ((HP.out.below (SPN.bel hq0)).get 1 rfl)).1), ((sev_cells ((HP.out.below (SPN.bel hq0)).get 1 rfl)).2.1), ((sev_cells ((HP.out.below (SPN.bel hq0)).get 1 rfl)).2.2.1), ((sev_cells ((HP.out.below (SPN.bel hq0)).get 1 rfl)).2.2.2.1), ((sev_cells ((HP.out.below (SPN.bel hq0)).get 1 rfl)).2.2.2.2.1), ((sev_cells ((HP.out.below (SPN.bel hq0)).get 1 rfl)).2.2.2.2.2.1), ((sev_cells ((HP.out.below (SPN.bel hq0)).get 1 rfl)).2.2.2.2.2.2.1), ((six_cells ((hq0.1).get 0 rfl)).1), ((six_cells ((hq0.1).get 0 rfl)).2.1), ((six_cells ((hq0.1).get 0 rfl)).2.2.1), ((six_cells ((hq0.1).get 0 rfl)).2.2.2.1), ((six_cells ((hq0.1).get 0 rfl)).2.2.2.2.1), ((six_cells ((hq0.1).get 0 rfl)).2.2.2.2.2.1), hq0, hB0⟩ (fun hHeld => ?_)
      clear hK K
      refine norm_ (a' := ?_) ?_ ?_
      rotate_left
      ·show Act.put _ (some 62) _ = _
       simp only [Act.put, List.setIfInBounds_toArray, List.set_cons_zero, List.set_cons_succ, i64_w, i32_w]
       rfl
      refine one_ (i := 3) (N := some 63) #[true, true, true, true, false, false, false, false, false, false, false, false, false, false, false, false, false, false, false, false] rfl rfl (by kernel_rfl) (by decide) (fun K hK => ?_)
      refine goes_ Tryz.func18 (by kernel_rfl) rfl #[.agg #[.int .i64 u.f0, .int .i64 u.f1, .string u.f2, .slice B3u u.f3.length d3u, .slice B4u u.f4.length d4u, .slice B5u u.f5.length d5u, .int .i64 0], .agg #[.int .i64 5, .int .i64 0, .string ⟨#[]⟩, .slice AL u.f3.length cL, .slice none 0 0, .slice none 0 0]] (by rfl) rfl rfl (by simp only [List.map_toArray, List.map_cons, List.map_nil]; rfl) ?_
      with_reducible refine (HGV0.out).mono ?_
      rintro e wz ⟨rfl, hb1⟩
      refine ⟨_, rfl, ?_⟩
      have hq1 := SPN.below hHeld.2.2.2.2.2.2.2.2.2.2.2.2.2.1 hb1
      have hB1 := hHeld.2.2.2.2.2.2.2.2.2.2.2.2.2.2.trans (hb1.mono hHeld.2.2.2.2.2.2.2.2.2.2.2.2.2.2.size)
      refine hK.out _ _ ⟨((sev_cells ((HP.out.below (SPN.bel hq1)).get 1 rfl)).1), ((sev_cells ((HP.out.below (SPN.bel hq1)).get 1 rfl)).2.1), ((sev_cells ((HP.out.below (SPN.bel hq1)).get 1 rfl)).2.2.1), ((sev_cells ((HP.out.below (SPN.bel hq1)).get 1 rfl)).2.2.2.1), ((sev_cells ((HP.out.below (SPN.bel hq1)).get 1 rfl)).2.2.2.2.1), ((sev_cells ((HP.out.below (SPN.bel hq1)).get 1 rfl)).2.2.2.2.2.1), ((sev_cells ((HP.out.below (SPN.bel hq1)).get 1 rfl)).2.2.2.2.2.2.1), ((six_cells ((hq1.1).get 0 rfl)).1), ((six_cells ((hq1.1).get 0 rfl)).2.1), ((six_cells ((hq1.1).get 0 rfl)).2.2.1), ((six_cells ((hq1.1).get 0 rfl)).2.2.2.1), ((six_cells ((hq1.1).get 0 rfl)).2.2.2.2.1), ((six_cells ((hq1.1).get 0 rfl)).2.2.2.2.2.1), hq1, hB1⟩ (fun hHeld => ?_)
      clear hK K
      refine norm_ (a' := ?_) ?_ ?_
      rotate_left
      ·show Act.put _ (some 63) _ = _
       simp only [Act.put, List.setIfInBounds_toArray, List.set_cons_zero, List.set_cons_succ, i64_w, i32_w]
       rfl
      refine pure_ (i := 4) (N := some 64) (v := ?_) (a' := ?_) #[true, true, true, true, true, false, false, false, false, false, false, false, false, false, false, false, false, false, false, false] rfl rfl (by kernel_rfl) (fun _ _ _ h => h) (Or.inl ⟨by rfl, ?_⟩) ?_ ?_
      rotate_left
      ·intro w'
       go_simp
       with_reducible rfl
      rotate_left
      ·simp only [Act.put, List.setIfInBounds_toArray, List.set_cons_zero, List.set_cons_succ, i64_w, i32_w]
       rfl
      refine pure_ (i := 5) (N := some 65) (v := ?_) (a' := ?_) #[true, true, true, true, true, true, false, false, false, false, false, false, false, false, false, false, false, false, false, false] rfl rfl (by kernel_rfl) (fun _ _ _ h => h) (Or.inl ⟨by rfl, ?_⟩) ?_ ?_
      rotate_left
      ·intro w'
       go_simp
       with_reducible rfl
      rotate_left
      ·simp only [Act.put, List.setIfInBounds_toArray, List.set_cons_zero, List.set_cons_succ, i64_w, i32_w]
       rfl
      refine pure_ (i := 8) (N := some 68) (v := ?_) (a' := ?_) #[true, true, true, true, true, true, false, false, true, false, false, false, false, false, false, false, false, false, false, false] rfl rfl (by kernel_rfl) (fun _ _ _ h => h) (Or.inl ⟨by rfl, ?_⟩) ?_ ?_
      rotate_left
      ·intro w'
       go_simp
       with_reducible rfl
      rotate_left
      ·simp only [Act.put, List.setIfInBounds_toArray, List.set_cons_zero, List.set_cons_succ, i64_w, i32_w]
       rfl
      refine take_ (i := 6) (N := some 66) (v := ?_) (a' := ?_) #[true, true, true, true, true, true, true, false, true, false, false, false, false, false, false, false, false, false, false, false] rfl rfl (by kernel_rfl) (fun _ _ _ h => h) (Or.inl ⟨by rfl, ?_⟩) hHeld ?_ ?_
      rotate_left
      ·rintro w' ⟨s0, s1, s2, s3, s4, s5, s6, s7, s8, s9, s10, s11, s12, s13, s14⟩
       go_simp
       with_reducible rfl
      rotate_left
      ·simp only [Act.put, List.setIfInBounds_toArray, List.set_cons_zero, List.set_cons_succ, i64_w, i32_w]
       rfl
      refine take_ (i := 9) (N := some 69) (v := ?_) (a' := ?_) #[true, true, true, true, true, true, true, false, true, true, false, false, false, false, false, false, false, false, false, false] rfl rfl (by kernel_rfl) (fun _ _ _ h => h) (Or.inl ⟨by rfl, ?_⟩) hHeld ?_ ?_
      rotate_left
      ·rintro w' ⟨s0, s1, s2, s3, s4, s5, s6, s7, s8, s9, s10, s11, s12, s13, s14⟩
       go_simp
       with_reducible rfl
      rotate_left
      ·simp only [Act.put, List.setIfInBounds_toArray, List.set_cons_zero, List.set_cons_succ, i64_w, i32_w]
       rfl
      refine one_ (i := 7) (N := some 67) #[true, true, true, true, true, true, true, true, true, true, false, false, false, false, false, false, false, false, false, false] rfl rfl (by kernel_rfl) (by decide) (fun K hK => ?_)
      refine goes_ Tryz.func23 (by kernel_rfl) rfl #[.agg #[.int .i64 u.f0, .int .i64 u.f1, .string u.f2, .slice B3u u.f3.length d3u, .slice B4u u.f4.length d4u, .slice B5u u.f5.length d5u]] (by rfl) rfl rfl (by simp only [List.map_toArray, List.map_cons, List.map_nil]; rfl) ?_
      with_reducible refine ((HU2.out _ (SPN.bel hHeld.2.2.2.2.2.2.2.2.2.2.2.2.2.1))).mono ?_
      rintro e wz ⟨Q3, k3, Q4, k4, Q5, k5, rfl, hM, hb2⟩
      refine ⟨_, rfl, ?_⟩
      have hq2 := SPN.below hHeld.2.2.2.2.2.2.2.2.2.2.2.2.2.1 hb2
      have hB2 := hHeld.2.2.2.2.2.2.2.2.2.2.2.2.2.2.trans (hb2.mono hHeld.2.2.2.2.2.2.2.2.2.2.2.2.2.2.size)
      have HGV2 : Hid (Calls Tryz.prog 18 #[.agg #[.int .i64 u.f0, .int .i64 u.f1, .string u.f2, .slice Q3 u.f3.length k3, .slice Q4 u.f4.length k4, .slice Q5 u.f5.length k5, .int .i64 0], .agg #[.int .i64 u.f0, .int .i64 u.f1, .string u.f2, .slice B3u u.f3.length d3u, .slice B4u u.f4.length d4u, .slice B5u u.f5.length d5u]] wz fun e w' => e = .returned (.bool (cmpV u u == 0)) ∧ Below wz.heap.size wz w') := Lib.hid (given_any wz u u HWU.out.1 HWU.out.1 (k26.K_of_M hM) (k26.K_below (SPN.bel hq2) HKU.out) wz (Below.refl _ _))
      rw [HUL.out.2] at HGV2
      clear hM
      refine hK.out _ _ ⟨((sev_cells ((HP.out.below (SPN.bel hq2)).get 1 rfl)).1), ((sev_cells ((HP.out.below (SPN.bel hq2)).get 1 rfl)).2.1), ((sev_cells ((HP.out.below (SPN.bel hq2)).get 1 rfl)).2.2.1), ((sev_cells ((HP.out.below (SPN.bel hq2)).get 1 rfl)).2.2.2.1), ((sev_cells ((HP.out.below (SPN.bel hq2)).get 1 rfl)).2.2.2.2.1), ((sev_cells ((HP.out.below (SPN.bel hq2)).get 1 rfl)).2.2.2.2.2.1), ((sev_cells ((HP.out.below (SPN.bel hq2)).get 1 rfl)).2.2.2.2.2.2.1), ((six_cells ((hq2.1).get 0 rfl)).1), ((six_cells ((hq2.1).get 0 rfl)).2.1), ((six_cells ((hq2.1).get 0 rfl)).2.2.1), ((six_cells ((hq2.1).get 0 rfl)).2.2.2.1), ((six_cells ((hq2.1).get 0 rfl)).2.2.2.2.1), ((six_cells ((hq2.1).get 0 rfl)).2.2.2.2.2.1), hq2, hB2⟩ (fun hHeld => ?_)
      clear hK K
      refine norm_ (a' := ?_) ?_ ?_
      rotate_left
      ·show Act.put _ (some 67) _ = _
       simp only [Act.put, List.setIfInBounds_toArray, List.set_cons_zero, List.set_cons_succ, i64_w, i32_w]
       rfl
      refine one_ (i := 10) (N := some 70) #[true, true, true, true, true, true, true, true, true, true, true, false, false, false, false, false, false, false, false, false] rfl rfl (by kernel_rfl) (by decide) (fun K hK => ?_)
      refine goes_ Tryz.func18 (by kernel_rfl) rfl #[.agg #[.int .i64 u.f0, .int .i64 u.f1, .string u.f2, .slice Q3 u.f3.length k3, .slice Q4 u.f4.length k4, .slice Q5 u.f5.length k5, .int .i64 0], .agg #[.int .i64 u.f0, .int .i64 u.f1, .string u.f2, .slice B3u u.f3.length d3u, .slice B4u u.f4.length d4u, .slice B5u u.f5.length d5u]] (by rfl) rfl rfl (by simp only [List.map_toArray, List.map_cons, List.map_nil]; rfl) ?_
      with_reducible refine (HGV2.out).mono ?_
      rintro e wz ⟨rfl, hb3⟩
      refine ⟨_, rfl, ?_⟩
      have hq3 := SPN.below hHeld.2.2.2.2.2.2.2.2.2.2.2.2.2.1 hb3
      have hB3 := hHeld.2.2.2.2.2.2.2.2.2.2.2.2.2.2.trans (hb3.mono hHeld.2.2.2.2.2.2.2.2.2.2.2.2.2.2.size)
      refine hK.out _ _ ⟨((sev_cells ((HP.out.below (SPN.bel hq3)).get 1 rfl)).1), ((sev_cells ((HP.out.below (SPN.bel hq3)).get 1 rfl)).2.1), ((sev_cells ((HP.out.below (SPN.bel hq3)).get 1 rfl)).2.2.1), ((sev_cells ((HP.out.below (SPN.bel hq3)).get 1 rfl)).2.2.2.1), ((sev_cells ((HP.out.below (SPN.bel hq3)).get 1 rfl)).2.2.2.2.1), ((sev_cells ((HP.out.below (SPN.bel hq3)).get 1 rfl)).2.2.2.2.2.1), ((sev_cells ((HP.out.below (SPN.bel hq3)).get 1 rfl)).2.2.2.2.2.2.1), ((six_cells ((hq3.1).get 0 rfl)).1), ((six_cells ((hq3.1).get 0 rfl)).2.1), ((six_cells ((hq3.1).get 0 rfl)).2.2.1), ((six_cells ((hq3.1).get 0 rfl)).2.2.2.1), ((six_cells ((hq3.1).get 0 rfl)).2.2.2.2.1), ((six_cells ((hq3.1).get 0 rfl)).2.2.2.2.2.1), hq3, hB3⟩ (fun hHeld => ?_)
      clear hK K
      refine norm_ (a' := ?_) ?_ ?_
      rotate_left
      ·show Act.put _ (some 70) _ = _
       simp only [Act.put, List.setIfInBounds_toArray, List.set_cons_zero, List.set_cons_succ, i64_w, i32_w]
       rfl
      refine pure_ (i := 11) (N := some 71) (v := ?_) (a' := ?_) #[true, true, true, true, true, true, true, true, true, true, true, true, false, false, false, false, false, false, false, false] rfl rfl (by kernel_rfl) (fun _ _ _ h => h) (Or.inl ⟨by rfl, ?_⟩) ?_ ?_
      rotate_left
      ·intro w'
       go_simp
       with_reducible rfl
      rotate_left
      ·simp only [Act.put, List.setIfInBounds_toArray, List.set_cons_zero, List.set_cons_succ, i64_w, i32_w]
       rfl
      refine pure_ (i := 12) (N := some 72) (v := ?_) (a' := ?_) #[true, true, true, true, true, true, true, true, true, true, true, true, true, false, false, false, false, false, false, false] rfl rfl (by kernel_rfl) (fun _ _ _ h => h) (Or.inl ⟨by rfl, ?_⟩) ?_ ?_
      rotate_left
      ·intro w'
       go_simp
       with_reducible rfl
      rotate_left
      ·simp only [Act.put, List.setIfInBounds_toArray, List.set_cons_zero, List.set_cons_succ, i64_w, i32_w]
       rfl
      refine pure_ (i := 15) (N := some 75) (v := ?_) (a' := ?_) #[true, true, true, true, true, true, true, true, true, true, true, true, true, false, false, true, false, false, false, false] rfl rfl (by kernel_rfl) (fun _ _ _ h => h) (Or.inl ⟨by rfl, ?_⟩) ?_ ?_
      rotate_left
      ·intro w'
       go_simp
       with_reducible rfl
      rotate_left
      ·simp only [Act.put, List.setIfInBounds_toArray, List.set_cons_zero, List.set_cons_succ, i64_w, i32_w]
       rfl
      refine take_ (i := 13) (N := some 73) (v := ?_) (a' := ?_) #[true, true, true, true, true, true, true, true, true, true, true, true, true, true, false, true, false, false, false, false] rfl rfl (by kernel_rfl) (fun _ _ _ h => h) (Or.inl ⟨by rfl, ?_⟩) hHeld ?_ ?_
      rotate_left
      ·rintro w' ⟨s0, s1, s2, s3, s4, s5, s6, s7, s8, s9, s10, s11, s12, s13, s14⟩
       go_simp
       with_reducible rfl
      rotate_left
      ·simp only [Act.put, List.setIfInBounds_toArray, List.set_cons_zero, List.set_cons_succ, i64_w, i32_w]
       rfl
      refine take_ (i := 16) (N := some 76) (v := ?_) (a' := ?_) #[true, true, true, true, true, true, true, true, true, true, true, true, true, true, false, true, true, false, false, false] rfl rfl (by kernel_rfl) (fun _ _ _ h => h) (Or.inl ⟨by rfl, ?_⟩) hHeld ?_ ?_
      rotate_left
      ·rintro w' ⟨s0, s1, s2, s3, s4, s5, s6, s7, s8, s9, s10, s11, s12, s13, s14⟩
       go_simp
       with_reducible rfl
      rotate_left
      ·simp only [Act.put, List.setIfInBounds_toArray, List.set_cons_zero, List.set_cons_succ, i64_w, i32_w]
       rfl
      refine one_ (i := 14) (N := some 74) #[true, true, true, true, true, true, true, true, true, true, true, true, true, true, true, true, true, false, false, false] rfl rfl (by kernel_rfl) (by decide) (fun K hK => ?_)
      refine goes_ Tryz.func23 (by kernel_rfl) rfl #[.agg #[.int .i64 5, .int .i64 0, .string ⟨#[]⟩, .slice A2p (a.f3.length + a.f3.length) c2p, .slice none 0 0, .slice none 0 0]] (by rfl) rfl rfl (by simp only [List.map_toArray, List.map_cons, List.map_nil]; rfl) ?_
      with_reducible refine ((HU3.out _ hHeld.2.2.2.2.2.2.2.2.2.2.2.2.2.2)).mono ?_
      rintro e wz ⟨P3, p3, P4, p4, P5, p5, rfl, hM, hb4⟩
      refine ⟨_, rfl, ?_⟩
      have hq4 := SPN.below hHeld.2.2.2.2.2.2.2.2.2.2.2.2.2.1 hb4
      have hB4 := hHeld.2.2.2.2.2.2.2.2.2.2.2.2.2.2.trans (hb4.mono hHeld.2.2.2.2.2.2.2.2.2.2.2.2.2.2.size)
      have HGV4 : Hid (Calls Tryz.prog 18 #[.agg #[.int .i64 u.f0, .int .i64 u.f1, .string u.f2, .slice P3 u.f3.length p3, .slice P4 u.f4.length p4, .slice P5 u.f5.length p5, .int .i64 0], .agg #[.int .i64 u.f0, .int .i64 u.f1, .string u.f2, .slice B3u u.f3.length d3u, .slice B4u u.f4.length d4u, .slice B5u u.f5.length d5u]] wz fun e w' => e = .returned (.bool (cmpV u u == 0)) ∧ Below wz.heap.size wz w') := Lib.hid (given_any wz u u HWU.out.1 HWU.out.1 (k26.K_of_M hM) (k26.K_below (SPN.bel hq4) HKU.out) wz (Below.refl _ _))
      rw [HUL.out.2] at HGV4
      clear hM
      refine hK.out _ _ ⟨((sev_cells ((HP.out.below (SPN.bel hq4)).get 1 rfl)).1), ((sev_cells ((HP.out.below (SPN.bel hq4)).get 1 rfl)).2.1), ((sev_cells ((HP.out.below (SPN.bel hq4)).get 1 rfl)).2.2.1), ((sev_cells ((HP.out.below (SPN.bel hq4)).get 1 rfl)).2.2.2.1), ((sev_cells ((HP.out.below (SPN.bel hq4)).get 1 rfl)).2.2.2.2.1), ((sev_cells ((HP.out.below (SPN.bel hq4)).get 1 rfl)).2.2.2.2.2.1), ((sev_cells ((HP.out.below (SPN.bel hq4)).get 1 rfl)).2.2.2.2.2.2.1), ((six_cells ((hq4.1).get 0 rfl)).1), ((six_cells ((hq4.1).get 0 rfl)).2.1), ((six_cells ((hq4.1).get 0 rfl)).2.2.1), ((six_cells ((hq4.1).get 0 rfl)).2.2.2.1), ((six_cells ((hq4.1).get 0 rfl)).2.2.2.2.1), ((six_cells ((hq4.1).get 0 rfl)).2.2.2.2.2.1), hq4, hB4⟩ (fun hHeld => ?_)
      clear hK K
      refine norm_ (a' := ?_) ?_ ?_
      rotate_left
      ·show Act.put _ (some 74) _ = _
       simp only [Act.put, List.setIfInBounds_toArray, List.set_cons_zero, List.set_cons_succ, i64_w, i32_w]
       rfl
      refine one_ (i := 17) (N := some 77) #[true, true, true, true, true, true, true, true, true, true, true, true, true, true, true, true, true, true, false, false] rfl rfl (by kernel_rfl) (by decide) (fun K hK => ?_)
      refine goes_ Tryz.func18 (by kernel_rfl) rfl #[.agg #[.int .i64 u.f0, .int .i64 u.f1, .string u.f2, .slice P3 u.f3.length p3, .slice P4 u.f4.length p4, .slice P5 u.f5.length p5, .int .i64 0], .agg #[.int .i64 u.f0, .int .i64 u.f1, .string u.f2, .slice B3u u.f3.length d3u, .slice B4u u.f4.length d4u, .slice B5u u.f5.length d5u]] (by rfl) rfl rfl (by simp only [List.map_toArray, List.map_cons, List.map_nil]; rfl) ?_
      with_reducible refine (HGV4.out).mono ?_
      rintro e wz ⟨rfl, hb5⟩
      refine ⟨_, rfl, ?_⟩
      have hq5 := SPN.below hHeld.2.2.2.2.2.2.2.2.2.2.2.2.2.1 hb5
      have hB5 := hHeld.2.2.2.2.2.2.2.2.2.2.2.2.2.2.trans (hb5.mono hHeld.2.2.2.2.2.2.2.2.2.2.2.2.2.2.size)
      refine hK.out _ _ ⟨((sev_cells ((HP.out.below (SPN.bel hq5)).get 1 rfl)).1), ((sev_cells ((HP.out.below (SPN.bel hq5)).get 1 rfl)).2.1), ((sev_cells ((HP.out.below (SPN.bel hq5)).get 1 rfl)).2.2.1), ((sev_cells ((HP.out.below (SPN.bel hq5)).get 1 rfl)).2.2.2.1), ((sev_cells ((HP.out.below (SPN.bel hq5)).get 1 rfl)).2.2.2.2.1), ((sev_cells ((HP.out.below (SPN.bel hq5)).get 1 rfl)).2.2.2.2.2.1), ((sev_cells ((HP.out.below (SPN.bel hq5)).get 1 rfl)).2.2.2.2.2.2.1), ((six_cells ((hq5.1).get 0 rfl)).1), ((six_cells ((hq5.1).get 0 rfl)).2.1), ((six_cells ((hq5.1).get 0 rfl)).2.2.1), ((six_cells ((hq5.1).get 0 rfl)).2.2.2.1), ((six_cells ((hq5.1).get 0 rfl)).2.2.2.2.1), ((six_cells ((hq5.1).get 0 rfl)).2.2.2.2.2.1), hq5, hB5⟩ (fun hHeld => ?_)
      clear hK K
      refine norm_ (a' := ?_) ?_ ?_
      rotate_left
      ·show Act.put _ (some 77) _ = _
       simp only [Act.put, List.setIfInBounds_toArray, List.set_cons_zero, List.set_cons_succ, i64_w, i32_w]
       rfl
      refine pure_ (i := 18) (N := some 78) (v := ?_) (a' := ?_) #[true, true, true, true, true, true, true, true, true, true, true, true, true, true, true, true, true, true, true, false] rfl rfl (by kernel_rfl) (fun _ _ _ h => h) (Or.inl ⟨by rfl, ?_⟩) ?_ ?_
      rotate_left
      ·intro w'
       go_simp
       with_reducible rfl
      rotate_left
      ·simp only [Act.put, List.setIfInBounds_toArray, List.set_cons_zero, List.set_cons_succ, i64_w, i32_w]
       rfl
      refine pure_ (i := 19) (N := some 2) (v := ?_) (a' := ?_) #[true, true, true, true, true, true, true, true, true, true, true, true, true, true, true, true, true, true, true, true] rfl rfl (by kernel_rfl) (fun _ _ _ h => h) (Or.inl ⟨by rfl, ?_⟩) ?_ ?_
      rotate_left
      ·intro w'
       go_simp
       with_reducible rfl
      rotate_left
      ·simp only [Act.put, List.setIfInBounds_toArray, List.set_cons_zero, List.set_cons_succ, i64_w, i32_w]
       rfl
      refine done_ (by kernel_rfl) ?_
      go_wp2_with fail
      go_ret
      exact ⟨rfl, HP.out.bel.trans ((SPN.bel hq5).mono HP.out.bel.size)⟩
theorem fnUniqueSort_any (w0 : World) (hE : Env w0) (xa : V) (hza : Sz xa) (Ka Ha : Int) (sa : ByteArray) (A3a A4a A5a : Option Addr) (n3a c3a n4a c4a n5a c5a : Nat) (hKa : k26.K w0 xa [.int .i64 Ka, .int .i64 Ha, .string sa, .slice A3a n3a c3a, .slice A4a n4a c4a, .slice A5a n5a c5a]) :
    Calls Tryz.prog 5 #[.agg #[.int .i64 Ka, .int .i64 Ha, .string sa, .slice A3a n3a c3a, .slice A4a n4a c4a, .slice A5a n5a c5a]] w0 fun e w' => e = .returned (.bool true) ∧ Below w0.heap.size w0 w' := by
  have hKa' := hKa
  obtain ⟨_, _, _, _, _, _, hea, _⟩ := k26_open hKa
  simp only [List.cons.injEq, Value.int.injEq, Value.string.injEq, Value.slice.injEq, true_and, and_true] at hea
  obtain ⟨rfl, rfl, rfl, ⟨rfl, rfl, rfl⟩, ⟨rfl, rfl, rfl⟩, ⟨rfl, rfl, rfl⟩⟩ := hea
  exact core_unique w0 hE xa hza _ _ _ _ _ _ hKa'
end Go.Proofs.YtbnfeicpjmfooaaGreatDoor.ValA
