/-
FnAddMaps: sums of objects.
-/
import Derived.Test.YtdaiodiafahkkaaGreatDoorMN
set_option linter.unusedSimpArgs false
set_option linter.unusedVariables false
namespace Go.Proofs.YtdaiodiafahkkaaGreatDoor.ValA
open Go.RowKit Go.Lib Go.Proofs.YtdaiodiafahkkaaGreatDoorW.PrintWords Go.Proofs.YtdaiodiafahkkaaGreatDoorW.PrintLast Go.Proofs.YtdaiodiafahkkaaGreatDoorW.PrintMore Go.Proofs.YtdaiodiafahkkaaGreatDoor.PzzFits1 Go.Proofs.YtdaiodiafahkkaaGreatDoor.NumA
attribute [local go_sem] run_val
set_option maxRecDepth 100000 in
set_option maxHeartbeats 20000000 in
theorem fnAddMaps_any (w0 : World) (hE : Env w0) (xa : V) (hza : Sz xa) (Ka Ha : Int) (sa : ByteArray) (A3a A4a A5a : Option Addr) (n3a c3a n4a c4a n5a c5a : Nat) (hKa : k26.K w0 xa [.int .i64 Ka, .int .i64 Ha, .string sa, .slice A3a n3a c3a, .slice A4a n4a c4a, .slice A5a n5a c5a]) (xb : V) (hzb : Sz xb) (Kb Hb : Int) (sb : ByteArray) (A3b A4b A5b : Option Addr) (n3b c3b n4b c4b n5b c5b : Nat) (hKb : k26.K w0 xb [.int .i64 Kb, .int .i64 Hb, .string sb, .slice A3b n3b c3b, .slice A4b n4b c4b, .slice A5b n5b c5b]) (key : ByteArray) (zkey : key.size ≤ maxLen) :
    Calls Tryz.prog 4 #[.agg #[.int .i64 Ka, .int .i64 Ha, .string sa, .slice A3a n3a c3a, .slice A4a n4a c4a, .slice A5a n5a c5a], .agg #[.int .i64 Kb, .int .i64 Hb, .string sb, .slice A3b n3b c3b, .slice A4b n4b c4b, .slice A5b n5b c5b], .string key] w0 fun e w' => e = .returned (.bool true) ∧ Below w0.heap.size w0 w' := by
  clear zkey
  obtain ⟨w, hw⟩ : ∃ w, w = w0 := ⟨_, rfl⟩
  obtain ⟨B3, e3, B4, e4, B5, e5, he, l3, g3, l4, g4, l5, g5⟩ := k26_open hKa
  simp only [List.cons.injEq, Value.int.injEq, Value.string.injEq, Value.slice.injEq, true_and, and_true] at he
  obtain ⟨rfl, rfl, rfl, ⟨rfl, rfl, rfl⟩, ⟨rfl, rfl, rfl⟩, ⟨rfl, rfl, rfl⟩⟩ := he
  clear l3 g3 l4 g4 l5 g5
  obtain ⟨B3, e3, B4, e4, B5, e5, he, l3, g3, l4, g4, l5, g5⟩ := k26_open hKb
  simp only [List.cons.injEq, Value.int.injEq, Value.string.injEq, Value.slice.injEq, true_and, and_true] at he
  obtain ⟨rfl, rfl, rfl, ⟨rfl, rfl, rfl⟩, ⟨rfl, rfl, rfl⟩, ⟨rfl, rfl, rfl⟩⟩ := he
  clear l3 g3 l4 g4 l5 g5
  have HFa := Lib.hid (fun w1 hb => fits1_size w0 xa xa.f0 xa.f1 xa.f2 A3a A4a A5a xa.f3.length c3a xa.f4.length c4a xa.f5.length c5a hKa w1 hb)
  have HTa := Lib.hid (fun h => toGo_any w0 _ xa (Nat.lt_succ_self _) hza h _ hKa)
  have HGa := Lib.hid (fun h w1 hb => get_any w0 xa h A3a A4a A5a c3a c4a c5a hKa key w1 hb)
  have HHa := Lib.hid (fun h w1 hb => has_any w0 xa h A3a A4a A5a c3a c4a c5a hKa key w1 hb)
  have HFb := Lib.hid (fun w1 hb => fits1_size w0 xb xb.f0 xb.f1 xb.f2 A3b A4b A5b xb.f3.length c3b xb.f4.length c4b xb.f5.length c5b hKb w1 hb)
  have HTb := Lib.hid (fun h => toGo_any w0 _ xb (Nat.lt_succ_self _) hzb h _ hKb)
  have HGb := Lib.hid (fun h w1 hb => get_any w0 xb h A3b A4b A5b c3b c4b c5b hKb key w1 hb)
  have HHb := Lib.hid (fun h w1 hb => has_any w0 xb h A3b A4b A5b c3b c4b c5b hKb key w1 hb)
  have HFI := Lib.hid (fun w1 hb => fit_two w0 hE xa hza xa.f0 xa.f1 xa.f2 A3a A4a A5a xa.f3.length c3a xa.f4.length c4a xa.f5.length c5a hKa xb hzb xb.f0 xb.f1 xb.f2 A3b A4b A5b xb.f3.length c3b xb.f4.length c4b xb.f5.length c5b hKb w1 hb)
  have HSZ := Lib.hid (And.intro hza hzb)
  clear hE hza hKa hzb hKb
  subst hw
  go_enter Tryz.func4, Tryz.ntmps4
  go_wp2_with fail
  obtain ⟨A, hA⟩ : ∃ A, A = w.heap.size := ⟨_, rfl⟩
  obtain ⟨B, hB⟩ : ∃ B, B = w.heap.size + 1 := ⟨_, rfl⟩
  obtain ⟨W0, hW0⟩ : ∃ W0, W0 = (w.alloc (.cells #[.int .i64 xa.f0, .int .i64 xa.f1, .string xa.f2, .slice A3a xa.f3.length c3a, .slice A4a xa.f4.length c4a, .slice A5a xa.f5.length c5a] 26)).alloc (.cells #[.int .i64 xb.f0, .int .i64 xb.f1, .string xb.f2, .slice A3b xb.f3.length c3b, .slice A4b xb.f4.length c4b, .slice A5b xb.f5.length c5b] 26) := ⟨_, rfl⟩
  have hS0 : SPR w [(A, cv xa A3a c3a A4a c4a A5a c5a, 26), (B, cv xb A3b c3b A4b c4b A5b c5b, 26)] [] W0 := by
    rw [hA, hB, hW0, show w.heap.size + 1 = (w.alloc (.cells #[.int .i64 xa.f0, .int .i64 xa.f1, .string xa.f2, .slice A3a xa.f3.length c3a, .slice A4a xa.f4.length c4a, .slice A5a xa.f5.length c5a] 26)).heap.size from (World.size_alloc _ _).symm]
    exact ((spr0 (Below.refl _ w)).more _ _).more _ _
  rw [← hW0]
  try rw [← hB]
  try rw [← hA]
  have H0 := Lib.hid hS0
  clear hS0 hW0 hA hB
  have y := six_cells (H0.out.get 0 rfl)
  try go_wp2_with fail
  refine (HFa.out W0 H0.out.bel).mono ?_
  rintro e w1 ⟨r, rfl, hr, hb⟩
  have H1 := Lib.hid (H0.out.below hb)
  clear hb H0 y HFa
  cases r with
  | false =>
    go_wp2_with fail
    go_ret
    exact ⟨rfl, H1.out.bel⟩
  | true =>
  clear hr
  have y := six_cells (H1.out.get 1 rfl)
  try go_wp2_with fail
  refine (HFb.out w1 H1.out.bel).mono ?_
  rintro e w2 ⟨r, rfl, hr, hb⟩
  have H2 := Lib.hid (H1.out.below hb)
  clear hb H1 y HFb
  cases r with
  | false =>
    go_wp2_with fail
    go_ret
    exact ⟨rfl, H2.out.bel⟩
  | true =>
  clear hr
  by_cases ck : (key.size : Int) > 2147483647
  · have d0 : decide ((key.size : Int) > 2147483647) = true := decide_eq_true ck
    clear ck
    go_wp2_with fail
    go_ret
    exact ⟨rfl, H2.out.bel⟩
  have d0 : decide ((key.size : Int) > 2147483647) = false := decide_eq_false ck
  clear ck
  have ya := six_cells (H2.out.get 0 rfl)
  have yb := six_cells (H2.out.get 1 rfl)
  go_wp2_with fail
  refine (HFI.out w2 H2.out.bel).mono ?_
  rintro e w3 ⟨r, rfl, hr, hb⟩
  have H3 := Lib.hid (H2.out.below hb)
  clear hb H2 ya yb HFI
  cases r with
  | false =>
    go_wp2_with fail
    go_ret
    exact ⟨rfl, H3.out.bel⟩
  | true =>
  have HW := Lib.hid (hr (by trivial))
  clear hr
  have ya := six_cells (H3.out.get 0 rfl)
  have yb := six_cells (H3.out.get 1 rfl)
  by_cases k1 : xa.f0 = 6
  case neg =>
    have q1 : (xa.f0 != 6) = true := by simpa using k1
    clear k1
    go_wp2_with fail
    go_ret
    exact ⟨rfl, H3.out.bel⟩
  have q1 : (xa.f0 != 6) = false := by simpa using k1
  by_cases k2 : xb.f0 = 6
  case neg =>
    have q2 : (xb.f0 != 6) = true := by simpa using k2
    clear k2
    go_wp2_with fail
    go_ret
    exact ⟨rfl, H3.out.bel⟩
  have q2 : (xb.f0 != 6) = false := by simpa using k2
  have HW1 := Lib.hid (loose HW.out.1)
  have HW2 := Lib.hid (loose HW.out.2)
  have HN : Hid (xa.f4.length + xb.f4.length ≤ 1000000) := Lib.hid (by have h1 := wf_n4 HW.out.1; have h2 := wf_n4 HW.out.2; omega)
  have HKK := Lib.hid (And.intro k1 k2)
  obtain ⟨m, hm⟩ : ∃ m, m = sumM xa xb := ⟨_, rfl⟩
  have HM : Hid (WL m ∧ Sz m ∧ m = sumM xa xb) := Lib.hid (by rw [hm]; exact ⟨wl_sumM HW1.out HW2.out HN.out, sz_sumM HSZ.out.1 HSZ.out.2, rfl⟩)
  have HOA := Lib.hid (fun L rs w1 (h : SPR w L rs w1) => opAdd_map w (HTa.out HW1.out) (HTb.out HW2.out) HW1.out HW2.out HSZ.out.1 HSZ.out.2 HKK.out.1 HKK.out.2 HN.out HM.out.2.2 h h.bel)
  have HGA := Lib.hid (HGa.out HW1.out)
  have HGB := Lib.hid (HGb.out HW2.out)
  have HHA := Lib.hid (HHa.out HW1.out)
  have HHB := Lib.hid (HHb.out HW2.out)
  clear k1 k2 hm HTa HTb HGa HGb HHa HHb
  go_wp2_with fail
  refine (HOA.out _ _ _ H3.out).mono ?_
  rintro e w4 ⟨cs, rfl, hS⟩
  obtain ⟨B3m, d3m, B4m, d4m, B5m, d5m, rfl⟩ := hS.cells 0 rfl
  have H4 := Lib.hid hS
  clear hS H3 ya yb
  have ya := six_cells (H4.out.get 0 rfl)
  have yb := six_cells (H4.out.get 1 rfl)
  have la := lt_of_heap (H4.out.get 0 rfl)
  have lb := lt_of_heap (H4.out.get 1 rfl)
  go_wp2_with fail
  obtain ⟨R, hR⟩ : ∃ R, R = w4.heap.size := ⟨_, rfl⟩
  obtain ⟨WR, hWR⟩ : ∃ WR, WR = w4.alloc (.cells #[.int .i64 m.f0, .int .i64 m.f1, .string m.f2, .slice B3m m.f3.length d3m, .slice B4m m.f4.length d4m, .slice B5m m.f5.length d5m, .int .i64 0] 30) := ⟨_, rfl⟩
  have hSR : SPR w [(A, cv xa A3a c3a A4a c4a A5a c5a, 26), (B, cv xb A3b c3b A4b c4b A5b c5b, 26), (R, rc m B3m d3m B4m d4m B5m d5m, 30)] [(m, rc m B3m d3m B4m d4m B5m d5m)] WR := by rw [hR, hWR]; exact H4.out.more _ _
  rw [← hWR, ← hR]
  have HR := Lib.hid hSR
  clear hSR hWR hR H4
  clear ya yb la lb
  obtain ⟨ga, hga⟩ : ∃ ga, ga = getV xa key := ⟨_, rfl⟩
  rw [← hga] at HGA
  have HG0 := Lib.hid hga
  clear hga
  refine (HGA.out _ HR.out.bel).mono ?_
  rintro e w5 ⟨B3p, d3p, B4p, d4p, B5p, d5p, rfl, hKp, hb⟩
  have HKp := Lib.hid hKp
  have H5 := Lib.hid (HR.out.below hb)
  clear hb HR hKp
  have ya := six_cells (H5.out.get 0 rfl)
  have yb := six_cells (H5.out.get 1 rfl)
  have la := lt_of_heap (H5.out.get 0 rfl)
  have lb := lt_of_heap (H5.out.get 1 rfl)
  go_wp2_with fail
  clear la lb
  obtain ⟨U, hU⟩ : ∃ U, U = w5.heap.size := ⟨_, rfl⟩
  obtain ⟨W5, hW5⟩ : ∃ W5, W5 = w5.alloc (.cells #[.int .i64 ga.f0, .int .i64 ga.f1, .string ga.f2, .slice B3p ga.f3.length d3p, .slice B4p ga.f4.length d4p, .slice B5p ga.f5.length d5p] 26) := ⟨_, rfl⟩
  have hS5 : SPR w [(A, cv xa A3a c3a A4a c4a A5a c5a, 26), (B, cv xb A3b c3b A4b c4b A5b c5b, 26), (R, rc m B3m d3m B4m d4m B5m d5m, 30), (U, cv ga B3p d3p B4p d4p B5p d5p, 26)] [(m, rc m B3m d3m B4m d4m B5m d5m)] W5 := by rw [hU, hW5]; exact H5.out.more _ _
  rw [← hW5]
  try rw [← hU]
  have H6 := Lib.hid hS5
  clear hS5 hW5 hU H5 ya yb
  refine (HHB.out _ H6.out.bel).mono ?_
  rintro e w6 ⟨rfl, hb⟩
  have H7 := Lib.hid (H6.out.below hb)
  clear hb H6
  have ya := six_cells (H7.out.get 0 rfl)
  have yb := six_cells (H7.out.get 1 rfl)
  have yr := sev_cells (H7.out.get 2 rfl)
  have yu := six_cells (H7.out.get 3 rfl)
  obtain ⟨gb, hgb⟩ : ∃ gb, gb = getV xb key := ⟨_, rfl⟩
  rw [← hgb] at HGB
  have HGG : Hid (ga = getV xa key ∧ gb = getV xb key) := Lib.hid ⟨HG0.out, hgb⟩
  clear hgb
  cases hB0 : hsV xb key with
  | false =>
    rw [hB0] at HHB
    clear ya yb yr yu
    cases hA0 : hsV xa key with
    | false =>
      rw [hA0] at HHA
      have HHM : Hid (∀ w1, SPR w [(A, cv xa A3a c3a A4a c4a A5a c5a, 26), (B, cv xb A3b c3b A4b c4b A5b c5b, 26), (R, rc m B3m d3m B4m d4m B5m d5m, 30), (U, cv ga B3p d3p B4p d4p B5p d5p, 26)] [(m, rc m B3m d3m B4m d4m B5m d5m)] w1 → Calls Tryz.prog 21 #[.agg #[.int .i64 m.f0, .int .i64 m.f1, .string m.f2, .slice B3m m.f3.length d3m, .slice B4m m.f4.length d4m, .slice B5m m.f5.length d5m], .string key] w1 fun e w' => e = .returned (.bool false) ∧ Below w1.heap.size w1 w') := Lib.hid (by
        intro w1 h
        have h1 := has_any w1 m HM.out.1 _ _ _ _ _ _ (h.held 0 rfl) key w1 (Below.refl _ _)
        have h2 : hsV m key = false := by rw [HM.out.2.2, sum_has HW2.out, hA0, hB0]; rfl
        rw [h2] at h1
        exact h1)
      obtain ⟨gm, hgm⟩ : ∃ gm, gm = getV m key := ⟨_, rfl⟩
      have HGM : Hid (gm = ga ∧ WL gm) := Lib.hid (by
        rw [hgm]
        refine ⟨?_, wl_getV HM.out.1 key⟩
        rw [HM.out.2.2, sum_getV HW2.out, hB0]
        exact HGG.out.1.symm)
      have HGR : Hid (∀ w1, SPR w [(A, cv xa A3a c3a A4a c4a A5a c5a, 26), (B, cv xb A3b c3b A4b c4b A5b c5b, 26), (R, rc m B3m d3m B4m d4m B5m d5m, 30), (U, cv ga B3p d3p B4p d4p B5p d5p, 26)] [(m, rc m B3m d3m B4m d4m B5m d5m)] w1 → Calls Tryz.prog 20 #[.agg #[.int .i64 m.f0, .int .i64 m.f1, .string m.f2, .slice B3m m.f3.length d3m, .slice B4m m.f4.length d4m, .slice B5m m.f5.length d5m], .string key] w1 (ReadAs w1 gm w1)) := Lib.hid (by
        intro w1 h
        rw [hgm]
        exact get_any w1 m HM.out.1 _ _ _ _ _ _ (h.held 0 rfl) key w1 (Below.refl _ _))
      have HSM : Hid (∀ w1 w2 {B3 B4 B5 : Option Addr} {d3 d4 d5 : Nat}, Below w.heap.size w w2 → Below w1.heap.size w1 w2 → k26.K w1 gm [.int .i64 gm.f0, .int .i64 gm.f1, .string gm.f2, .slice B3 gm.f3.length d3, .slice B4 gm.f4.length d4, .slice B5 gm.f5.length d5] → Calls Tryz.prog 22 #[.agg #[.int .i64 gm.f0, .int .i64 gm.f1, .string gm.f2, .slice B3 gm.f3.length d3, .slice B4 gm.f4.length d4, .slice B5 gm.f5.length d5], .agg #[.int .i64 ga.f0, .int .i64 ga.f1, .string ga.f2, .slice B3p ga.f3.length d3p, .slice B4p ga.f4.length d4p, .slice B5p ga.f5.length d5p]] w2 fun e w' => e = .returned (.bool true) ∧ Below w2.heap.size w2 w') := Lib.hid (by
        intro w1 w2 B3 B4 B5 d3 d4 d5 h0 h1 hk
        have h2 := same_any w2 gm ga HGM.out.2 (by rw [← HGM.out.1]; exact HGM.out.2) (K_below hk h1) (K_below HKp.out h0) w2 (Below.refl _ _)
        simp only [vl] at h2
        rw [show (cmpV gm ga == 0) = true by rw [HGM.out.1, cmpV_self]; rfl] at h2
        exact h2)
      clear hgm
      go_wp2_with fail
      refine start_ (n := 27) (S := fun w' => w'.cell? ⟨A, 0, none⟩ = some (.int .i64 xa.f0) ∧ w'.cell? ⟨A, 1, none⟩ = some (.int .i64 xa.f1) ∧ w'.cell? ⟨A, 2, none⟩ = some (.string xa.f2) ∧ w'.cell? ⟨A, 3, none⟩ = some (.slice A3a xa.f3.length c3a) ∧ w'.cell? ⟨A, 4, none⟩ = some (.slice A4a xa.f4.length c4a) ∧ w'.cell? ⟨A, 5, none⟩ = some (.slice A5a xa.f5.length c5a) ∧ w'.cell? ⟨B, 0, none⟩ = some (.int .i64 xb.f0) ∧ w'.cell? ⟨B, 1, none⟩ = some (.int .i64 xb.f1) ∧ w'.cell? ⟨B, 2, none⟩ = some (.string xb.f2) ∧ w'.cell? ⟨B, 3, none⟩ = some (.slice A3b xb.f3.length c3b) ∧ w'.cell? ⟨B, 4, none⟩ = some (.slice A4b xb.f4.length c4b) ∧ w'.cell? ⟨B, 5, none⟩ = some (.slice A5b xb.f5.length c5b) ∧ w'.cell? ⟨R, 0, none⟩ = some (.int .i64 m.f0) ∧ w'.cell? ⟨R, 1, none⟩ = some (.int .i64 m.f1) ∧ w'.cell? ⟨R, 2, none⟩ = some (.string m.f2) ∧ w'.cell? ⟨R, 3, none⟩ = some (.slice B3m m.f3.length d3m) ∧ w'.cell? ⟨R, 4, none⟩ = some (.slice B4m m.f4.length d4m) ∧ w'.cell? ⟨R, 5, none⟩ = some (.slice B5m m.f5.length d5m) ∧ w'.cell? ⟨R, 6, none⟩ = some (.int .i64 0) ∧ w'.cell? ⟨U, 0, none⟩ = some (.int .i64 ga.f0) ∧ w'.cell? ⟨U, 1, none⟩ = some (.int .i64 ga.f1) ∧ w'.cell? ⟨U, 2, none⟩ = some (.string ga.f2) ∧ w'.cell? ⟨U, 3, none⟩ = some (.slice B3p ga.f3.length d3p) ∧ w'.cell? ⟨U, 4, none⟩ = some (.slice B4p ga.f4.length d4p) ∧ w'.cell? ⟨U, 5, none⟩ = some (.slice B5p ga.f5.length d5p) ∧ SPR w [(A, cv xa A3a c3a A4a c4a A5a c5a, 26), (B, cv xb A3b c3b A4b c4b A5b c5b, 26), (R, rc m B3m d3m B4m d4m B5m d5m, 30), (U, cv ga B3p d3p B4p d4p B5p d5p, 26)] [(m, rc m B3m d3m B4m d4m B5m d5m)] w') (ds := []) #[false, false, false, false, false, false, false, false, false, false, false, false, false, false, false, false, false, false, false, false, false, false, false, false, false, false, false] (by kernel_rfl) rfl rfl ⟨((six_cells ((SPR.spl (SPR.drew H7.out)).get 0 rfl)).1), ((six_cells ((SPR.spl (SPR.drew H7.out)).get 0 rfl)).2.1), ((six_cells ((SPR.spl (SPR.drew H7.out)).get 0 rfl)).2.2.1), ((six_cells ((SPR.spl (SPR.drew H7.out)).get 0 rfl)).2.2.2.1), ((six_cells ((SPR.spl (SPR.drew H7.out)).get 0 rfl)).2.2.2.2.1), ((six_cells ((SPR.spl (SPR.drew H7.out)).get 0 rfl)).2.2.2.2.2.1), ((six_cells ((SPR.spl (SPR.drew H7.out)).get 1 rfl)).1), ((six_cells ((SPR.spl (SPR.drew H7.out)).get 1 rfl)).2.1), ((six_cells ((SPR.spl (SPR.drew H7.out)).get 1 rfl)).2.2.1), ((six_cells ((SPR.spl (SPR.drew H7.out)).get 1 rfl)).2.2.2.1), ((six_cells ((SPR.spl (SPR.drew H7.out)).get 1 rfl)).2.2.2.2.1), ((six_cells ((SPR.spl (SPR.drew H7.out)).get 1 rfl)).2.2.2.2.2.1), ((sev_cells ((SPR.spl (SPR.drew H7.out)).get 2 rfl)).1), ((sev_cells ((SPR.spl (SPR.drew H7.out)).get 2 rfl)).2.1), ((sev_cells ((SPR.spl (SPR.drew H7.out)).get 2 rfl)).2.2.1), ((sev_cells ((SPR.spl (SPR.drew H7.out)).get 2 rfl)).2.2.2.1), ((sev_cells ((SPR.spl (SPR.drew H7.out)).get 2 rfl)).2.2.2.2.1), ((sev_cells ((SPR.spl (SPR.drew H7.out)).get 2 rfl)).2.2.2.2.2.1), ((sev_cells ((SPR.spl (SPR.drew H7.out)).get 2 rfl)).2.2.2.2.2.2.1), ((six_cells ((SPR.spl (SPR.drew H7.out)).get 3 rfl)).1), ((six_cells ((SPR.spl (SPR.drew H7.out)).get 3 rfl)).2.1), ((six_cells ((SPR.spl (SPR.drew H7.out)).get 3 rfl)).2.2.1), ((six_cells ((SPR.spl (SPR.drew H7.out)).get 3 rfl)).2.2.2.1), ((six_cells ((SPR.spl (SPR.drew H7.out)).get 3 rfl)).2.2.2.2.1), ((six_cells ((SPR.spl (SPR.drew H7.out)).get 3 rfl)).2.2.2.2.2.1), (SPR.drew H7.out)⟩ (fun hHeld => ?_)
      refine pure_ (i := 0) (N := some 48) (v := ?_) (a' := ?_) #[true, false, false, false, false, false, false, false, false, false, false, false, false, false, false, false, false, false, false, false, false, false, false, false, false, false, false] rfl rfl (by kernel_rfl) (fun _ _ _ h => h) (Or.inl ⟨by rfl, ?_⟩) ?_ ?_
      rotate_left
      · intro w'
        go_simp
        with_reducible rfl
      rotate_left
      · simp only [Act.put, List.setIfInBounds_toArray, List.set_cons_zero, List.set_cons_succ, i64_w, i32_w]
        rfl
      refine take_ (i := 1) (N := some 49) (v := ?_) (a' := ?_) #[true, true, false, false, false, false, false, false, false, false, false, false, false, false, false, false, false, false, false, false, false, false, false, false, false, false, false] rfl rfl (by kernel_rfl) (fun _ _ _ h => h) (Or.inl ⟨by rfl, ?_⟩) hHeld ?_ ?_
      rotate_left
      · rintro w' ⟨s0, s1, s2, s3, s4, s5, s6, s7, s8, s9, s10, s11, s12, s13, s14, s15, s16, s17, s18, s19, s20, s21, s22, s23, s24, s25⟩
        go_simp
        with_reducible rfl
      rotate_left
      · simp only [Act.put, List.setIfInBounds_toArray, List.set_cons_zero, List.set_cons_succ, i64_w, i32_w]
        rfl
      refine pure_ (i := 2) (N := some 50) (v := ?_) (a' := ?_) #[true, true, true, false, false, false, false, false, false, false, false, false, false, false, false, false, false, false, false, false, false, false, false, false, false, false, false] rfl rfl (by kernel_rfl) (fun _ _ _ h => h) (Or.inl ⟨by rfl, ?_⟩) ?_ ?_
      rotate_left
      · intro w'
        go_simp
        with_reducible rfl
      rotate_left
      · simp only [Act.put, List.setIfInBounds_toArray, List.set_cons_zero, List.set_cons_succ, i64_w, i32_w]
        rfl
      refine pure_ (i := 3) (N := some 51) (v := ?_) (a' := ?_) #[true, true, true, true, false, false, false, false, false, false, false, false, false, false, false, false, false, false, false, false, false, false, false, false, false, false, false] rfl rfl (by kernel_rfl) (fun _ _ _ h => h) (Or.inl ⟨by rfl, ?_⟩) ?_ ?_
      rotate_left
      · intro w'
        go_simp
        with_reducible rfl
      rotate_left
      · simp only [Act.put, List.setIfInBounds_toArray, List.set_cons_zero, List.set_cons_succ, i64_w, i32_w]
        rfl
      refine pure_ (i := 4) (N := some 52) (v := ?_) (a' := ?_) #[true, true, true, true, true, false, false, false, false, false, false, false, false, false, false, false, false, false, false, false, false, false, false, false, false, false, false] rfl rfl (by kernel_rfl) (fun _ _ _ h => h) (Or.inl ⟨by rfl, ?_⟩) ?_ ?_
      rotate_left
      · intro w'
        go_simp
        with_reducible rfl
      rotate_left
      · simp only [Act.put, List.setIfInBounds_toArray, List.set_cons_zero, List.set_cons_succ, i64_w, i32_w]
        rfl
      refine pure_ (i := 6) (N := some 54) (v := ?_) (a' := ?_) #[true, true, true, true, true, false, true, false, false, false, false, false, false, false, false, false, false, false, false, false, false, false, false, false, false, false, false] rfl rfl (by kernel_rfl) (fun _ _ _ h => h) (Or.inl ⟨by rfl, ?_⟩) ?_ ?_
      rotate_left
      · intro w'
        go_simp
        with_reducible rfl
      rotate_left
      · simp only [Act.put, List.setIfInBounds_toArray, List.set_cons_zero, List.set_cons_succ, i64_w, i32_w]
        rfl
      refine pure_ (i := 9) (N := some 57) (v := ?_) (a' := ?_) #[true, true, true, true, true, false, true, false, false, true, false, false, false, false, false, false, false, false, false, false, false, false, false, false, false, false, false] rfl rfl (by kernel_rfl) (fun _ _ _ h => h) (Or.inl ⟨by rfl, ?_⟩) ?_ ?_
      rotate_left
      · intro w'
        go_simp
        with_reducible rfl
      rotate_left
      · simp only [Act.put, List.setIfInBounds_toArray, List.set_cons_zero, List.set_cons_succ, i64_w, i32_w]
        rfl
      refine take_ (i := 5) (N := some 53) (v := ?_) (a' := ?_) #[true, true, true, true, true, true, true, false, false, true, false, false, false, false, false, false, false, false, false, false, false, false, false, false, false, false, false] rfl rfl (by kernel_rfl) (fun _ _ _ h => h) (Or.inl ⟨by rfl, ?_⟩) hHeld ?_ ?_
      rotate_left
      · rintro w' ⟨s0, s1, s2, s3, s4, s5, s6, s7, s8, s9, s10, s11, s12, s13, s14, s15, s16, s17, s18, s19, s20, s21, s22, s23, s24, s25⟩
        go_simp
        with_reducible rfl
      rotate_left
      · simp only [Act.put, List.setIfInBounds_toArray, List.set_cons_zero, List.set_cons_succ, i64_w, i32_w]
        rfl
      refine take_ (i := 8) (N := some 56) (v := ?_) (a' := ?_) #[true, true, true, true, true, true, true, false, true, true, false, false, false, false, false, false, false, false, false, false, false, false, false, false, false, false, false] rfl rfl (by kernel_rfl) (fun _ _ _ h => h) (Or.inl ⟨by rfl, ?_⟩) hHeld ?_ ?_
      rotate_left
      · rintro w' ⟨s0, s1, s2, s3, s4, s5, s6, s7, s8, s9, s10, s11, s12, s13, s14, s15, s16, s17, s18, s19, s20, s21, s22, s23, s24, s25⟩
        go_simp
        with_reducible rfl
      rotate_left
      · simp only [Act.put, List.setIfInBounds_toArray, List.set_cons_zero, List.set_cons_succ, i64_w, i32_w]
        rfl
      refine one_ (i := 7) (N := some 55) #[true, true, true, true, true, true, true, true, true, true, false, false, false, false, false, false, false, false, false, false, false, false, false, false, false, false, false] rfl rfl (by kernel_rfl) (by decide) (fun K hK => ?_)
      refine goes_ Tryz.func21 (by kernel_rfl) rfl #[.agg #[.int .i64 m.f0, .int .i64 m.f1, .string m.f2, .slice B3m m.f3.length d3m, .slice B4m m.f4.length d4m, .slice B5m m.f5.length d5m], .string key] (by rfl) rfl rfl (by simp only [List.map_toArray, List.map_cons, List.map_nil]; rfl) ?_
      with_reducible refine ((HHM.out _ (hHeld.2.2.2.2.2.2.2.2.2.2.2.2.2.2.2.2.2.2.2.2.2.2.2.2.2))).mono ?_
      rintro e w21 ⟨rfl, hb⟩
      refine ⟨_, rfl, ?_⟩
      have hz1 := SPR.below (hHeld.2.2.2.2.2.2.2.2.2.2.2.2.2.2.2.2.2.2.2.2.2.2.2.2.2) hb
      refine hK.out _ _ ⟨((six_cells ((SPR.spl hz1).get 0 rfl)).1), ((six_cells ((SPR.spl hz1).get 0 rfl)).2.1), ((six_cells ((SPR.spl hz1).get 0 rfl)).2.2.1), ((six_cells ((SPR.spl hz1).get 0 rfl)).2.2.2.1), ((six_cells ((SPR.spl hz1).get 0 rfl)).2.2.2.2.1), ((six_cells ((SPR.spl hz1).get 0 rfl)).2.2.2.2.2.1), ((six_cells ((SPR.spl hz1).get 1 rfl)).1), ((six_cells ((SPR.spl hz1).get 1 rfl)).2.1), ((six_cells ((SPR.spl hz1).get 1 rfl)).2.2.1), ((six_cells ((SPR.spl hz1).get 1 rfl)).2.2.2.1), ((six_cells ((SPR.spl hz1).get 1 rfl)).2.2.2.2.1), ((six_cells ((SPR.spl hz1).get 1 rfl)).2.2.2.2.2.1), ((sev_cells ((SPR.spl hz1).get 2 rfl)).1), ((sev_cells ((SPR.spl hz1).get 2 rfl)).2.1), ((sev_cells ((SPR.spl hz1).get 2 rfl)).2.2.1), ((sev_cells ((SPR.spl hz1).get 2 rfl)).2.2.2.1), ((sev_cells ((SPR.spl hz1).get 2 rfl)).2.2.2.2.1), ((sev_cells ((SPR.spl hz1).get 2 rfl)).2.2.2.2.2.1), ((sev_cells ((SPR.spl hz1).get 2 rfl)).2.2.2.2.2.2.1), ((six_cells ((SPR.spl hz1).get 3 rfl)).1), ((six_cells ((SPR.spl hz1).get 3 rfl)).2.1), ((six_cells ((SPR.spl hz1).get 3 rfl)).2.2.1), ((six_cells ((SPR.spl hz1).get 3 rfl)).2.2.2.1), ((six_cells ((SPR.spl hz1).get 3 rfl)).2.2.2.2.1), ((six_cells ((SPR.spl hz1).get 3 rfl)).2.2.2.2.2.1), hz1⟩ (fun hHeld => ?_)
      clear hK K
      refine norm_ (a' := ?_) ?_ ?_
      rotate_left
      · show Act.put _ (some 55) _ = _
        simp only [Act.put, List.setIfInBounds_toArray, List.set_cons_zero, List.set_cons_succ, i64_w, i32_w]
        rfl
      refine one_ (i := 10) (N := some 58) #[true, true, true, true, true, true, true, true, true, true, true, false, false, false, false, false, false, false, false, false, false, false, false, false, false, false, false] rfl rfl (by kernel_rfl) (by decide) (fun K hK => ?_)
      refine goes_ Tryz.func21 (by kernel_rfl) rfl #[.agg #[.int .i64 xa.f0, .int .i64 xa.f1, .string xa.f2, .slice A3a xa.f3.length c3a, .slice A4a xa.f4.length c4a, .slice A5a xa.f5.length c5a], .string key] (by rfl) rfl rfl (by simp only [List.map_toArray, List.map_cons, List.map_nil]; rfl) ?_
      with_reducible refine ((HHA.out _ (SPR.bel hz1))).mono ?_
      rintro e w22 ⟨rfl, hb⟩
      refine ⟨_, rfl, ?_⟩
      have hz2 := SPR.below hz1 hb
      refine hK.out _ _ ⟨((six_cells ((SPR.spl hz2).get 0 rfl)).1), ((six_cells ((SPR.spl hz2).get 0 rfl)).2.1), ((six_cells ((SPR.spl hz2).get 0 rfl)).2.2.1), ((six_cells ((SPR.spl hz2).get 0 rfl)).2.2.2.1), ((six_cells ((SPR.spl hz2).get 0 rfl)).2.2.2.2.1), ((six_cells ((SPR.spl hz2).get 0 rfl)).2.2.2.2.2.1), ((six_cells ((SPR.spl hz2).get 1 rfl)).1), ((six_cells ((SPR.spl hz2).get 1 rfl)).2.1), ((six_cells ((SPR.spl hz2).get 1 rfl)).2.2.1), ((six_cells ((SPR.spl hz2).get 1 rfl)).2.2.2.1), ((six_cells ((SPR.spl hz2).get 1 rfl)).2.2.2.2.1), ((six_cells ((SPR.spl hz2).get 1 rfl)).2.2.2.2.2.1), ((sev_cells ((SPR.spl hz2).get 2 rfl)).1), ((sev_cells ((SPR.spl hz2).get 2 rfl)).2.1), ((sev_cells ((SPR.spl hz2).get 2 rfl)).2.2.1), ((sev_cells ((SPR.spl hz2).get 2 rfl)).2.2.2.1), ((sev_cells ((SPR.spl hz2).get 2 rfl)).2.2.2.2.1), ((sev_cells ((SPR.spl hz2).get 2 rfl)).2.2.2.2.2.1), ((sev_cells ((SPR.spl hz2).get 2 rfl)).2.2.2.2.2.2.1), ((six_cells ((SPR.spl hz2).get 3 rfl)).1), ((six_cells ((SPR.spl hz2).get 3 rfl)).2.1), ((six_cells ((SPR.spl hz2).get 3 rfl)).2.2.1), ((six_cells ((SPR.spl hz2).get 3 rfl)).2.2.2.1), ((six_cells ((SPR.spl hz2).get 3 rfl)).2.2.2.2.1), ((six_cells ((SPR.spl hz2).get 3 rfl)).2.2.2.2.2.1), hz2⟩ (fun hHeld => ?_)
      clear hK K
      refine norm_ (a' := ?_) ?_ ?_
      rotate_left
      · show Act.put _ (some 58) _ = _
        simp only [Act.put, List.setIfInBounds_toArray, List.set_cons_zero, List.set_cons_succ, i64_w, i32_w]
        rfl
      refine pure_ (i := 11) (N := some 59) (v := ?_) (a' := ?_) #[true, true, true, true, true, true, true, true, true, true, true, true, false, false, false, false, false, false, false, false, false, false, false, false, false, false, false] rfl rfl (by kernel_rfl) (fun _ _ _ h => h) (Or.inl ⟨by rfl, ?_⟩) ?_ ?_
      rotate_left
      · intro w'
        go_simp
        with_reducible rfl
      rotate_left
      · simp only [Act.put, List.setIfInBounds_toArray, List.set_cons_zero, List.set_cons_succ, i64_w, i32_w]
        rfl
      refine pure_ (i := 13) (N := some 61) (v := ?_) (a' := ?_) #[true, true, true, true, true, true, true, true, true, true, true, true, false, true, false, false, false, false, false, false, false, false, false, false, false, false, false] rfl rfl (by kernel_rfl) (fun _ _ _ h => h) (Or.inl ⟨by rfl, ?_⟩) ?_ ?_
      rotate_left
      · intro w'
        go_simp
        with_reducible rfl
      rotate_left
      · simp only [Act.put, List.setIfInBounds_toArray, List.set_cons_zero, List.set_cons_succ, i64_w, i32_w]
        rfl
      refine take_ (i := 12) (N := some 60) (v := ?_) (a' := ?_) #[true, true, true, true, true, true, true, true, true, true, true, true, true, true, false, false, false, false, false, false, false, false, false, false, false, false, false] rfl rfl (by kernel_rfl) (fun _ _ _ h => h) (Or.inl ⟨by rfl, ?_⟩) hHeld ?_ ?_
      rotate_left
      · rintro w' ⟨s0, s1, s2, s3, s4, s5, s6, s7, s8, s9, s10, s11, s12, s13, s14, s15, s16, s17, s18, s19, s20, s21, s22, s23, s24, s25⟩
        go_simp
        with_reducible rfl
      rotate_left
      · simp only [Act.put, List.setIfInBounds_toArray, List.set_cons_zero, List.set_cons_succ, i64_w, i32_w]
        rfl
      refine one_ (i := 14) (N := some 62) #[true, true, true, true, true, true, true, true, true, true, true, true, true, true, true, false, false, false, false, false, false, false, false, false, false, false, false] rfl rfl (by kernel_rfl) (by decide) (fun K hK => ?_)
      refine goes_ Tryz.func21 (by kernel_rfl) rfl #[.agg #[.int .i64 xb.f0, .int .i64 xb.f1, .string xb.f2, .slice A3b xb.f3.length c3b, .slice A4b xb.f4.length c4b, .slice A5b xb.f5.length c5b], .string key] (by rfl) rfl rfl (by simp only [List.map_toArray, List.map_cons, List.map_nil]; rfl) ?_
      with_reducible refine ((HHB.out _ (SPR.bel hz2))).mono ?_
      rintro e w23 ⟨rfl, hb⟩
      refine ⟨_, rfl, ?_⟩
      have hz3 := SPR.below hz2 hb
      refine hK.out _ _ ⟨((six_cells ((SPR.spl hz3).get 0 rfl)).1), ((six_cells ((SPR.spl hz3).get 0 rfl)).2.1), ((six_cells ((SPR.spl hz3).get 0 rfl)).2.2.1), ((six_cells ((SPR.spl hz3).get 0 rfl)).2.2.2.1), ((six_cells ((SPR.spl hz3).get 0 rfl)).2.2.2.2.1), ((six_cells ((SPR.spl hz3).get 0 rfl)).2.2.2.2.2.1), ((six_cells ((SPR.spl hz3).get 1 rfl)).1), ((six_cells ((SPR.spl hz3).get 1 rfl)).2.1), ((six_cells ((SPR.spl hz3).get 1 rfl)).2.2.1), ((six_cells ((SPR.spl hz3).get 1 rfl)).2.2.2.1), ((six_cells ((SPR.spl hz3).get 1 rfl)).2.2.2.2.1), ((six_cells ((SPR.spl hz3).get 1 rfl)).2.2.2.2.2.1), ((sev_cells ((SPR.spl hz3).get 2 rfl)).1), ((sev_cells ((SPR.spl hz3).get 2 rfl)).2.1), ((sev_cells ((SPR.spl hz3).get 2 rfl)).2.2.1), ((sev_cells ((SPR.spl hz3).get 2 rfl)).2.2.2.1), ((sev_cells ((SPR.spl hz3).get 2 rfl)).2.2.2.2.1), ((sev_cells ((SPR.spl hz3).get 2 rfl)).2.2.2.2.2.1), ((sev_cells ((SPR.spl hz3).get 2 rfl)).2.2.2.2.2.2.1), ((six_cells ((SPR.spl hz3).get 3 rfl)).1), ((six_cells ((SPR.spl hz3).get 3 rfl)).2.1), ((six_cells ((SPR.spl hz3).get 3 rfl)).2.2.1), ((six_cells ((SPR.spl hz3).get 3 rfl)).2.2.2.1), ((six_cells ((SPR.spl hz3).get 3 rfl)).2.2.2.2.1), ((six_cells ((SPR.spl hz3).get 3 rfl)).2.2.2.2.2.1), hz3⟩ (fun hHeld => ?_)
      clear hK K
      refine norm_ (a' := ?_) ?_ ?_
      rotate_left
      · show Act.put _ (some 62) _ = _
        simp only [Act.put, List.setIfInBounds_toArray, List.set_cons_zero, List.set_cons_succ, i64_w, i32_w]
        rfl
      refine pure_ (i := 15) (N := some 63) (v := ?_) (a' := ?_) #[true, true, true, true, true, true, true, true, true, true, true, true, true, true, true, true, false, false, false, false, false, false, false, false, false, false, false] rfl rfl (by kernel_rfl) (fun _ _ _ h => h) (Or.inl ⟨by rfl, ?_⟩) ?_ ?_
      rotate_left
      · intro w'
        go_simp
        with_reducible rfl
      rotate_left
      · simp only [Act.put, List.setIfInBounds_toArray, List.set_cons_zero, List.set_cons_succ, i64_w, i32_w]
        rfl
      refine pure_ (i := 16) (N := some 64) (v := ?_) (a' := ?_) #[true, true, true, true, true, true, true, true, true, true, true, true, true, true, true, true, true, false, false, false, false, false, false, false, false, false, false] rfl rfl (by kernel_rfl) (fun _ _ _ h => h) (Or.inl ⟨by rfl, ?_⟩) ?_ ?_
      rotate_left
      · intro w'
        go_simp
        with_reducible rfl
      rotate_left
      · simp only [Act.put, List.setIfInBounds_toArray, List.set_cons_zero, List.set_cons_succ, i64_w, i32_w]
        rfl
      refine pure_ (i := 17) (N := some 65) (v := ?_) (a' := ?_) #[true, true, true, true, true, true, true, true, true, true, true, true, true, true, true, true, true, true, false, false, false, false, false, false, false, false, false] rfl rfl (by kernel_rfl) (fun _ _ _ h => h) (Or.inl ⟨by rfl, ?_⟩) ?_ ?_
      rotate_left
      · intro w'
        go_simp
        with_reducible rfl
      rotate_left
      · simp only [Act.put, List.setIfInBounds_toArray, List.set_cons_zero, List.set_cons_succ, i64_w, i32_w]
        rfl
      refine pure_ (i := 18) (N := some 66) (v := ?_) (a' := ?_) #[true, true, true, true, true, true, true, true, true, true, true, true, true, true, true, true, true, true, true, false, false, false, false, false, false, false, false] rfl rfl (by kernel_rfl) (fun _ _ _ h => h) (Or.inl ⟨by rfl, ?_⟩) ?_ ?_
      rotate_left
      · intro w'
        go_simp
        with_reducible rfl
      rotate_left
      · simp only [Act.put, List.setIfInBounds_toArray, List.set_cons_zero, List.set_cons_succ, i64_w, i32_w]
        rfl
      refine pure_ (i := 19) (N := some 67) (v := ?_) (a' := ?_) #[true, true, true, true, true, true, true, true, true, true, true, true, true, true, true, true, true, true, true, true, false, false, false, false, false, false, false] rfl rfl (by kernel_rfl) (fun _ _ _ h => h) (Or.inl ⟨by rfl, ?_⟩) ?_ ?_
      rotate_left
      · intro w'
        go_simp
        with_reducible rfl
      rotate_left
      · simp only [Act.put, List.setIfInBounds_toArray, List.set_cons_zero, List.set_cons_succ, i64_w, i32_w]
        rfl
      refine pure_ (i := 21) (N := some 69) (v := ?_) (a' := ?_) #[true, true, true, true, true, true, true, true, true, true, true, true, true, true, true, true, true, true, true, true, false, true, false, false, false, false, false] rfl rfl (by kernel_rfl) (fun _ _ _ h => h) (Or.inl ⟨by rfl, ?_⟩) ?_ ?_
      rotate_left
      · intro w'
        go_simp
        with_reducible rfl
      rotate_left
      · simp only [Act.put, List.setIfInBounds_toArray, List.set_cons_zero, List.set_cons_succ, i64_w, i32_w]
        rfl
      refine take_ (i := 20) (N := some 68) (v := ?_) (a' := ?_) #[true, true, true, true, true, true, true, true, true, true, true, true, true, true, true, true, true, true, true, true, true, true, false, false, false, false, false] rfl rfl (by kernel_rfl) (fun _ _ _ h => h) (Or.inl ⟨by rfl, ?_⟩) hHeld ?_ ?_
      rotate_left
      · rintro w' ⟨s0, s1, s2, s3, s4, s5, s6, s7, s8, s9, s10, s11, s12, s13, s14, s15, s16, s17, s18, s19, s20, s21, s22, s23, s24, s25⟩
        go_simp
        with_reducible rfl
      rotate_left
      · simp only [Act.put, List.setIfInBounds_toArray, List.set_cons_zero, List.set_cons_succ, i64_w, i32_w]
        rfl
      refine take_ (i := 23) (N := some 71) (v := ?_) (a' := ?_) #[true, true, true, true, true, true, true, true, true, true, true, true, true, true, true, true, true, true, true, true, true, true, false, true, false, false, false] rfl rfl (by kernel_rfl) (fun _ _ _ h => h) (Or.inl ⟨by rfl, ?_⟩) hHeld ?_ ?_
      rotate_left
      · rintro w' ⟨s0, s1, s2, s3, s4, s5, s6, s7, s8, s9, s10, s11, s12, s13, s14, s15, s16, s17, s18, s19, s20, s21, s22, s23, s24, s25⟩
        go_simp
        with_reducible rfl
      rotate_left
      · simp only [Act.put, List.setIfInBounds_toArray, List.set_cons_zero, List.set_cons_succ, i64_w, i32_w]
        rfl
      refine one_ (i := 22) (N := some 70) #[true, true, true, true, true, true, true, true, true, true, true, true, true, true, true, true, true, true, true, true, true, true, true, true, false, false, false] rfl rfl (by kernel_rfl) (by decide) (fun K hK => ?_)
      refine goes_ Tryz.func20 (by kernel_rfl) rfl #[.agg #[.int .i64 m.f0, .int .i64 m.f1, .string m.f2, .slice B3m m.f3.length d3m, .slice B4m m.f4.length d4m, .slice B5m m.f5.length d5m], .string key] (by rfl) rfl rfl (by simp only [List.map_toArray, List.map_cons, List.map_nil]; rfl) ?_
      with_reducible refine ((HGR.out _ hz3)).mono ?_
      rintro e w24 ⟨B3v, d3v, B4v, d4v, B5v, d5v, rfl, hKv, hb⟩
      refine ⟨_, rfl, ?_⟩
      have hz4 := SPR.below hz3 hb
      refine hK.out _ _ ⟨((six_cells ((SPR.spl hz4).get 0 rfl)).1), ((six_cells ((SPR.spl hz4).get 0 rfl)).2.1), ((six_cells ((SPR.spl hz4).get 0 rfl)).2.2.1), ((six_cells ((SPR.spl hz4).get 0 rfl)).2.2.2.1), ((six_cells ((SPR.spl hz4).get 0 rfl)).2.2.2.2.1), ((six_cells ((SPR.spl hz4).get 0 rfl)).2.2.2.2.2.1), ((six_cells ((SPR.spl hz4).get 1 rfl)).1), ((six_cells ((SPR.spl hz4).get 1 rfl)).2.1), ((six_cells ((SPR.spl hz4).get 1 rfl)).2.2.1), ((six_cells ((SPR.spl hz4).get 1 rfl)).2.2.2.1), ((six_cells ((SPR.spl hz4).get 1 rfl)).2.2.2.2.1), ((six_cells ((SPR.spl hz4).get 1 rfl)).2.2.2.2.2.1), ((sev_cells ((SPR.spl hz4).get 2 rfl)).1), ((sev_cells ((SPR.spl hz4).get 2 rfl)).2.1), ((sev_cells ((SPR.spl hz4).get 2 rfl)).2.2.1), ((sev_cells ((SPR.spl hz4).get 2 rfl)).2.2.2.1), ((sev_cells ((SPR.spl hz4).get 2 rfl)).2.2.2.2.1), ((sev_cells ((SPR.spl hz4).get 2 rfl)).2.2.2.2.2.1), ((sev_cells ((SPR.spl hz4).get 2 rfl)).2.2.2.2.2.2.1), ((six_cells ((SPR.spl hz4).get 3 rfl)).1), ((six_cells ((SPR.spl hz4).get 3 rfl)).2.1), ((six_cells ((SPR.spl hz4).get 3 rfl)).2.2.1), ((six_cells ((SPR.spl hz4).get 3 rfl)).2.2.2.1), ((six_cells ((SPR.spl hz4).get 3 rfl)).2.2.2.2.1), ((six_cells ((SPR.spl hz4).get 3 rfl)).2.2.2.2.2.1), hz4⟩ (fun hHeld => ?_)
      clear hK K
      refine norm_ (a' := ?_) ?_ ?_
      rotate_left
      · show Act.put _ (some 70) _ = _
        simp only [Act.put, List.setIfInBounds_toArray, List.set_cons_zero, List.set_cons_succ, i64_w, i32_w]
        rfl
      refine one_ (i := 24) (N := some 72) #[true, true, true, true, true, true, true, true, true, true, true, true, true, true, true, true, true, true, true, true, true, true, true, true, true, false, false] rfl rfl (by kernel_rfl) (by decide) (fun K hK => ?_)
      refine goes_ Tryz.func22 (by kernel_rfl) rfl #[.agg #[.int .i64 gm.f0, .int .i64 gm.f1, .string gm.f2, .slice B3v gm.f3.length d3v, .slice B4v gm.f4.length d4v, .slice B5v gm.f5.length d5v], .agg #[.int .i64 ga.f0, .int .i64 ga.f1, .string ga.f2, .slice B3p ga.f3.length d3p, .slice B4p ga.f4.length d4p, .slice B5p ga.f5.length d5p]] (by rfl) rfl rfl (by simp only [List.map_toArray, List.map_cons, List.map_nil]; rfl) ?_
      with_reducible refine ((HSM.out _ _ (SPR.bel hz4) hb hKv)).mono ?_
      rintro e w25 ⟨rfl, hb2⟩
      refine ⟨_, rfl, ?_⟩
      have hz5 := SPR.below hz4 hb2
      refine hK.out _ _ ⟨((six_cells ((SPR.spl hz5).get 0 rfl)).1), ((six_cells ((SPR.spl hz5).get 0 rfl)).2.1), ((six_cells ((SPR.spl hz5).get 0 rfl)).2.2.1), ((six_cells ((SPR.spl hz5).get 0 rfl)).2.2.2.1), ((six_cells ((SPR.spl hz5).get 0 rfl)).2.2.2.2.1), ((six_cells ((SPR.spl hz5).get 0 rfl)).2.2.2.2.2.1), ((six_cells ((SPR.spl hz5).get 1 rfl)).1), ((six_cells ((SPR.spl hz5).get 1 rfl)).2.1), ((six_cells ((SPR.spl hz5).get 1 rfl)).2.2.1), ((six_cells ((SPR.spl hz5).get 1 rfl)).2.2.2.1), ((six_cells ((SPR.spl hz5).get 1 rfl)).2.2.2.2.1), ((six_cells ((SPR.spl hz5).get 1 rfl)).2.2.2.2.2.1), ((sev_cells ((SPR.spl hz5).get 2 rfl)).1), ((sev_cells ((SPR.spl hz5).get 2 rfl)).2.1), ((sev_cells ((SPR.spl hz5).get 2 rfl)).2.2.1), ((sev_cells ((SPR.spl hz5).get 2 rfl)).2.2.2.1), ((sev_cells ((SPR.spl hz5).get 2 rfl)).2.2.2.2.1), ((sev_cells ((SPR.spl hz5).get 2 rfl)).2.2.2.2.2.1), ((sev_cells ((SPR.spl hz5).get 2 rfl)).2.2.2.2.2.2.1), ((six_cells ((SPR.spl hz5).get 3 rfl)).1), ((six_cells ((SPR.spl hz5).get 3 rfl)).2.1), ((six_cells ((SPR.spl hz5).get 3 rfl)).2.2.1), ((six_cells ((SPR.spl hz5).get 3 rfl)).2.2.2.1), ((six_cells ((SPR.spl hz5).get 3 rfl)).2.2.2.2.1), ((six_cells ((SPR.spl hz5).get 3 rfl)).2.2.2.2.2.1), hz5⟩ (fun hHeld => ?_)
      clear hK K
      refine norm_ (a' := ?_) ?_ ?_
      rotate_left
      · show Act.put _ (some 72) _ = _
        simp only [Act.put, List.setIfInBounds_toArray, List.set_cons_zero, List.set_cons_succ, i64_w, i32_w]
        rfl
      refine pure_ (i := 25) (N := some 73) (v := ?_) (a' := ?_) #[true, true, true, true, true, true, true, true, true, true, true, true, true, true, true, true, true, true, true, true, true, true, true, true, true, true, false] rfl rfl (by kernel_rfl) (fun _ _ _ h => h) (Or.inl ⟨by rfl, ?_⟩) ?_ ?_
      rotate_left
      · intro w'
        go_simp
        with_reducible rfl
      rotate_left
      · simp only [Act.put, List.setIfInBounds_toArray, List.set_cons_zero, List.set_cons_succ, i64_w, i32_w]
        rfl
      refine pure_ (i := 26) (N := some 6) (v := ?_) (a' := ?_) #[true, true, true, true, true, true, true, true, true, true, true, true, true, true, true, true, true, true, true, true, true, true, true, true, true, true, true] rfl rfl (by kernel_rfl) (fun _ _ _ h => h) (Or.inl ⟨by rfl, ?_⟩) ?_ ?_
      rotate_left
      · intro w'
        go_simp
        with_reducible rfl
      rotate_left
      · simp only [Act.put, List.setIfInBounds_toArray, List.set_cons_zero, List.set_cons_succ, i64_w, i32_w]
        rfl
      refine done_ (by kernel_rfl) ?_
      go_wp2_with fail
      go_ret
      exact ⟨rfl, hz5.bel⟩
    | true =>
      rw [hA0] at HHA
      have HHM : Hid (∀ w1, SPR w [(A, cv xa A3a c3a A4a c4a A5a c5a, 26), (B, cv xb A3b c3b A4b c4b A5b c5b, 26), (R, rc m B3m d3m B4m d4m B5m d5m, 30), (U, cv ga B3p d3p B4p d4p B5p d5p, 26)] [(m, rc m B3m d3m B4m d4m B5m d5m)] w1 → Calls Tryz.prog 21 #[.agg #[.int .i64 m.f0, .int .i64 m.f1, .string m.f2, .slice B3m m.f3.length d3m, .slice B4m m.f4.length d4m, .slice B5m m.f5.length d5m], .string key] w1 fun e w' => e = .returned (.bool true) ∧ Below w1.heap.size w1 w') := Lib.hid (by
        intro w1 h
        have h1 := has_any w1 m HM.out.1 _ _ _ _ _ _ (h.held 0 rfl) key w1 (Below.refl _ _)
        have h2 : hsV m key = true := by rw [HM.out.2.2, sum_has HW2.out, hA0, hB0]; rfl
        rw [h2] at h1
        exact h1)
      obtain ⟨gm, hgm⟩ : ∃ gm, gm = getV m key := ⟨_, rfl⟩
      have HGM : Hid (gm = ga ∧ WL gm) := Lib.hid (by
        rw [hgm]
        refine ⟨?_, wl_getV HM.out.1 key⟩
        rw [HM.out.2.2, sum_getV HW2.out, hB0]
        exact HGG.out.1.symm)
      have HGR : Hid (∀ w1, SPR w [(A, cv xa A3a c3a A4a c4a A5a c5a, 26), (B, cv xb A3b c3b A4b c4b A5b c5b, 26), (R, rc m B3m d3m B4m d4m B5m d5m, 30), (U, cv ga B3p d3p B4p d4p B5p d5p, 26)] [(m, rc m B3m d3m B4m d4m B5m d5m)] w1 → Calls Tryz.prog 20 #[.agg #[.int .i64 m.f0, .int .i64 m.f1, .string m.f2, .slice B3m m.f3.length d3m, .slice B4m m.f4.length d4m, .slice B5m m.f5.length d5m], .string key] w1 (ReadAs w1 gm w1)) := Lib.hid (by
        intro w1 h
        rw [hgm]
        exact get_any w1 m HM.out.1 _ _ _ _ _ _ (h.held 0 rfl) key w1 (Below.refl _ _))
      have HSM : Hid (∀ w1 w2 {B3 B4 B5 : Option Addr} {d3 d4 d5 : Nat}, Below w.heap.size w w2 → Below w1.heap.size w1 w2 → k26.K w1 gm [.int .i64 gm.f0, .int .i64 gm.f1, .string gm.f2, .slice B3 gm.f3.length d3, .slice B4 gm.f4.length d4, .slice B5 gm.f5.length d5] → Calls Tryz.prog 22 #[.agg #[.int .i64 gm.f0, .int .i64 gm.f1, .string gm.f2, .slice B3 gm.f3.length d3, .slice B4 gm.f4.length d4, .slice B5 gm.f5.length d5], .agg #[.int .i64 ga.f0, .int .i64 ga.f1, .string ga.f2, .slice B3p ga.f3.length d3p, .slice B4p ga.f4.length d4p, .slice B5p ga.f5.length d5p]] w2 fun e w' => e = .returned (.bool true) ∧ Below w2.heap.size w2 w') := Lib.hid (by
        intro w1 w2 B3 B4 B5 d3 d4 d5 h0 h1 hk
        have h2 := same_any w2 gm ga HGM.out.2 (by rw [← HGM.out.1]; exact HGM.out.2) (K_below hk h1) (K_below HKp.out h0) w2 (Below.refl _ _)
        simp only [vl] at h2
        rw [show (cmpV gm ga == 0) = true by rw [HGM.out.1, cmpV_self]; rfl] at h2
        exact h2)
      clear hgm
      go_wp2_with fail
      refine start_ (n := 27) (S := fun w' => w'.cell? ⟨A, 0, none⟩ = some (.int .i64 xa.f0) ∧ w'.cell? ⟨A, 1, none⟩ = some (.int .i64 xa.f1) ∧ w'.cell? ⟨A, 2, none⟩ = some (.string xa.f2) ∧ w'.cell? ⟨A, 3, none⟩ = some (.slice A3a xa.f3.length c3a) ∧ w'.cell? ⟨A, 4, none⟩ = some (.slice A4a xa.f4.length c4a) ∧ w'.cell? ⟨A, 5, none⟩ = some (.slice A5a xa.f5.length c5a) ∧ w'.cell? ⟨B, 0, none⟩ = some (.int .i64 xb.f0) ∧ w'.cell? ⟨B, 1, none⟩ = some (.int .i64 xb.f1) ∧ w'.cell? ⟨B, 2, none⟩ = some (.string xb.f2) ∧ w'.cell? ⟨B, 3, none⟩ = some (.slice A3b xb.f3.length c3b) ∧ w'.cell? ⟨B, 4, none⟩ = some (.slice A4b xb.f4.length c4b) ∧ w'.cell? ⟨B, 5, none⟩ = some (.slice A5b xb.f5.length c5b) ∧ w'.cell? ⟨R, 0, none⟩ = some (.int .i64 m.f0) ∧ w'.cell? ⟨R, 1, none⟩ = some (.int .i64 m.f1) ∧ w'.cell? ⟨R, 2, none⟩ = some (.string m.f2) ∧ w'.cell? ⟨R, 3, none⟩ = some (.slice B3m m.f3.length d3m) ∧ w'.cell? ⟨R, 4, none⟩ = some (.slice B4m m.f4.length d4m) ∧ w'.cell? ⟨R, 5, none⟩ = some (.slice B5m m.f5.length d5m) ∧ w'.cell? ⟨R, 6, none⟩ = some (.int .i64 0) ∧ w'.cell? ⟨U, 0, none⟩ = some (.int .i64 ga.f0) ∧ w'.cell? ⟨U, 1, none⟩ = some (.int .i64 ga.f1) ∧ w'.cell? ⟨U, 2, none⟩ = some (.string ga.f2) ∧ w'.cell? ⟨U, 3, none⟩ = some (.slice B3p ga.f3.length d3p) ∧ w'.cell? ⟨U, 4, none⟩ = some (.slice B4p ga.f4.length d4p) ∧ w'.cell? ⟨U, 5, none⟩ = some (.slice B5p ga.f5.length d5p) ∧ SPR w [(A, cv xa A3a c3a A4a c4a A5a c5a, 26), (B, cv xb A3b c3b A4b c4b A5b c5b, 26), (R, rc m B3m d3m B4m d4m B5m d5m, 30), (U, cv ga B3p d3p B4p d4p B5p d5p, 26)] [(m, rc m B3m d3m B4m d4m B5m d5m)] w') (ds := []) #[false, false, false, false, false, false, false, false, false, false, false, false, false, false, false, false, false, false, false, false, false, false, false, false, false, false, false] (by kernel_rfl) rfl rfl ⟨((six_cells ((SPR.spl (SPR.drew H7.out)).get 0 rfl)).1), ((six_cells ((SPR.spl (SPR.drew H7.out)).get 0 rfl)).2.1), ((six_cells ((SPR.spl (SPR.drew H7.out)).get 0 rfl)).2.2.1), ((six_cells ((SPR.spl (SPR.drew H7.out)).get 0 rfl)).2.2.2.1), ((six_cells ((SPR.spl (SPR.drew H7.out)).get 0 rfl)).2.2.2.2.1), ((six_cells ((SPR.spl (SPR.drew H7.out)).get 0 rfl)).2.2.2.2.2.1), ((six_cells ((SPR.spl (SPR.drew H7.out)).get 1 rfl)).1), ((six_cells ((SPR.spl (SPR.drew H7.out)).get 1 rfl)).2.1), ((six_cells ((SPR.spl (SPR.drew H7.out)).get 1 rfl)).2.2.1), ((six_cells ((SPR.spl (SPR.drew H7.out)).get 1 rfl)).2.2.2.1), ((six_cells ((SPR.spl (SPR.drew H7.out)).get 1 rfl)).2.2.2.2.1), ((six_cells ((SPR.spl (SPR.drew H7.out)).get 1 rfl)).2.2.2.2.2.1), ((sev_cells ((SPR.spl (SPR.drew H7.out)).get 2 rfl)).1), ((sev_cells ((SPR.spl (SPR.drew H7.out)).get 2 rfl)).2.1), ((sev_cells ((SPR.spl (SPR.drew H7.out)).get 2 rfl)).2.2.1), ((sev_cells ((SPR.spl (SPR.drew H7.out)).get 2 rfl)).2.2.2.1), ((sev_cells ((SPR.spl (SPR.drew H7.out)).get 2 rfl)).2.2.2.2.1), ((sev_cells ((SPR.spl (SPR.drew H7.out)).get 2 rfl)).2.2.2.2.2.1), ((sev_cells ((SPR.spl (SPR.drew H7.out)).get 2 rfl)).2.2.2.2.2.2.1), ((six_cells ((SPR.spl (SPR.drew H7.out)).get 3 rfl)).1), ((six_cells ((SPR.spl (SPR.drew H7.out)).get 3 rfl)).2.1), ((six_cells ((SPR.spl (SPR.drew H7.out)).get 3 rfl)).2.2.1), ((six_cells ((SPR.spl (SPR.drew H7.out)).get 3 rfl)).2.2.2.1), ((six_cells ((SPR.spl (SPR.drew H7.out)).get 3 rfl)).2.2.2.2.1), ((six_cells ((SPR.spl (SPR.drew H7.out)).get 3 rfl)).2.2.2.2.2.1), (SPR.drew H7.out)⟩ (fun hHeld => ?_)
      refine pure_ (i := 0) (N := some 48) (v := ?_) (a' := ?_) #[true, false, false, false, false, false, false, false, false, false, false, false, false, false, false, false, false, false, false, false, false, false, false, false, false, false, false] rfl rfl (by kernel_rfl) (fun _ _ _ h => h) (Or.inl ⟨by rfl, ?_⟩) ?_ ?_
      rotate_left
      · intro w'
        go_simp
        with_reducible rfl
      rotate_left
      · simp only [Act.put, List.setIfInBounds_toArray, List.set_cons_zero, List.set_cons_succ, i64_w, i32_w]
        rfl
      refine take_ (i := 1) (N := some 49) (v := ?_) (a' := ?_) #[true, true, false, false, false, false, false, false, false, false, false, false, false, false, false, false, false, false, false, false, false, false, false, false, false, false, false] rfl rfl (by kernel_rfl) (fun _ _ _ h => h) (Or.inl ⟨by rfl, ?_⟩) hHeld ?_ ?_
      rotate_left
      · rintro w' ⟨s0, s1, s2, s3, s4, s5, s6, s7, s8, s9, s10, s11, s12, s13, s14, s15, s16, s17, s18, s19, s20, s21, s22, s23, s24, s25⟩
        go_simp
        with_reducible rfl
      rotate_left
      · simp only [Act.put, List.setIfInBounds_toArray, List.set_cons_zero, List.set_cons_succ, i64_w, i32_w]
        rfl
      refine pure_ (i := 2) (N := some 50) (v := ?_) (a' := ?_) #[true, true, true, false, false, false, false, false, false, false, false, false, false, false, false, false, false, false, false, false, false, false, false, false, false, false, false] rfl rfl (by kernel_rfl) (fun _ _ _ h => h) (Or.inl ⟨by rfl, ?_⟩) ?_ ?_
      rotate_left
      · intro w'
        go_simp
        with_reducible rfl
      rotate_left
      · simp only [Act.put, List.setIfInBounds_toArray, List.set_cons_zero, List.set_cons_succ, i64_w, i32_w]
        rfl
      refine pure_ (i := 3) (N := some 51) (v := ?_) (a' := ?_) #[true, true, true, true, false, false, false, false, false, false, false, false, false, false, false, false, false, false, false, false, false, false, false, false, false, false, false] rfl rfl (by kernel_rfl) (fun _ _ _ h => h) (Or.inl ⟨by rfl, ?_⟩) ?_ ?_
      rotate_left
      · intro w'
        go_simp
        with_reducible rfl
      rotate_left
      · simp only [Act.put, List.setIfInBounds_toArray, List.set_cons_zero, List.set_cons_succ, i64_w, i32_w]
        rfl
      refine pure_ (i := 4) (N := some 52) (v := ?_) (a' := ?_) #[true, true, true, true, true, false, false, false, false, false, false, false, false, false, false, false, false, false, false, false, false, false, false, false, false, false, false] rfl rfl (by kernel_rfl) (fun _ _ _ h => h) (Or.inl ⟨by rfl, ?_⟩) ?_ ?_
      rotate_left
      · intro w'
        go_simp
        with_reducible rfl
      rotate_left
      · simp only [Act.put, List.setIfInBounds_toArray, List.set_cons_zero, List.set_cons_succ, i64_w, i32_w]
        rfl
      refine pure_ (i := 6) (N := some 54) (v := ?_) (a' := ?_) #[true, true, true, true, true, false, true, false, false, false, false, false, false, false, false, false, false, false, false, false, false, false, false, false, false, false, false] rfl rfl (by kernel_rfl) (fun _ _ _ h => h) (Or.inl ⟨by rfl, ?_⟩) ?_ ?_
      rotate_left
      · intro w'
        go_simp
        with_reducible rfl
      rotate_left
      · simp only [Act.put, List.setIfInBounds_toArray, List.set_cons_zero, List.set_cons_succ, i64_w, i32_w]
        rfl
      refine pure_ (i := 9) (N := some 57) (v := ?_) (a' := ?_) #[true, true, true, true, true, false, true, false, false, true, false, false, false, false, false, false, false, false, false, false, false, false, false, false, false, false, false] rfl rfl (by kernel_rfl) (fun _ _ _ h => h) (Or.inl ⟨by rfl, ?_⟩) ?_ ?_
      rotate_left
      · intro w'
        go_simp
        with_reducible rfl
      rotate_left
      · simp only [Act.put, List.setIfInBounds_toArray, List.set_cons_zero, List.set_cons_succ, i64_w, i32_w]
        rfl
      refine take_ (i := 5) (N := some 53) (v := ?_) (a' := ?_) #[true, true, true, true, true, true, true, false, false, true, false, false, false, false, false, false, false, false, false, false, false, false, false, false, false, false, false] rfl rfl (by kernel_rfl) (fun _ _ _ h => h) (Or.inl ⟨by rfl, ?_⟩) hHeld ?_ ?_
      rotate_left
      · rintro w' ⟨s0, s1, s2, s3, s4, s5, s6, s7, s8, s9, s10, s11, s12, s13, s14, s15, s16, s17, s18, s19, s20, s21, s22, s23, s24, s25⟩
        go_simp
        with_reducible rfl
      rotate_left
      · simp only [Act.put, List.setIfInBounds_toArray, List.set_cons_zero, List.set_cons_succ, i64_w, i32_w]
        rfl
      refine take_ (i := 8) (N := some 56) (v := ?_) (a' := ?_) #[true, true, true, true, true, true, true, false, true, true, false, false, false, false, false, false, false, false, false, false, false, false, false, false, false, false, false] rfl rfl (by kernel_rfl) (fun _ _ _ h => h) (Or.inl ⟨by rfl, ?_⟩) hHeld ?_ ?_
      rotate_left
      · rintro w' ⟨s0, s1, s2, s3, s4, s5, s6, s7, s8, s9, s10, s11, s12, s13, s14, s15, s16, s17, s18, s19, s20, s21, s22, s23, s24, s25⟩
        go_simp
        with_reducible rfl
      rotate_left
      · simp only [Act.put, List.setIfInBounds_toArray, List.set_cons_zero, List.set_cons_succ, i64_w, i32_w]
        rfl
      refine one_ (i := 7) (N := some 55) #[true, true, true, true, true, true, true, true, true, true, false, false, false, false, false, false, false, false, false, false, false, false, false, false, false, false, false] rfl rfl (by kernel_rfl) (by decide) (fun K hK => ?_)
      refine goes_ Tryz.func21 (by kernel_rfl) rfl #[.agg #[.int .i64 m.f0, .int .i64 m.f1, .string m.f2, .slice B3m m.f3.length d3m, .slice B4m m.f4.length d4m, .slice B5m m.f5.length d5m], .string key] (by rfl) rfl rfl (by simp only [List.map_toArray, List.map_cons, List.map_nil]; rfl) ?_
      with_reducible refine ((HHM.out _ (hHeld.2.2.2.2.2.2.2.2.2.2.2.2.2.2.2.2.2.2.2.2.2.2.2.2.2))).mono ?_
      rintro e w21 ⟨rfl, hb⟩
      refine ⟨_, rfl, ?_⟩
      have hz1 := SPR.below (hHeld.2.2.2.2.2.2.2.2.2.2.2.2.2.2.2.2.2.2.2.2.2.2.2.2.2) hb
      refine hK.out _ _ ⟨((six_cells ((SPR.spl hz1).get 0 rfl)).1), ((six_cells ((SPR.spl hz1).get 0 rfl)).2.1), ((six_cells ((SPR.spl hz1).get 0 rfl)).2.2.1), ((six_cells ((SPR.spl hz1).get 0 rfl)).2.2.2.1), ((six_cells ((SPR.spl hz1).get 0 rfl)).2.2.2.2.1), ((six_cells ((SPR.spl hz1).get 0 rfl)).2.2.2.2.2.1), ((six_cells ((SPR.spl hz1).get 1 rfl)).1), ((six_cells ((SPR.spl hz1).get 1 rfl)).2.1), ((six_cells ((SPR.spl hz1).get 1 rfl)).2.2.1), ((six_cells ((SPR.spl hz1).get 1 rfl)).2.2.2.1), ((six_cells ((SPR.spl hz1).get 1 rfl)).2.2.2.2.1), ((six_cells ((SPR.spl hz1).get 1 rfl)).2.2.2.2.2.1), ((sev_cells ((SPR.spl hz1).get 2 rfl)).1), ((sev_cells ((SPR.spl hz1).get 2 rfl)).2.1), ((sev_cells ((SPR.spl hz1).get 2 rfl)).2.2.1), ((sev_cells ((SPR.spl hz1).get 2 rfl)).2.2.2.1), ((sev_cells ((SPR.spl hz1).get 2 rfl)).2.2.2.2.1), ((sev_cells ((SPR.spl hz1).get 2 rfl)).2.2.2.2.2.1), ((sev_cells ((SPR.spl hz1).get 2 rfl)).2.2.2.2.2.2.1), ((six_cells ((SPR.spl hz1).get 3 rfl)).1), ((six_cells ((SPR.spl hz1).get 3 rfl)).2.1), ((six_cells ((SPR.spl hz1).get 3 rfl)).2.2.1), ((six_cells ((SPR.spl hz1).get 3 rfl)).2.2.2.1), ((six_cells ((SPR.spl hz1).get 3 rfl)).2.2.2.2.1), ((six_cells ((SPR.spl hz1).get 3 rfl)).2.2.2.2.2.1), hz1⟩ (fun hHeld => ?_)
      clear hK K
      refine norm_ (a' := ?_) ?_ ?_
      rotate_left
      · show Act.put _ (some 55) _ = _
        simp only [Act.put, List.setIfInBounds_toArray, List.set_cons_zero, List.set_cons_succ, i64_w, i32_w]
        rfl
      refine one_ (i := 10) (N := some 58) #[true, true, true, true, true, true, true, true, true, true, true, false, false, false, false, false, false, false, false, false, false, false, false, false, false, false, false] rfl rfl (by kernel_rfl) (by decide) (fun K hK => ?_)
      refine goes_ Tryz.func21 (by kernel_rfl) rfl #[.agg #[.int .i64 xa.f0, .int .i64 xa.f1, .string xa.f2, .slice A3a xa.f3.length c3a, .slice A4a xa.f4.length c4a, .slice A5a xa.f5.length c5a], .string key] (by rfl) rfl rfl (by simp only [List.map_toArray, List.map_cons, List.map_nil]; rfl) ?_
      with_reducible refine ((HHA.out _ (SPR.bel hz1))).mono ?_
      rintro e w22 ⟨rfl, hb⟩
      refine ⟨_, rfl, ?_⟩
      have hz2 := SPR.below hz1 hb
      refine hK.out _ _ ⟨((six_cells ((SPR.spl hz2).get 0 rfl)).1), ((six_cells ((SPR.spl hz2).get 0 rfl)).2.1), ((six_cells ((SPR.spl hz2).get 0 rfl)).2.2.1), ((six_cells ((SPR.spl hz2).get 0 rfl)).2.2.2.1), ((six_cells ((SPR.spl hz2).get 0 rfl)).2.2.2.2.1), ((six_cells ((SPR.spl hz2).get 0 rfl)).2.2.2.2.2.1), ((six_cells ((SPR.spl hz2).get 1 rfl)).1), ((six_cells ((SPR.spl hz2).get 1 rfl)).2.1), ((six_cells ((SPR.spl hz2).get 1 rfl)).2.2.1), ((six_cells ((SPR.spl hz2).get 1 rfl)).2.2.2.1), ((six_cells ((SPR.spl hz2).get 1 rfl)).2.2.2.2.1), ((six_cells ((SPR.spl hz2).get 1 rfl)).2.2.2.2.2.1), ((sev_cells ((SPR.spl hz2).get 2 rfl)).1), ((sev_cells ((SPR.spl hz2).get 2 rfl)).2.1), ((sev_cells ((SPR.spl hz2).get 2 rfl)).2.2.1), ((sev_cells ((SPR.spl hz2).get 2 rfl)).2.2.2.1), ((sev_cells ((SPR.spl hz2).get 2 rfl)).2.2.2.2.1), ((sev_cells ((SPR.spl hz2).get 2 rfl)).2.2.2.2.2.1), ((sev_cells ((SPR.spl hz2).get 2 rfl)).2.2.2.2.2.2.1), ((six_cells ((SPR.spl hz2).get 3 rfl)).1), ((six_cells ((SPR.spl hz2).get 3 rfl)).2.1), ((six_cells ((SPR.spl hz2).get 3 rfl)).2.2.1), ((six_cells ((SPR.spl hz2).get 3 rfl)).2.2.2.1), ((six_cells ((SPR.spl hz2).get 3 rfl)).2.2.2.2.1), ((six_cells ((SPR.spl hz2).get 3 rfl)).2.2.2.2.2.1), hz2⟩ (fun hHeld => ?_)
      clear hK K
      refine norm_ (a' := ?_) ?_ ?_
      rotate_left
      · show Act.put _ (some 58) _ = _
        simp only [Act.put, List.setIfInBounds_toArray, List.set_cons_zero, List.set_cons_succ, i64_w, i32_w]
        rfl
      refine pure_ (i := 11) (N := some 59) (v := ?_) (a' := ?_) #[true, true, true, true, true, true, true, true, true, true, true, true, false, false, false, false, false, false, false, false, false, false, false, false, false, false, false] rfl rfl (by kernel_rfl) (fun _ _ _ h => h) (Or.inl ⟨by rfl, ?_⟩) ?_ ?_
      rotate_left
      · intro w'
        go_simp
        with_reducible rfl
      rotate_left
      · simp only [Act.put, List.setIfInBounds_toArray, List.set_cons_zero, List.set_cons_succ, i64_w, i32_w]
        rfl
      refine pure_ (i := 12) (N := some 60) (v := undef) (a' := ?_) #[true, true, true, true, true, true, true, true, true, true, true, true, true, false, false, false, false, false, false, false, false, false, false, false, false, false, false] rfl rfl (by kernel_rfl) (fun _ _ _ h => h) (Or.inr ⟨by rfl, rfl⟩) ?_ ?_
      rotate_left
      · simp only [Act.put, List.setIfInBounds_toArray, List.set_cons_zero, List.set_cons_succ, i64_w, i32_w]
        rfl
      refine pure_ (i := 13) (N := some 61) (v := undef) (a' := ?_) #[true, true, true, true, true, true, true, true, true, true, true, true, true, true, false, false, false, false, false, false, false, false, false, false, false, false, false] rfl rfl (by kernel_rfl) (fun _ _ _ h => h) (Or.inr ⟨by rfl, rfl⟩) ?_ ?_
      rotate_left
      · simp only [Act.put, List.setIfInBounds_toArray, List.set_cons_zero, List.set_cons_succ, i64_w, i32_w]
        rfl
      refine pure_ (i := 14) (N := some 62) (v := undef) (a' := ?_) #[true, true, true, true, true, true, true, true, true, true, true, true, true, true, true, false, false, false, false, false, false, false, false, false, false, false, false] rfl rfl (by kernel_rfl) (fun _ _ _ h => h) (Or.inr ⟨by rfl, rfl⟩) ?_ ?_
      rotate_left
      · simp only [Act.put, List.setIfInBounds_toArray, List.set_cons_zero, List.set_cons_succ, i64_w, i32_w]
        rfl
      refine pure_ (i := 15) (N := some 63) (v := ?_) (a' := ?_) #[true, true, true, true, true, true, true, true, true, true, true, true, true, true, true, true, false, false, false, false, false, false, false, false, false, false, false] rfl rfl (by kernel_rfl) (fun _ _ _ h => h) (Or.inl ⟨by rfl, ?_⟩) ?_ ?_
      rotate_left
      · intro w'
        go_simp
        with_reducible rfl
      rotate_left
      · simp only [Act.put, List.setIfInBounds_toArray, List.set_cons_zero, List.set_cons_succ, i64_w, i32_w]
        rfl
      refine pure_ (i := 16) (N := some 64) (v := ?_) (a' := ?_) #[true, true, true, true, true, true, true, true, true, true, true, true, true, true, true, true, true, false, false, false, false, false, false, false, false, false, false] rfl rfl (by kernel_rfl) (fun _ _ _ h => h) (Or.inl ⟨by rfl, ?_⟩) ?_ ?_
      rotate_left
      · intro w'
        go_simp
        with_reducible rfl
      rotate_left
      · simp only [Act.put, List.setIfInBounds_toArray, List.set_cons_zero, List.set_cons_succ, i64_w, i32_w]
        rfl
      refine pure_ (i := 17) (N := some 65) (v := ?_) (a' := ?_) #[true, true, true, true, true, true, true, true, true, true, true, true, true, true, true, true, true, true, false, false, false, false, false, false, false, false, false] rfl rfl (by kernel_rfl) (fun _ _ _ h => h) (Or.inl ⟨by rfl, ?_⟩) ?_ ?_
      rotate_left
      · intro w'
        go_simp
        with_reducible rfl
      rotate_left
      · simp only [Act.put, List.setIfInBounds_toArray, List.set_cons_zero, List.set_cons_succ, i64_w, i32_w]
        rfl
      refine pure_ (i := 18) (N := some 66) (v := ?_) (a' := ?_) #[true, true, true, true, true, true, true, true, true, true, true, true, true, true, true, true, true, true, true, false, false, false, false, false, false, false, false] rfl rfl (by kernel_rfl) (fun _ _ _ h => h) (Or.inl ⟨by rfl, ?_⟩) ?_ ?_
      rotate_left
      · intro w'
        go_simp
        with_reducible rfl
      rotate_left
      · simp only [Act.put, List.setIfInBounds_toArray, List.set_cons_zero, List.set_cons_succ, i64_w, i32_w]
        rfl
      refine pure_ (i := 19) (N := some 67) (v := ?_) (a' := ?_) #[true, true, true, true, true, true, true, true, true, true, true, true, true, true, true, true, true, true, true, true, false, false, false, false, false, false, false] rfl rfl (by kernel_rfl) (fun _ _ _ h => h) (Or.inl ⟨by rfl, ?_⟩) ?_ ?_
      rotate_left
      · intro w'
        go_simp
        with_reducible rfl
      rotate_left
      · simp only [Act.put, List.setIfInBounds_toArray, List.set_cons_zero, List.set_cons_succ, i64_w, i32_w]
        rfl
      refine pure_ (i := 21) (N := some 69) (v := ?_) (a' := ?_) #[true, true, true, true, true, true, true, true, true, true, true, true, true, true, true, true, true, true, true, true, false, true, false, false, false, false, false] rfl rfl (by kernel_rfl) (fun _ _ _ h => h) (Or.inl ⟨by rfl, ?_⟩) ?_ ?_
      rotate_left
      · intro w'
        go_simp
        with_reducible rfl
      rotate_left
      · simp only [Act.put, List.setIfInBounds_toArray, List.set_cons_zero, List.set_cons_succ, i64_w, i32_w]
        rfl
      refine take_ (i := 20) (N := some 68) (v := ?_) (a' := ?_) #[true, true, true, true, true, true, true, true, true, true, true, true, true, true, true, true, true, true, true, true, true, true, false, false, false, false, false] rfl rfl (by kernel_rfl) (fun _ _ _ h => h) (Or.inl ⟨by rfl, ?_⟩) hHeld ?_ ?_
      rotate_left
      · rintro w' ⟨s0, s1, s2, s3, s4, s5, s6, s7, s8, s9, s10, s11, s12, s13, s14, s15, s16, s17, s18, s19, s20, s21, s22, s23, s24, s25⟩
        go_simp
        with_reducible rfl
      rotate_left
      · simp only [Act.put, List.setIfInBounds_toArray, List.set_cons_zero, List.set_cons_succ, i64_w, i32_w]
        rfl
      refine take_ (i := 23) (N := some 71) (v := ?_) (a' := ?_) #[true, true, true, true, true, true, true, true, true, true, true, true, true, true, true, true, true, true, true, true, true, true, false, true, false, false, false] rfl rfl (by kernel_rfl) (fun _ _ _ h => h) (Or.inl ⟨by rfl, ?_⟩) hHeld ?_ ?_
      rotate_left
      · rintro w' ⟨s0, s1, s2, s3, s4, s5, s6, s7, s8, s9, s10, s11, s12, s13, s14, s15, s16, s17, s18, s19, s20, s21, s22, s23, s24, s25⟩
        go_simp
        with_reducible rfl
      rotate_left
      · simp only [Act.put, List.setIfInBounds_toArray, List.set_cons_zero, List.set_cons_succ, i64_w, i32_w]
        rfl
      refine one_ (i := 22) (N := some 70) #[true, true, true, true, true, true, true, true, true, true, true, true, true, true, true, true, true, true, true, true, true, true, true, true, false, false, false] rfl rfl (by kernel_rfl) (by decide) (fun K hK => ?_)
      refine goes_ Tryz.func20 (by kernel_rfl) rfl #[.agg #[.int .i64 m.f0, .int .i64 m.f1, .string m.f2, .slice B3m m.f3.length d3m, .slice B4m m.f4.length d4m, .slice B5m m.f5.length d5m], .string key] (by rfl) rfl rfl (by simp only [List.map_toArray, List.map_cons, List.map_nil]; rfl) ?_
      with_reducible refine ((HGR.out _ hz2)).mono ?_
      rintro e w24 ⟨B3v, d3v, B4v, d4v, B5v, d5v, rfl, hKv, hb⟩
      refine ⟨_, rfl, ?_⟩
      have hz4 := SPR.below hz2 hb
      refine hK.out _ _ ⟨((six_cells ((SPR.spl hz4).get 0 rfl)).1), ((six_cells ((SPR.spl hz4).get 0 rfl)).2.1), ((six_cells ((SPR.spl hz4).get 0 rfl)).2.2.1), ((six_cells ((SPR.spl hz4).get 0 rfl)).2.2.2.1), ((six_cells ((SPR.spl hz4).get 0 rfl)).2.2.2.2.1), ((six_cells ((SPR.spl hz4).get 0 rfl)).2.2.2.2.2.1), ((six_cells ((SPR.spl hz4).get 1 rfl)).1), ((six_cells ((SPR.spl hz4).get 1 rfl)).2.1), ((six_cells ((SPR.spl hz4).get 1 rfl)).2.2.1), ((six_cells ((SPR.spl hz4).get 1 rfl)).2.2.2.1), ((six_cells ((SPR.spl hz4).get 1 rfl)).2.2.2.2.1), ((six_cells ((SPR.spl hz4).get 1 rfl)).2.2.2.2.2.1), ((sev_cells ((SPR.spl hz4).get 2 rfl)).1), ((sev_cells ((SPR.spl hz4).get 2 rfl)).2.1), ((sev_cells ((SPR.spl hz4).get 2 rfl)).2.2.1), ((sev_cells ((SPR.spl hz4).get 2 rfl)).2.2.2.1), ((sev_cells ((SPR.spl hz4).get 2 rfl)).2.2.2.2.1), ((sev_cells ((SPR.spl hz4).get 2 rfl)).2.2.2.2.2.1), ((sev_cells ((SPR.spl hz4).get 2 rfl)).2.2.2.2.2.2.1), ((six_cells ((SPR.spl hz4).get 3 rfl)).1), ((six_cells ((SPR.spl hz4).get 3 rfl)).2.1), ((six_cells ((SPR.spl hz4).get 3 rfl)).2.2.1), ((six_cells ((SPR.spl hz4).get 3 rfl)).2.2.2.1), ((six_cells ((SPR.spl hz4).get 3 rfl)).2.2.2.2.1), ((six_cells ((SPR.spl hz4).get 3 rfl)).2.2.2.2.2.1), hz4⟩ (fun hHeld => ?_)
      clear hK K
      refine norm_ (a' := ?_) ?_ ?_
      rotate_left
      · show Act.put _ (some 70) _ = _
        simp only [Act.put, List.setIfInBounds_toArray, List.set_cons_zero, List.set_cons_succ, i64_w, i32_w]
        rfl
      refine one_ (i := 24) (N := some 72) #[true, true, true, true, true, true, true, true, true, true, true, true, true, true, true, true, true, true, true, true, true, true, true, true, true, false, false] rfl rfl (by kernel_rfl) (by decide) (fun K hK => ?_)
      refine goes_ Tryz.func22 (by kernel_rfl) rfl #[.agg #[.int .i64 gm.f0, .int .i64 gm.f1, .string gm.f2, .slice B3v gm.f3.length d3v, .slice B4v gm.f4.length d4v, .slice B5v gm.f5.length d5v], .agg #[.int .i64 ga.f0, .int .i64 ga.f1, .string ga.f2, .slice B3p ga.f3.length d3p, .slice B4p ga.f4.length d4p, .slice B5p ga.f5.length d5p]] (by rfl) rfl rfl (by simp only [List.map_toArray, List.map_cons, List.map_nil]; rfl) ?_
      with_reducible refine ((HSM.out _ _ (SPR.bel hz4) hb hKv)).mono ?_
      rintro e w25 ⟨rfl, hb2⟩
      refine ⟨_, rfl, ?_⟩
      have hz5 := SPR.below hz4 hb2
      refine hK.out _ _ ⟨((six_cells ((SPR.spl hz5).get 0 rfl)).1), ((six_cells ((SPR.spl hz5).get 0 rfl)).2.1), ((six_cells ((SPR.spl hz5).get 0 rfl)).2.2.1), ((six_cells ((SPR.spl hz5).get 0 rfl)).2.2.2.1), ((six_cells ((SPR.spl hz5).get 0 rfl)).2.2.2.2.1), ((six_cells ((SPR.spl hz5).get 0 rfl)).2.2.2.2.2.1), ((six_cells ((SPR.spl hz5).get 1 rfl)).1), ((six_cells ((SPR.spl hz5).get 1 rfl)).2.1), ((six_cells ((SPR.spl hz5).get 1 rfl)).2.2.1), ((six_cells ((SPR.spl hz5).get 1 rfl)).2.2.2.1), ((six_cells ((SPR.spl hz5).get 1 rfl)).2.2.2.2.1), ((six_cells ((SPR.spl hz5).get 1 rfl)).2.2.2.2.2.1), ((sev_cells ((SPR.spl hz5).get 2 rfl)).1), ((sev_cells ((SPR.spl hz5).get 2 rfl)).2.1), ((sev_cells ((SPR.spl hz5).get 2 rfl)).2.2.1), ((sev_cells ((SPR.spl hz5).get 2 rfl)).2.2.2.1), ((sev_cells ((SPR.spl hz5).get 2 rfl)).2.2.2.2.1), ((sev_cells ((SPR.spl hz5).get 2 rfl)).2.2.2.2.2.1), ((sev_cells ((SPR.spl hz5).get 2 rfl)).2.2.2.2.2.2.1), ((six_cells ((SPR.spl hz5).get 3 rfl)).1), ((six_cells ((SPR.spl hz5).get 3 rfl)).2.1), ((six_cells ((SPR.spl hz5).get 3 rfl)).2.2.1), ((six_cells ((SPR.spl hz5).get 3 rfl)).2.2.2.1), ((six_cells ((SPR.spl hz5).get 3 rfl)).2.2.2.2.1), ((six_cells ((SPR.spl hz5).get 3 rfl)).2.2.2.2.2.1), hz5⟩ (fun hHeld => ?_)
      clear hK K
      refine norm_ (a' := ?_) ?_ ?_
      rotate_left
      · show Act.put _ (some 72) _ = _
        simp only [Act.put, List.setIfInBounds_toArray, List.set_cons_zero, List.set_cons_succ, i64_w, i32_w]
        rfl
      refine pure_ (i := 25) (N := some 73) (v := ?_) (a' := ?_) #[true, true, true, true, true, true, true, true, true, true, true, true, true, true, true, true, true, true, true, true, true, true, true, true, true, true, false] rfl rfl (by kernel_rfl) (fun _ _ _ h => h) (Or.inl ⟨by rfl, ?_⟩) ?_ ?_
      rotate_left
      · intro w'
        go_simp
        with_reducible rfl
      rotate_left
      · simp only [Act.put, List.setIfInBounds_toArray, List.set_cons_zero, List.set_cons_succ, i64_w, i32_w]
        rfl
      refine pure_ (i := 26) (N := some 6) (v := ?_) (a' := ?_) #[true, true, true, true, true, true, true, true, true, true, true, true, true, true, true, true, true, true, true, true, true, true, true, true, true, true, true] rfl rfl (by kernel_rfl) (fun _ _ _ h => h) (Or.inl ⟨by rfl, ?_⟩) ?_ ?_
      rotate_left
      · intro w'
        go_simp
        with_reducible rfl
      rotate_left
      · simp only [Act.put, List.setIfInBounds_toArray, List.set_cons_zero, List.set_cons_succ, i64_w, i32_w]
        rfl
      refine done_ (by kernel_rfl) ?_
      go_wp2_with fail
      go_ret
      exact ⟨rfl, hz5.bel⟩
  | true =>
    rw [hB0] at HHB
    go_wp2_with fail
    refine (HGB.out _ H7.out.bel).mono ?_
    rintro e w7 ⟨B3q, d3q, B4q, d4q, B5q, d5q, rfl, hKq, hb⟩
    have HKq := Lib.hid hKq
    have H8 := Lib.hid (H7.out.below hb)
    clear hb H7 hKq ya yb yr yu
    have yu := six_cells (H8.out.get 3 rfl)
    go_wp2_with fail
    obtain ⟨W8, hW8⟩ : ∃ W8, W8 = (((((w7.setCell ⟨U, 0, none⟩ (.int .i64 gb.f0)).setCell ⟨U, 1, none⟩ (.int .i64 gb.f1)).setCell ⟨U, 2, none⟩ (.string gb.f2)).setCell ⟨U, 3, none⟩ (.slice B3q gb.f3.length d3q)).setCell ⟨U, 4, none⟩ (.slice B4q gb.f4.length d4q)).setCell ⟨U, 5, none⟩ (.slice B5q gb.f5.length d5q) := ⟨_, rfl⟩
    have hS9 : SPR w [(A, cv xa A3a c3a A4a c4a A5a c5a, 26), (B, cv xb A3b c3b A4b c4b A5b c5b, 26), (R, rc m B3m d3m B4m d4m B5m d5m, 30), (U, cv gb B3q d3q B4q d4q B5q d5q, 26)] [(m, rc m B3m d3m B4m d4m B5m d5m)] W8 := by rw [hW8]; exact H8.out.six 3 rfl (.int .i64 gb.f0) (.int .i64 gb.f1) (.string gb.f2) (.slice B3q gb.f3.length d3q) (.slice B4q gb.f4.length d4q) (.slice B5q gb.f5.length d5q)
    rw [← hW8]
    have H9 := Lib.hid hS9
    clear hS9 hW8 H8 yu
    cases hA0 : hsV xa key with
    | false =>
      rw [hA0] at HHA
      have HHM : Hid (∀ w1, SPR w [(A, cv xa A3a c3a A4a c4a A5a c5a, 26), (B, cv xb A3b c3b A4b c4b A5b c5b, 26), (R, rc m B3m d3m B4m d4m B5m d5m, 30), (U, cv gb B3q d3q B4q d4q B5q d5q, 26)] [(m, rc m B3m d3m B4m d4m B5m d5m)] w1 → Calls Tryz.prog 21 #[.agg #[.int .i64 m.f0, .int .i64 m.f1, .string m.f2, .slice B3m m.f3.length d3m, .slice B4m m.f4.length d4m, .slice B5m m.f5.length d5m], .string key] w1 fun e w' => e = .returned (.bool true) ∧ Below w1.heap.size w1 w') := Lib.hid (by
        intro w1 h
        have h1 := has_any w1 m HM.out.1 _ _ _ _ _ _ (h.held 0 rfl) key w1 (Below.refl _ _)
        have h2 : hsV m key = true := by rw [HM.out.2.2, sum_has HW2.out, hA0, hB0]; rfl
        rw [h2] at h1
        exact h1)
      obtain ⟨gm, hgm⟩ : ∃ gm, gm = getV m key := ⟨_, rfl⟩
      have HGM : Hid (gm = gb ∧ WL gm) := Lib.hid (by
        rw [hgm]
        refine ⟨?_, wl_getV HM.out.1 key⟩
        rw [HM.out.2.2, sum_getV HW2.out, hB0]
        exact HGG.out.2.symm)
      have HGR : Hid (∀ w1, SPR w [(A, cv xa A3a c3a A4a c4a A5a c5a, 26), (B, cv xb A3b c3b A4b c4b A5b c5b, 26), (R, rc m B3m d3m B4m d4m B5m d5m, 30), (U, cv gb B3q d3q B4q d4q B5q d5q, 26)] [(m, rc m B3m d3m B4m d4m B5m d5m)] w1 → Calls Tryz.prog 20 #[.agg #[.int .i64 m.f0, .int .i64 m.f1, .string m.f2, .slice B3m m.f3.length d3m, .slice B4m m.f4.length d4m, .slice B5m m.f5.length d5m], .string key] w1 (ReadAs w1 gm w1)) := Lib.hid (by
        intro w1 h
        rw [hgm]
        exact get_any w1 m HM.out.1 _ _ _ _ _ _ (h.held 0 rfl) key w1 (Below.refl _ _))
      have HSM : Hid (∀ w1 w2 {B3 B4 B5 : Option Addr} {d3 d4 d5 : Nat}, Below w.heap.size w w2 → Below w1.heap.size w1 w2 → k26.K w1 gm [.int .i64 gm.f0, .int .i64 gm.f1, .string gm.f2, .slice B3 gm.f3.length d3, .slice B4 gm.f4.length d4, .slice B5 gm.f5.length d5] → Calls Tryz.prog 22 #[.agg #[.int .i64 gm.f0, .int .i64 gm.f1, .string gm.f2, .slice B3 gm.f3.length d3, .slice B4 gm.f4.length d4, .slice B5 gm.f5.length d5], .agg #[.int .i64 gb.f0, .int .i64 gb.f1, .string gb.f2, .slice B3q gb.f3.length d3q, .slice B4q gb.f4.length d4q, .slice B5q gb.f5.length d5q]] w2 fun e w' => e = .returned (.bool true) ∧ Below w2.heap.size w2 w') := Lib.hid (by
        intro w1 w2 B3 B4 B5 d3 d4 d5 h0 h1 hk
        have h2 := same_any w2 gm gb HGM.out.2 (by rw [← HGM.out.1]; exact HGM.out.2) (K_below hk h1) (K_below HKq.out h0) w2 (Below.refl _ _)
        simp only [vl] at h2
        rw [show (cmpV gm gb == 0) = true by rw [HGM.out.1, cmpV_self]; rfl] at h2
        exact h2)
      clear hgm
      go_wp2_with fail
      refine start_ (n := 27) (S := fun w' => w'.cell? ⟨A, 0, none⟩ = some (.int .i64 xa.f0) ∧ w'.cell? ⟨A, 1, none⟩ = some (.int .i64 xa.f1) ∧ w'.cell? ⟨A, 2, none⟩ = some (.string xa.f2) ∧ w'.cell? ⟨A, 3, none⟩ = some (.slice A3a xa.f3.length c3a) ∧ w'.cell? ⟨A, 4, none⟩ = some (.slice A4a xa.f4.length c4a) ∧ w'.cell? ⟨A, 5, none⟩ = some (.slice A5a xa.f5.length c5a) ∧ w'.cell? ⟨B, 0, none⟩ = some (.int .i64 xb.f0) ∧ w'.cell? ⟨B, 1, none⟩ = some (.int .i64 xb.f1) ∧ w'.cell? ⟨B, 2, none⟩ = some (.string xb.f2) ∧ w'.cell? ⟨B, 3, none⟩ = some (.slice A3b xb.f3.length c3b) ∧ w'.cell? ⟨B, 4, none⟩ = some (.slice A4b xb.f4.length c4b) ∧ w'.cell? ⟨B, 5, none⟩ = some (.slice A5b xb.f5.length c5b) ∧ w'.cell? ⟨R, 0, none⟩ = some (.int .i64 m.f0) ∧ w'.cell? ⟨R, 1, none⟩ = some (.int .i64 m.f1) ∧ w'.cell? ⟨R, 2, none⟩ = some (.string m.f2) ∧ w'.cell? ⟨R, 3, none⟩ = some (.slice B3m m.f3.length d3m) ∧ w'.cell? ⟨R, 4, none⟩ = some (.slice B4m m.f4.length d4m) ∧ w'.cell? ⟨R, 5, none⟩ = some (.slice B5m m.f5.length d5m) ∧ w'.cell? ⟨R, 6, none⟩ = some (.int .i64 0) ∧ w'.cell? ⟨U, 0, none⟩ = some (.int .i64 gb.f0) ∧ w'.cell? ⟨U, 1, none⟩ = some (.int .i64 gb.f1) ∧ w'.cell? ⟨U, 2, none⟩ = some (.string gb.f2) ∧ w'.cell? ⟨U, 3, none⟩ = some (.slice B3q gb.f3.length d3q) ∧ w'.cell? ⟨U, 4, none⟩ = some (.slice B4q gb.f4.length d4q) ∧ w'.cell? ⟨U, 5, none⟩ = some (.slice B5q gb.f5.length d5q) ∧ SPR w [(A, cv xa A3a c3a A4a c4a A5a c5a, 26), (B, cv xb A3b c3b A4b c4b A5b c5b, 26), (R, rc m B3m d3m B4m d4m B5m d5m, 30), (U, cv gb B3q d3q B4q d4q B5q d5q, 26)] [(m, rc m B3m d3m B4m d4m B5m d5m)] w') (ds := []) #[false, false, false, false, false, false, false, false, false, false, false, false, false, false, false, false, false, false, false, false, false, false, false, false, false, false, false] (by kernel_rfl) rfl rfl ⟨((six_cells ((SPR.spl (SPR.drew H9.out)).get 0 rfl)).1), ((six_cells ((SPR.spl (SPR.drew H9.out)).get 0 rfl)).2.1), ((six_cells ((SPR.spl (SPR.drew H9.out)).get 0 rfl)).2.2.1), ((six_cells ((SPR.spl (SPR.drew H9.out)).get 0 rfl)).2.2.2.1), ((six_cells ((SPR.spl (SPR.drew H9.out)).get 0 rfl)).2.2.2.2.1), ((six_cells ((SPR.spl (SPR.drew H9.out)).get 0 rfl)).2.2.2.2.2.1), ((six_cells ((SPR.spl (SPR.drew H9.out)).get 1 rfl)).1), ((six_cells ((SPR.spl (SPR.drew H9.out)).get 1 rfl)).2.1), ((six_cells ((SPR.spl (SPR.drew H9.out)).get 1 rfl)).2.2.1), ((six_cells ((SPR.spl (SPR.drew H9.out)).get 1 rfl)).2.2.2.1), ((six_cells ((SPR.spl (SPR.drew H9.out)).get 1 rfl)).2.2.2.2.1), ((six_cells ((SPR.spl (SPR.drew H9.out)).get 1 rfl)).2.2.2.2.2.1), ((sev_cells ((SPR.spl (SPR.drew H9.out)).get 2 rfl)).1), ((sev_cells ((SPR.spl (SPR.drew H9.out)).get 2 rfl)).2.1), ((sev_cells ((SPR.spl (SPR.drew H9.out)).get 2 rfl)).2.2.1), ((sev_cells ((SPR.spl (SPR.drew H9.out)).get 2 rfl)).2.2.2.1), ((sev_cells ((SPR.spl (SPR.drew H9.out)).get 2 rfl)).2.2.2.2.1), ((sev_cells ((SPR.spl (SPR.drew H9.out)).get 2 rfl)).2.2.2.2.2.1), ((sev_cells ((SPR.spl (SPR.drew H9.out)).get 2 rfl)).2.2.2.2.2.2.1), ((six_cells ((SPR.spl (SPR.drew H9.out)).get 3 rfl)).1), ((six_cells ((SPR.spl (SPR.drew H9.out)).get 3 rfl)).2.1), ((six_cells ((SPR.spl (SPR.drew H9.out)).get 3 rfl)).2.2.1), ((six_cells ((SPR.spl (SPR.drew H9.out)).get 3 rfl)).2.2.2.1), ((six_cells ((SPR.spl (SPR.drew H9.out)).get 3 rfl)).2.2.2.2.1), ((six_cells ((SPR.spl (SPR.drew H9.out)).get 3 rfl)).2.2.2.2.2.1), (SPR.drew H9.out)⟩ (fun hHeld => ?_)
      refine pure_ (i := 0) (N := some 48) (v := ?_) (a' := ?_) #[true, false, false, false, false, false, false, false, false, false, false, false, false, false, false, false, false, false, false, false, false, false, false, false, false, false, false] rfl rfl (by kernel_rfl) (fun _ _ _ h => h) (Or.inl ⟨by rfl, ?_⟩) ?_ ?_
      rotate_left
      · intro w'
        go_simp
        with_reducible rfl
      rotate_left
      · simp only [Act.put, List.setIfInBounds_toArray, List.set_cons_zero, List.set_cons_succ, i64_w, i32_w]
        rfl
      refine take_ (i := 1) (N := some 49) (v := ?_) (a' := ?_) #[true, true, false, false, false, false, false, false, false, false, false, false, false, false, false, false, false, false, false, false, false, false, false, false, false, false, false] rfl rfl (by kernel_rfl) (fun _ _ _ h => h) (Or.inl ⟨by rfl, ?_⟩) hHeld ?_ ?_
      rotate_left
      · rintro w' ⟨s0, s1, s2, s3, s4, s5, s6, s7, s8, s9, s10, s11, s12, s13, s14, s15, s16, s17, s18, s19, s20, s21, s22, s23, s24, s25⟩
        go_simp
        with_reducible rfl
      rotate_left
      · simp only [Act.put, List.setIfInBounds_toArray, List.set_cons_zero, List.set_cons_succ, i64_w, i32_w]
        rfl
      refine pure_ (i := 2) (N := some 50) (v := ?_) (a' := ?_) #[true, true, true, false, false, false, false, false, false, false, false, false, false, false, false, false, false, false, false, false, false, false, false, false, false, false, false] rfl rfl (by kernel_rfl) (fun _ _ _ h => h) (Or.inl ⟨by rfl, ?_⟩) ?_ ?_
      rotate_left
      · intro w'
        go_simp
        with_reducible rfl
      rotate_left
      · simp only [Act.put, List.setIfInBounds_toArray, List.set_cons_zero, List.set_cons_succ, i64_w, i32_w]
        rfl
      refine pure_ (i := 3) (N := some 51) (v := ?_) (a' := ?_) #[true, true, true, true, false, false, false, false, false, false, false, false, false, false, false, false, false, false, false, false, false, false, false, false, false, false, false] rfl rfl (by kernel_rfl) (fun _ _ _ h => h) (Or.inl ⟨by rfl, ?_⟩) ?_ ?_
      rotate_left
      · intro w'
        go_simp
        with_reducible rfl
      rotate_left
      · simp only [Act.put, List.setIfInBounds_toArray, List.set_cons_zero, List.set_cons_succ, i64_w, i32_w]
        rfl
      refine pure_ (i := 4) (N := some 52) (v := ?_) (a' := ?_) #[true, true, true, true, true, false, false, false, false, false, false, false, false, false, false, false, false, false, false, false, false, false, false, false, false, false, false] rfl rfl (by kernel_rfl) (fun _ _ _ h => h) (Or.inl ⟨by rfl, ?_⟩) ?_ ?_
      rotate_left
      · intro w'
        go_simp
        with_reducible rfl
      rotate_left
      · simp only [Act.put, List.setIfInBounds_toArray, List.set_cons_zero, List.set_cons_succ, i64_w, i32_w]
        rfl
      refine pure_ (i := 6) (N := some 54) (v := ?_) (a' := ?_) #[true, true, true, true, true, false, true, false, false, false, false, false, false, false, false, false, false, false, false, false, false, false, false, false, false, false, false] rfl rfl (by kernel_rfl) (fun _ _ _ h => h) (Or.inl ⟨by rfl, ?_⟩) ?_ ?_
      rotate_left
      · intro w'
        go_simp
        with_reducible rfl
      rotate_left
      · simp only [Act.put, List.setIfInBounds_toArray, List.set_cons_zero, List.set_cons_succ, i64_w, i32_w]
        rfl
      refine pure_ (i := 9) (N := some 57) (v := ?_) (a' := ?_) #[true, true, true, true, true, false, true, false, false, true, false, false, false, false, false, false, false, false, false, false, false, false, false, false, false, false, false] rfl rfl (by kernel_rfl) (fun _ _ _ h => h) (Or.inl ⟨by rfl, ?_⟩) ?_ ?_
      rotate_left
      · intro w'
        go_simp
        with_reducible rfl
      rotate_left
      · simp only [Act.put, List.setIfInBounds_toArray, List.set_cons_zero, List.set_cons_succ, i64_w, i32_w]
        rfl
      refine take_ (i := 5) (N := some 53) (v := ?_) (a' := ?_) #[true, true, true, true, true, true, true, false, false, true, false, false, false, false, false, false, false, false, false, false, false, false, false, false, false, false, false] rfl rfl (by kernel_rfl) (fun _ _ _ h => h) (Or.inl ⟨by rfl, ?_⟩) hHeld ?_ ?_
      rotate_left
      · rintro w' ⟨s0, s1, s2, s3, s4, s5, s6, s7, s8, s9, s10, s11, s12, s13, s14, s15, s16, s17, s18, s19, s20, s21, s22, s23, s24, s25⟩
        go_simp
        with_reducible rfl
      rotate_left
      · simp only [Act.put, List.setIfInBounds_toArray, List.set_cons_zero, List.set_cons_succ, i64_w, i32_w]
        rfl
      refine take_ (i := 8) (N := some 56) (v := ?_) (a' := ?_) #[true, true, true, true, true, true, true, false, true, true, false, false, false, false, false, false, false, false, false, false, false, false, false, false, false, false, false] rfl rfl (by kernel_rfl) (fun _ _ _ h => h) (Or.inl ⟨by rfl, ?_⟩) hHeld ?_ ?_
      rotate_left
      · rintro w' ⟨s0, s1, s2, s3, s4, s5, s6, s7, s8, s9, s10, s11, s12, s13, s14, s15, s16, s17, s18, s19, s20, s21, s22, s23, s24, s25⟩
        go_simp
        with_reducible rfl
      rotate_left
      · simp only [Act.put, List.setIfInBounds_toArray, List.set_cons_zero, List.set_cons_succ, i64_w, i32_w]
        rfl
      refine one_ (i := 7) (N := some 55) #[true, true, true, true, true, true, true, true, true, true, false, false, false, false, false, false, false, false, false, false, false, false, false, false, false, false, false] rfl rfl (by kernel_rfl) (by decide) (fun K hK => ?_)
      refine goes_ Tryz.func21 (by kernel_rfl) rfl #[.agg #[.int .i64 m.f0, .int .i64 m.f1, .string m.f2, .slice B3m m.f3.length d3m, .slice B4m m.f4.length d4m, .slice B5m m.f5.length d5m], .string key] (by rfl) rfl rfl (by simp only [List.map_toArray, List.map_cons, List.map_nil]; rfl) ?_
      with_reducible refine ((HHM.out _ (hHeld.2.2.2.2.2.2.2.2.2.2.2.2.2.2.2.2.2.2.2.2.2.2.2.2.2))).mono ?_
      rintro e w21 ⟨rfl, hb⟩
      refine ⟨_, rfl, ?_⟩
      have hz1 := SPR.below (hHeld.2.2.2.2.2.2.2.2.2.2.2.2.2.2.2.2.2.2.2.2.2.2.2.2.2) hb
      refine hK.out _ _ ⟨((six_cells ((SPR.spl hz1).get 0 rfl)).1), ((six_cells ((SPR.spl hz1).get 0 rfl)).2.1), ((six_cells ((SPR.spl hz1).get 0 rfl)).2.2.1), ((six_cells ((SPR.spl hz1).get 0 rfl)).2.2.2.1), ((six_cells ((SPR.spl hz1).get 0 rfl)).2.2.2.2.1), ((six_cells ((SPR.spl hz1).get 0 rfl)).2.2.2.2.2.1), ((six_cells ((SPR.spl hz1).get 1 rfl)).1), ((six_cells ((SPR.spl hz1).get 1 rfl)).2.1), ((six_cells ((SPR.spl hz1).get 1 rfl)).2.2.1), ((six_cells ((SPR.spl hz1).get 1 rfl)).2.2.2.1), ((six_cells ((SPR.spl hz1).get 1 rfl)).2.2.2.2.1), ((six_cells ((SPR.spl hz1).get 1 rfl)).2.2.2.2.2.1), ((sev_cells ((SPR.spl hz1).get 2 rfl)).1), ((sev_cells ((SPR.spl hz1).get 2 rfl)).2.1), ((sev_cells ((SPR.spl hz1).get 2 rfl)).2.2.1), ((sev_cells ((SPR.spl hz1).get 2 rfl)).2.2.2.1), ((sev_cells ((SPR.spl hz1).get 2 rfl)).2.2.2.2.1), ((sev_cells ((SPR.spl hz1).get 2 rfl)).2.2.2.2.2.1), ((sev_cells ((SPR.spl hz1).get 2 rfl)).2.2.2.2.2.2.1), ((six_cells ((SPR.spl hz1).get 3 rfl)).1), ((six_cells ((SPR.spl hz1).get 3 rfl)).2.1), ((six_cells ((SPR.spl hz1).get 3 rfl)).2.2.1), ((six_cells ((SPR.spl hz1).get 3 rfl)).2.2.2.1), ((six_cells ((SPR.spl hz1).get 3 rfl)).2.2.2.2.1), ((six_cells ((SPR.spl hz1).get 3 rfl)).2.2.2.2.2.1), hz1⟩ (fun hHeld => ?_)
      clear hK K
      refine norm_ (a' := ?_) ?_ ?_
      rotate_left
      · show Act.put _ (some 55) _ = _
        simp only [Act.put, List.setIfInBounds_toArray, List.set_cons_zero, List.set_cons_succ, i64_w, i32_w]
        rfl
      refine one_ (i := 10) (N := some 58) #[true, true, true, true, true, true, true, true, true, true, true, false, false, false, false, false, false, false, false, false, false, false, false, false, false, false, false] rfl rfl (by kernel_rfl) (by decide) (fun K hK => ?_)
      refine goes_ Tryz.func21 (by kernel_rfl) rfl #[.agg #[.int .i64 xa.f0, .int .i64 xa.f1, .string xa.f2, .slice A3a xa.f3.length c3a, .slice A4a xa.f4.length c4a, .slice A5a xa.f5.length c5a], .string key] (by rfl) rfl rfl (by simp only [List.map_toArray, List.map_cons, List.map_nil]; rfl) ?_
      with_reducible refine ((HHA.out _ (SPR.bel hz1))).mono ?_
      rintro e w22 ⟨rfl, hb⟩
      refine ⟨_, rfl, ?_⟩
      have hz2 := SPR.below hz1 hb
      refine hK.out _ _ ⟨((six_cells ((SPR.spl hz2).get 0 rfl)).1), ((six_cells ((SPR.spl hz2).get 0 rfl)).2.1), ((six_cells ((SPR.spl hz2).get 0 rfl)).2.2.1), ((six_cells ((SPR.spl hz2).get 0 rfl)).2.2.2.1), ((six_cells ((SPR.spl hz2).get 0 rfl)).2.2.2.2.1), ((six_cells ((SPR.spl hz2).get 0 rfl)).2.2.2.2.2.1), ((six_cells ((SPR.spl hz2).get 1 rfl)).1), ((six_cells ((SPR.spl hz2).get 1 rfl)).2.1), ((six_cells ((SPR.spl hz2).get 1 rfl)).2.2.1), ((six_cells ((SPR.spl hz2).get 1 rfl)).2.2.2.1), ((six_cells ((SPR.spl hz2).get 1 rfl)).2.2.2.2.1), ((six_cells ((SPR.spl hz2).get 1 rfl)).2.2.2.2.2.1), ((sev_cells ((SPR.spl hz2).get 2 rfl)).1), ((sev_cells ((SPR.spl hz2).get 2 rfl)).2.1), ((sev_cells ((SPR.spl hz2).get 2 rfl)).2.2.1), ((sev_cells ((SPR.spl hz2).get 2 rfl)).2.2.2.1), ((sev_cells ((SPR.spl hz2).get 2 rfl)).2.2.2.2.1), ((sev_cells ((SPR.spl hz2).get 2 rfl)).2.2.2.2.2.1), ((sev_cells ((SPR.spl hz2).get 2 rfl)).2.2.2.2.2.2.1), ((six_cells ((SPR.spl hz2).get 3 rfl)).1), ((six_cells ((SPR.spl hz2).get 3 rfl)).2.1), ((six_cells ((SPR.spl hz2).get 3 rfl)).2.2.1), ((six_cells ((SPR.spl hz2).get 3 rfl)).2.2.2.1), ((six_cells ((SPR.spl hz2).get 3 rfl)).2.2.2.2.1), ((six_cells ((SPR.spl hz2).get 3 rfl)).2.2.2.2.2.1), hz2⟩ (fun hHeld => ?_)
      clear hK K
      refine norm_ (a' := ?_) ?_ ?_
      rotate_left
      · show Act.put _ (some 58) _ = _
        simp only [Act.put, List.setIfInBounds_toArray, List.set_cons_zero, List.set_cons_succ, i64_w, i32_w]
        rfl
      refine pure_ (i := 11) (N := some 59) (v := ?_) (a' := ?_) #[true, true, true, true, true, true, true, true, true, true, true, true, false, false, false, false, false, false, false, false, false, false, false, false, false, false, false] rfl rfl (by kernel_rfl) (fun _ _ _ h => h) (Or.inl ⟨by rfl, ?_⟩) ?_ ?_
      rotate_left
      · intro w'
        go_simp
        with_reducible rfl
      rotate_left
      · simp only [Act.put, List.setIfInBounds_toArray, List.set_cons_zero, List.set_cons_succ, i64_w, i32_w]
        rfl
      refine pure_ (i := 13) (N := some 61) (v := ?_) (a' := ?_) #[true, true, true, true, true, true, true, true, true, true, true, true, false, true, false, false, false, false, false, false, false, false, false, false, false, false, false] rfl rfl (by kernel_rfl) (fun _ _ _ h => h) (Or.inl ⟨by rfl, ?_⟩) ?_ ?_
      rotate_left
      · intro w'
        go_simp
        with_reducible rfl
      rotate_left
      · simp only [Act.put, List.setIfInBounds_toArray, List.set_cons_zero, List.set_cons_succ, i64_w, i32_w]
        rfl
      refine take_ (i := 12) (N := some 60) (v := ?_) (a' := ?_) #[true, true, true, true, true, true, true, true, true, true, true, true, true, true, false, false, false, false, false, false, false, false, false, false, false, false, false] rfl rfl (by kernel_rfl) (fun _ _ _ h => h) (Or.inl ⟨by rfl, ?_⟩) hHeld ?_ ?_
      rotate_left
      · rintro w' ⟨s0, s1, s2, s3, s4, s5, s6, s7, s8, s9, s10, s11, s12, s13, s14, s15, s16, s17, s18, s19, s20, s21, s22, s23, s24, s25⟩
        go_simp
        with_reducible rfl
      rotate_left
      · simp only [Act.put, List.setIfInBounds_toArray, List.set_cons_zero, List.set_cons_succ, i64_w, i32_w]
        rfl
      refine one_ (i := 14) (N := some 62) #[true, true, true, true, true, true, true, true, true, true, true, true, true, true, true, false, false, false, false, false, false, false, false, false, false, false, false] rfl rfl (by kernel_rfl) (by decide) (fun K hK => ?_)
      refine goes_ Tryz.func21 (by kernel_rfl) rfl #[.agg #[.int .i64 xb.f0, .int .i64 xb.f1, .string xb.f2, .slice A3b xb.f3.length c3b, .slice A4b xb.f4.length c4b, .slice A5b xb.f5.length c5b], .string key] (by rfl) rfl rfl (by simp only [List.map_toArray, List.map_cons, List.map_nil]; rfl) ?_
      with_reducible refine ((HHB.out _ (SPR.bel hz2))).mono ?_
      rintro e w23 ⟨rfl, hb⟩
      refine ⟨_, rfl, ?_⟩
      have hz3 := SPR.below hz2 hb
      refine hK.out _ _ ⟨((six_cells ((SPR.spl hz3).get 0 rfl)).1), ((six_cells ((SPR.spl hz3).get 0 rfl)).2.1), ((six_cells ((SPR.spl hz3).get 0 rfl)).2.2.1), ((six_cells ((SPR.spl hz3).get 0 rfl)).2.2.2.1), ((six_cells ((SPR.spl hz3).get 0 rfl)).2.2.2.2.1), ((six_cells ((SPR.spl hz3).get 0 rfl)).2.2.2.2.2.1), ((six_cells ((SPR.spl hz3).get 1 rfl)).1), ((six_cells ((SPR.spl hz3).get 1 rfl)).2.1), ((six_cells ((SPR.spl hz3).get 1 rfl)).2.2.1), ((six_cells ((SPR.spl hz3).get 1 rfl)).2.2.2.1), ((six_cells ((SPR.spl hz3).get 1 rfl)).2.2.2.2.1), ((six_cells ((SPR.spl hz3).get 1 rfl)).2.2.2.2.2.1), ((sev_cells ((SPR.spl hz3).get 2 rfl)).1), ((sev_cells ((SPR.spl hz3).get 2 rfl)).2.1), ((sev_cells ((SPR.spl hz3).get 2 rfl)).2.2.1), ((sev_cells ((SPR.spl hz3).get 2 rfl)).2.2.2.1), ((sev_cells ((SPR.spl hz3).get 2 rfl)).2.2.2.2.1), ((sev_cells ((SPR.spl hz3).get 2 rfl)).2.2.2.2.2.1), ((sev_cells ((SPR.spl hz3).get 2 rfl)).2.2.2.2.2.2.1), ((six_cells ((SPR.spl hz3).get 3 rfl)).1), ((six_cells ((SPR.spl hz3).get 3 rfl)).2.1), ((six_cells ((SPR.spl hz3).get 3 rfl)).2.2.1), ((six_cells ((SPR.spl hz3).get 3 rfl)).2.2.2.1), ((six_cells ((SPR.spl hz3).get 3 rfl)).2.2.2.2.1), ((six_cells ((SPR.spl hz3).get 3 rfl)).2.2.2.2.2.1), hz3⟩ (fun hHeld => ?_)
      clear hK K
      refine norm_ (a' := ?_) ?_ ?_
      rotate_left
      · show Act.put _ (some 62) _ = _
        simp only [Act.put, List.setIfInBounds_toArray, List.set_cons_zero, List.set_cons_succ, i64_w, i32_w]
        rfl
      refine pure_ (i := 15) (N := some 63) (v := ?_) (a' := ?_) #[true, true, true, true, true, true, true, true, true, true, true, true, true, true, true, true, false, false, false, false, false, false, false, false, false, false, false] rfl rfl (by kernel_rfl) (fun _ _ _ h => h) (Or.inl ⟨by rfl, ?_⟩) ?_ ?_
      rotate_left
      · intro w'
        go_simp
        with_reducible rfl
      rotate_left
      · simp only [Act.put, List.setIfInBounds_toArray, List.set_cons_zero, List.set_cons_succ, i64_w, i32_w]
        rfl
      refine pure_ (i := 16) (N := some 64) (v := ?_) (a' := ?_) #[true, true, true, true, true, true, true, true, true, true, true, true, true, true, true, true, true, false, false, false, false, false, false, false, false, false, false] rfl rfl (by kernel_rfl) (fun _ _ _ h => h) (Or.inl ⟨by rfl, ?_⟩) ?_ ?_
      rotate_left
      · intro w'
        go_simp
        with_reducible rfl
      rotate_left
      · simp only [Act.put, List.setIfInBounds_toArray, List.set_cons_zero, List.set_cons_succ, i64_w, i32_w]
        rfl
      refine pure_ (i := 17) (N := some 65) (v := ?_) (a' := ?_) #[true, true, true, true, true, true, true, true, true, true, true, true, true, true, true, true, true, true, false, false, false, false, false, false, false, false, false] rfl rfl (by kernel_rfl) (fun _ _ _ h => h) (Or.inl ⟨by rfl, ?_⟩) ?_ ?_
      rotate_left
      · intro w'
        go_simp
        with_reducible rfl
      rotate_left
      · simp only [Act.put, List.setIfInBounds_toArray, List.set_cons_zero, List.set_cons_succ, i64_w, i32_w]
        rfl
      refine pure_ (i := 18) (N := some 66) (v := ?_) (a' := ?_) #[true, true, true, true, true, true, true, true, true, true, true, true, true, true, true, true, true, true, true, false, false, false, false, false, false, false, false] rfl rfl (by kernel_rfl) (fun _ _ _ h => h) (Or.inl ⟨by rfl, ?_⟩) ?_ ?_
      rotate_left
      · intro w'
        go_simp
        with_reducible rfl
      rotate_left
      · simp only [Act.put, List.setIfInBounds_toArray, List.set_cons_zero, List.set_cons_succ, i64_w, i32_w]
        rfl
      refine pure_ (i := 19) (N := some 67) (v := ?_) (a' := ?_) #[true, true, true, true, true, true, true, true, true, true, true, true, true, true, true, true, true, true, true, true, false, false, false, false, false, false, false] rfl rfl (by kernel_rfl) (fun _ _ _ h => h) (Or.inl ⟨by rfl, ?_⟩) ?_ ?_
      rotate_left
      · intro w'
        go_simp
        with_reducible rfl
      rotate_left
      · simp only [Act.put, List.setIfInBounds_toArray, List.set_cons_zero, List.set_cons_succ, i64_w, i32_w]
        rfl
      refine pure_ (i := 21) (N := some 69) (v := ?_) (a' := ?_) #[true, true, true, true, true, true, true, true, true, true, true, true, true, true, true, true, true, true, true, true, false, true, false, false, false, false, false] rfl rfl (by kernel_rfl) (fun _ _ _ h => h) (Or.inl ⟨by rfl, ?_⟩) ?_ ?_
      rotate_left
      · intro w'
        go_simp
        with_reducible rfl
      rotate_left
      · simp only [Act.put, List.setIfInBounds_toArray, List.set_cons_zero, List.set_cons_succ, i64_w, i32_w]
        rfl
      refine take_ (i := 20) (N := some 68) (v := ?_) (a' := ?_) #[true, true, true, true, true, true, true, true, true, true, true, true, true, true, true, true, true, true, true, true, true, true, false, false, false, false, false] rfl rfl (by kernel_rfl) (fun _ _ _ h => h) (Or.inl ⟨by rfl, ?_⟩) hHeld ?_ ?_
      rotate_left
      · rintro w' ⟨s0, s1, s2, s3, s4, s5, s6, s7, s8, s9, s10, s11, s12, s13, s14, s15, s16, s17, s18, s19, s20, s21, s22, s23, s24, s25⟩
        go_simp
        with_reducible rfl
      rotate_left
      · simp only [Act.put, List.setIfInBounds_toArray, List.set_cons_zero, List.set_cons_succ, i64_w, i32_w]
        rfl
      refine take_ (i := 23) (N := some 71) (v := ?_) (a' := ?_) #[true, true, true, true, true, true, true, true, true, true, true, true, true, true, true, true, true, true, true, true, true, true, false, true, false, false, false] rfl rfl (by kernel_rfl) (fun _ _ _ h => h) (Or.inl ⟨by rfl, ?_⟩) hHeld ?_ ?_
      rotate_left
      · rintro w' ⟨s0, s1, s2, s3, s4, s5, s6, s7, s8, s9, s10, s11, s12, s13, s14, s15, s16, s17, s18, s19, s20, s21, s22, s23, s24, s25⟩
        go_simp
        with_reducible rfl
      rotate_left
      · simp only [Act.put, List.setIfInBounds_toArray, List.set_cons_zero, List.set_cons_succ, i64_w, i32_w]
        rfl
      refine one_ (i := 22) (N := some 70) #[true, true, true, true, true, true, true, true, true, true, true, true, true, true, true, true, true, true, true, true, true, true, true, true, false, false, false] rfl rfl (by kernel_rfl) (by decide) (fun K hK => ?_)
      refine goes_ Tryz.func20 (by kernel_rfl) rfl #[.agg #[.int .i64 m.f0, .int .i64 m.f1, .string m.f2, .slice B3m m.f3.length d3m, .slice B4m m.f4.length d4m, .slice B5m m.f5.length d5m], .string key] (by rfl) rfl rfl (by simp only [List.map_toArray, List.map_cons, List.map_nil]; rfl) ?_
      with_reducible refine ((HGR.out _ hz3)).mono ?_
      rintro e w24 ⟨B3v, d3v, B4v, d4v, B5v, d5v, rfl, hKv, hb⟩
      refine ⟨_, rfl, ?_⟩
      have hz4 := SPR.below hz3 hb
      refine hK.out _ _ ⟨((six_cells ((SPR.spl hz4).get 0 rfl)).1), ((six_cells ((SPR.spl hz4).get 0 rfl)).2.1), ((six_cells ((SPR.spl hz4).get 0 rfl)).2.2.1), ((six_cells ((SPR.spl hz4).get 0 rfl)).2.2.2.1), ((six_cells ((SPR.spl hz4).get 0 rfl)).2.2.2.2.1), ((six_cells ((SPR.spl hz4).get 0 rfl)).2.2.2.2.2.1), ((six_cells ((SPR.spl hz4).get 1 rfl)).1), ((six_cells ((SPR.spl hz4).get 1 rfl)).2.1), ((six_cells ((SPR.spl hz4).get 1 rfl)).2.2.1), ((six_cells ((SPR.spl hz4).get 1 rfl)).2.2.2.1), ((six_cells ((SPR.spl hz4).get 1 rfl)).2.2.2.2.1), ((six_cells ((SPR.spl hz4).get 1 rfl)).2.2.2.2.2.1), ((sev_cells ((SPR.spl hz4).get 2 rfl)).1), ((sev_cells ((SPR.spl hz4).get 2 rfl)).2.1), ((sev_cells ((SPR.spl hz4).get 2 rfl)).2.2.1), ((sev_cells ((SPR.spl hz4).get 2 rfl)).2.2.2.1), ((sev_cells ((SPR.spl hz4).get 2 rfl)).2.2.2.2.1), ((sev_cells ((SPR.spl hz4).get 2 rfl)).2.2.2.2.2.1), ((sev_cells ((SPR.spl hz4).get 2 rfl)).2.2.2.2.2.2.1), ((six_cells ((SPR.spl hz4).get 3 rfl)).1), ((six_cells ((SPR.spl hz4).get 3 rfl)).2.1), ((six_cells ((SPR.spl hz4).get 3 rfl)).2.2.1), ((six_cells ((SPR.spl hz4).get 3 rfl)).2.2.2.1), ((six_cells ((SPR.spl hz4).get 3 rfl)).2.2.2.2.1), ((six_cells ((SPR.spl hz4).get 3 rfl)).2.2.2.2.2.1), hz4⟩ (fun hHeld => ?_)
      clear hK K
      refine norm_ (a' := ?_) ?_ ?_
      rotate_left
      · show Act.put _ (some 70) _ = _
        simp only [Act.put, List.setIfInBounds_toArray, List.set_cons_zero, List.set_cons_succ, i64_w, i32_w]
        rfl
      refine one_ (i := 24) (N := some 72) #[true, true, true, true, true, true, true, true, true, true, true, true, true, true, true, true, true, true, true, true, true, true, true, true, true, false, false] rfl rfl (by kernel_rfl) (by decide) (fun K hK => ?_)
      refine goes_ Tryz.func22 (by kernel_rfl) rfl #[.agg #[.int .i64 gm.f0, .int .i64 gm.f1, .string gm.f2, .slice B3v gm.f3.length d3v, .slice B4v gm.f4.length d4v, .slice B5v gm.f5.length d5v], .agg #[.int .i64 gb.f0, .int .i64 gb.f1, .string gb.f2, .slice B3q gb.f3.length d3q, .slice B4q gb.f4.length d4q, .slice B5q gb.f5.length d5q]] (by rfl) rfl rfl (by simp only [List.map_toArray, List.map_cons, List.map_nil]; rfl) ?_
      with_reducible refine ((HSM.out _ _ (SPR.bel hz4) hb hKv)).mono ?_
      rintro e w25 ⟨rfl, hb2⟩
      refine ⟨_, rfl, ?_⟩
      have hz5 := SPR.below hz4 hb2
      refine hK.out _ _ ⟨((six_cells ((SPR.spl hz5).get 0 rfl)).1), ((six_cells ((SPR.spl hz5).get 0 rfl)).2.1), ((six_cells ((SPR.spl hz5).get 0 rfl)).2.2.1), ((six_cells ((SPR.spl hz5).get 0 rfl)).2.2.2.1), ((six_cells ((SPR.spl hz5).get 0 rfl)).2.2.2.2.1), ((six_cells ((SPR.spl hz5).get 0 rfl)).2.2.2.2.2.1), ((six_cells ((SPR.spl hz5).get 1 rfl)).1), ((six_cells ((SPR.spl hz5).get 1 rfl)).2.1), ((six_cells ((SPR.spl hz5).get 1 rfl)).2.2.1), ((six_cells ((SPR.spl hz5).get 1 rfl)).2.2.2.1), ((six_cells ((SPR.spl hz5).get 1 rfl)).2.2.2.2.1), ((six_cells ((SPR.spl hz5).get 1 rfl)).2.2.2.2.2.1), ((sev_cells ((SPR.spl hz5).get 2 rfl)).1), ((sev_cells ((SPR.spl hz5).get 2 rfl)).2.1), ((sev_cells ((SPR.spl hz5).get 2 rfl)).2.2.1), ((sev_cells ((SPR.spl hz5).get 2 rfl)).2.2.2.1), ((sev_cells ((SPR.spl hz5).get 2 rfl)).2.2.2.2.1), ((sev_cells ((SPR.spl hz5).get 2 rfl)).2.2.2.2.2.1), ((sev_cells ((SPR.spl hz5).get 2 rfl)).2.2.2.2.2.2.1), ((six_cells ((SPR.spl hz5).get 3 rfl)).1), ((six_cells ((SPR.spl hz5).get 3 rfl)).2.1), ((six_cells ((SPR.spl hz5).get 3 rfl)).2.2.1), ((six_cells ((SPR.spl hz5).get 3 rfl)).2.2.2.1), ((six_cells ((SPR.spl hz5).get 3 rfl)).2.2.2.2.1), ((six_cells ((SPR.spl hz5).get 3 rfl)).2.2.2.2.2.1), hz5⟩ (fun hHeld => ?_)
      clear hK K
      refine norm_ (a' := ?_) ?_ ?_
      rotate_left
      · show Act.put _ (some 72) _ = _
        simp only [Act.put, List.setIfInBounds_toArray, List.set_cons_zero, List.set_cons_succ, i64_w, i32_w]
        rfl
      refine pure_ (i := 25) (N := some 73) (v := ?_) (a' := ?_) #[true, true, true, true, true, true, true, true, true, true, true, true, true, true, true, true, true, true, true, true, true, true, true, true, true, true, false] rfl rfl (by kernel_rfl) (fun _ _ _ h => h) (Or.inl ⟨by rfl, ?_⟩) ?_ ?_
      rotate_left
      · intro w'
        go_simp
        with_reducible rfl
      rotate_left
      · simp only [Act.put, List.setIfInBounds_toArray, List.set_cons_zero, List.set_cons_succ, i64_w, i32_w]
        rfl
      refine pure_ (i := 26) (N := some 6) (v := ?_) (a' := ?_) #[true, true, true, true, true, true, true, true, true, true, true, true, true, true, true, true, true, true, true, true, true, true, true, true, true, true, true] rfl rfl (by kernel_rfl) (fun _ _ _ h => h) (Or.inl ⟨by rfl, ?_⟩) ?_ ?_
      rotate_left
      · intro w'
        go_simp
        with_reducible rfl
      rotate_left
      · simp only [Act.put, List.setIfInBounds_toArray, List.set_cons_zero, List.set_cons_succ, i64_w, i32_w]
        rfl
      refine done_ (by kernel_rfl) ?_
      go_wp2_with fail
      go_ret
      exact ⟨rfl, hz5.bel⟩
    | true =>
      rw [hA0] at HHA
      have HHM : Hid (∀ w1, SPR w [(A, cv xa A3a c3a A4a c4a A5a c5a, 26), (B, cv xb A3b c3b A4b c4b A5b c5b, 26), (R, rc m B3m d3m B4m d4m B5m d5m, 30), (U, cv gb B3q d3q B4q d4q B5q d5q, 26)] [(m, rc m B3m d3m B4m d4m B5m d5m)] w1 → Calls Tryz.prog 21 #[.agg #[.int .i64 m.f0, .int .i64 m.f1, .string m.f2, .slice B3m m.f3.length d3m, .slice B4m m.f4.length d4m, .slice B5m m.f5.length d5m], .string key] w1 fun e w' => e = .returned (.bool true) ∧ Below w1.heap.size w1 w') := Lib.hid (by
        intro w1 h
        have h1 := has_any w1 m HM.out.1 _ _ _ _ _ _ (h.held 0 rfl) key w1 (Below.refl _ _)
        have h2 : hsV m key = true := by rw [HM.out.2.2, sum_has HW2.out, hA0, hB0]; rfl
        rw [h2] at h1
        exact h1)
      obtain ⟨gm, hgm⟩ : ∃ gm, gm = getV m key := ⟨_, rfl⟩
      have HGM : Hid (gm = gb ∧ WL gm) := Lib.hid (by
        rw [hgm]
        refine ⟨?_, wl_getV HM.out.1 key⟩
        rw [HM.out.2.2, sum_getV HW2.out, hB0]
        exact HGG.out.2.symm)
      have HGR : Hid (∀ w1, SPR w [(A, cv xa A3a c3a A4a c4a A5a c5a, 26), (B, cv xb A3b c3b A4b c4b A5b c5b, 26), (R, rc m B3m d3m B4m d4m B5m d5m, 30), (U, cv gb B3q d3q B4q d4q B5q d5q, 26)] [(m, rc m B3m d3m B4m d4m B5m d5m)] w1 → Calls Tryz.prog 20 #[.agg #[.int .i64 m.f0, .int .i64 m.f1, .string m.f2, .slice B3m m.f3.length d3m, .slice B4m m.f4.length d4m, .slice B5m m.f5.length d5m], .string key] w1 (ReadAs w1 gm w1)) := Lib.hid (by
        intro w1 h
        rw [hgm]
        exact get_any w1 m HM.out.1 _ _ _ _ _ _ (h.held 0 rfl) key w1 (Below.refl _ _))
      have HSM : Hid (∀ w1 w2 {B3 B4 B5 : Option Addr} {d3 d4 d5 : Nat}, Below w.heap.size w w2 → Below w1.heap.size w1 w2 → k26.K w1 gm [.int .i64 gm.f0, .int .i64 gm.f1, .string gm.f2, .slice B3 gm.f3.length d3, .slice B4 gm.f4.length d4, .slice B5 gm.f5.length d5] → Calls Tryz.prog 22 #[.agg #[.int .i64 gm.f0, .int .i64 gm.f1, .string gm.f2, .slice B3 gm.f3.length d3, .slice B4 gm.f4.length d4, .slice B5 gm.f5.length d5], .agg #[.int .i64 gb.f0, .int .i64 gb.f1, .string gb.f2, .slice B3q gb.f3.length d3q, .slice B4q gb.f4.length d4q, .slice B5q gb.f5.length d5q]] w2 fun e w' => e = .returned (.bool true) ∧ Below w2.heap.size w2 w') := Lib.hid (by
        intro w1 w2 B3 B4 B5 d3 d4 d5 h0 h1 hk
        have h2 := same_any w2 gm gb HGM.out.2 (by rw [← HGM.out.1]; exact HGM.out.2) (K_below hk h1) (K_below HKq.out h0) w2 (Below.refl _ _)
        simp only [vl] at h2
        rw [show (cmpV gm gb == 0) = true by rw [HGM.out.1, cmpV_self]; rfl] at h2
        exact h2)
      clear hgm
      go_wp2_with fail
      refine start_ (n := 27) (S := fun w' => w'.cell? ⟨A, 0, none⟩ = some (.int .i64 xa.f0) ∧ w'.cell? ⟨A, 1, none⟩ = some (.int .i64 xa.f1) ∧ w'.cell? ⟨A, 2, none⟩ = some (.string xa.f2) ∧ w'.cell? ⟨A, 3, none⟩ = some (.slice A3a xa.f3.length c3a) ∧ w'.cell? ⟨A, 4, none⟩ = some (.slice A4a xa.f4.length c4a) ∧ w'.cell? ⟨A, 5, none⟩ = some (.slice A5a xa.f5.length c5a) ∧ w'.cell? ⟨B, 0, none⟩ = some (.int .i64 xb.f0) ∧ w'.cell? ⟨B, 1, none⟩ = some (.int .i64 xb.f1) ∧ w'.cell? ⟨B, 2, none⟩ = some (.string xb.f2) ∧ w'.cell? ⟨B, 3, none⟩ = some (.slice A3b xb.f3.length c3b) ∧ w'.cell? ⟨B, 4, none⟩ = some (.slice A4b xb.f4.length c4b) ∧ w'.cell? ⟨B, 5, none⟩ = some (.slice A5b xb.f5.length c5b) ∧ w'.cell? ⟨R, 0, none⟩ = some (.int .i64 m.f0) ∧ w'.cell? ⟨R, 1, none⟩ = some (.int .i64 m.f1) ∧ w'.cell? ⟨R, 2, none⟩ = some (.string m.f2) ∧ w'.cell? ⟨R, 3, none⟩ = some (.slice B3m m.f3.length d3m) ∧ w'.cell? ⟨R, 4, none⟩ = some (.slice B4m m.f4.length d4m) ∧ w'.cell? ⟨R, 5, none⟩ = some (.slice B5m m.f5.length d5m) ∧ w'.cell? ⟨R, 6, none⟩ = some (.int .i64 0) ∧ w'.cell? ⟨U, 0, none⟩ = some (.int .i64 gb.f0) ∧ w'.cell? ⟨U, 1, none⟩ = some (.int .i64 gb.f1) ∧ w'.cell? ⟨U, 2, none⟩ = some (.string gb.f2) ∧ w'.cell? ⟨U, 3, none⟩ = some (.slice B3q gb.f3.length d3q) ∧ w'.cell? ⟨U, 4, none⟩ = some (.slice B4q gb.f4.length d4q) ∧ w'.cell? ⟨U, 5, none⟩ = some (.slice B5q gb.f5.length d5q) ∧ SPR w [(A, cv xa A3a c3a A4a c4a A5a c5a, 26), (B, cv xb A3b c3b A4b c4b A5b c5b, 26), (R, rc m B3m d3m B4m d4m B5m d5m, 30), (U, cv gb B3q d3q B4q d4q B5q d5q, 26)] [(m, rc m B3m d3m B4m d4m B5m d5m)] w') (ds := []) #[false, false, false, false, false, false, false, false, false, false, false, false, false, false, false, false, false, false, false, false, false, false, false, false, false, false, false] (by kernel_rfl) rfl rfl ⟨((six_cells ((SPR.spl (SPR.drew H9.out)).get 0 rfl)).1), ((six_cells ((SPR.spl (SPR.drew H9.out)).get 0 rfl)).2.1), ((six_cells ((SPR.spl (SPR.drew H9.out)).get 0 rfl)).2.2.1), ((six_cells ((SPR.spl (SPR.drew H9.out)).get 0 rfl)).2.2.2.1), ((six_cells ((SPR.spl (SPR.drew H9.out)).get 0 rfl)).2.2.2.2.1), ((six_cells ((SPR.spl (SPR.drew H9.out)).get 0 rfl)).2.2.2.2.2.1), ((six_cells ((SPR.spl (SPR.drew H9.out)).get 1 rfl)).1), ((six_cells ((SPR.spl (SPR.drew H9.out)).get 1 rfl)).2.1), ((six_cells ((SPR.spl (SPR.drew H9.out)).get 1 rfl)).2.2.1), ((six_cells ((SPR.spl (SPR.drew H9.out)).get 1 rfl)).2.2.2.1), ((six_cells ((SPR.spl (SPR.drew H9.out)).get 1 rfl)).2.2.2.2.1), ((six_cells ((SPR.spl (SPR.drew H9.out)).get 1 rfl)).2.2.2.2.2.1), ((sev_cells ((SPR.spl (SPR.drew H9.out)).get 2 rfl)).1), ((sev_cells ((SPR.spl (SPR.drew H9.out)).get 2 rfl)).2.1), ((sev_cells ((SPR.spl (SPR.drew H9.out)).get 2 rfl)).2.2.1), ((sev_cells ((SPR.spl (SPR.drew H9.out)).get 2 rfl)).2.2.2.1), ((sev_cells ((SPR.spl (SPR.drew H9.out)).get 2 rfl)).2.2.2.2.1), ((sev_cells ((SPR.spl (SPR.drew H9.out)).get 2 rfl)).2.2.2.2.2.1), ((sev_cells ((SPR.spl (SPR.drew H9.out)).get 2 rfl)).2.2.2.2.2.2.1), ((six_cells ((SPR.spl (SPR.drew H9.out)).get 3 rfl)).1), ((six_cells ((SPR.spl (SPR.drew H9.out)).get 3 rfl)).2.1), ((six_cells ((SPR.spl (SPR.drew H9.out)).get 3 rfl)).2.2.1), ((six_cells ((SPR.spl (SPR.drew H9.out)).get 3 rfl)).2.2.2.1), ((six_cells ((SPR.spl (SPR.drew H9.out)).get 3 rfl)).2.2.2.2.1), ((six_cells ((SPR.spl (SPR.drew H9.out)).get 3 rfl)).2.2.2.2.2.1), (SPR.drew H9.out)⟩ (fun hHeld => ?_)
      refine pure_ (i := 0) (N := some 48) (v := ?_) (a' := ?_) #[true, false, false, false, false, false, false, false, false, false, false, false, false, false, false, false, false, false, false, false, false, false, false, false, false, false, false] rfl rfl (by kernel_rfl) (fun _ _ _ h => h) (Or.inl ⟨by rfl, ?_⟩) ?_ ?_
      rotate_left
      · intro w'
        go_simp
        with_reducible rfl
      rotate_left
      · simp only [Act.put, List.setIfInBounds_toArray, List.set_cons_zero, List.set_cons_succ, i64_w, i32_w]
        rfl
      refine take_ (i := 1) (N := some 49) (v := ?_) (a' := ?_) #[true, true, false, false, false, false, false, false, false, false, false, false, false, false, false, false, false, false, false, false, false, false, false, false, false, false, false] rfl rfl (by kernel_rfl) (fun _ _ _ h => h) (Or.inl ⟨by rfl, ?_⟩) hHeld ?_ ?_
      rotate_left
      · rintro w' ⟨s0, s1, s2, s3, s4, s5, s6, s7, s8, s9, s10, s11, s12, s13, s14, s15, s16, s17, s18, s19, s20, s21, s22, s23, s24, s25⟩
        go_simp
        with_reducible rfl
      rotate_left
      · simp only [Act.put, List.setIfInBounds_toArray, List.set_cons_zero, List.set_cons_succ, i64_w, i32_w]
        rfl
      refine pure_ (i := 2) (N := some 50) (v := ?_) (a' := ?_) #[true, true, true, false, false, false, false, false, false, false, false, false, false, false, false, false, false, false, false, false, false, false, false, false, false, false, false] rfl rfl (by kernel_rfl) (fun _ _ _ h => h) (Or.inl ⟨by rfl, ?_⟩) ?_ ?_
      rotate_left
      · intro w'
        go_simp
        with_reducible rfl
      rotate_left
      · simp only [Act.put, List.setIfInBounds_toArray, List.set_cons_zero, List.set_cons_succ, i64_w, i32_w]
        rfl
      refine pure_ (i := 3) (N := some 51) (v := ?_) (a' := ?_) #[true, true, true, true, false, false, false, false, false, false, false, false, false, false, false, false, false, false, false, false, false, false, false, false, false, false, false] rfl rfl (by kernel_rfl) (fun _ _ _ h => h) (Or.inl ⟨by rfl, ?_⟩) ?_ ?_
      rotate_left
      · intro w'
        go_simp
        with_reducible rfl
      rotate_left
      · simp only [Act.put, List.setIfInBounds_toArray, List.set_cons_zero, List.set_cons_succ, i64_w, i32_w]
        rfl
      refine pure_ (i := 4) (N := some 52) (v := ?_) (a' := ?_) #[true, true, true, true, true, false, false, false, false, false, false, false, false, false, false, false, false, false, false, false, false, false, false, false, false, false, false] rfl rfl (by kernel_rfl) (fun _ _ _ h => h) (Or.inl ⟨by rfl, ?_⟩) ?_ ?_
      rotate_left
      · intro w'
        go_simp
        with_reducible rfl
      rotate_left
      · simp only [Act.put, List.setIfInBounds_toArray, List.set_cons_zero, List.set_cons_succ, i64_w, i32_w]
        rfl
      refine pure_ (i := 6) (N := some 54) (v := ?_) (a' := ?_) #[true, true, true, true, true, false, true, false, false, false, false, false, false, false, false, false, false, false, false, false, false, false, false, false, false, false, false] rfl rfl (by kernel_rfl) (fun _ _ _ h => h) (Or.inl ⟨by rfl, ?_⟩) ?_ ?_
      rotate_left
      · intro w'
        go_simp
        with_reducible rfl
      rotate_left
      · simp only [Act.put, List.setIfInBounds_toArray, List.set_cons_zero, List.set_cons_succ, i64_w, i32_w]
        rfl
      refine pure_ (i := 9) (N := some 57) (v := ?_) (a' := ?_) #[true, true, true, true, true, false, true, false, false, true, false, false, false, false, false, false, false, false, false, false, false, false, false, false, false, false, false] rfl rfl (by kernel_rfl) (fun _ _ _ h => h) (Or.inl ⟨by rfl, ?_⟩) ?_ ?_
      rotate_left
      · intro w'
        go_simp
        with_reducible rfl
      rotate_left
      · simp only [Act.put, List.setIfInBounds_toArray, List.set_cons_zero, List.set_cons_succ, i64_w, i32_w]
        rfl
      refine take_ (i := 5) (N := some 53) (v := ?_) (a' := ?_) #[true, true, true, true, true, true, true, false, false, true, false, false, false, false, false, false, false, false, false, false, false, false, false, false, false, false, false] rfl rfl (by kernel_rfl) (fun _ _ _ h => h) (Or.inl ⟨by rfl, ?_⟩) hHeld ?_ ?_
      rotate_left
      · rintro w' ⟨s0, s1, s2, s3, s4, s5, s6, s7, s8, s9, s10, s11, s12, s13, s14, s15, s16, s17, s18, s19, s20, s21, s22, s23, s24, s25⟩
        go_simp
        with_reducible rfl
      rotate_left
      · simp only [Act.put, List.setIfInBounds_toArray, List.set_cons_zero, List.set_cons_succ, i64_w, i32_w]
        rfl
      refine take_ (i := 8) (N := some 56) (v := ?_) (a' := ?_) #[true, true, true, true, true, true, true, false, true, true, false, false, false, false, false, false, false, false, false, false, false, false, false, false, false, false, false] rfl rfl (by kernel_rfl) (fun _ _ _ h => h) (Or.inl ⟨by rfl, ?_⟩) hHeld ?_ ?_
      rotate_left
      · rintro w' ⟨s0, s1, s2, s3, s4, s5, s6, s7, s8, s9, s10, s11, s12, s13, s14, s15, s16, s17, s18, s19, s20, s21, s22, s23, s24, s25⟩
        go_simp
        with_reducible rfl
      rotate_left
      · simp only [Act.put, List.setIfInBounds_toArray, List.set_cons_zero, List.set_cons_succ, i64_w, i32_w]
        rfl
      refine one_ (i := 7) (N := some 55) #[true, true, true, true, true, true, true, true, true, true, false, false, false, false, false, false, false, false, false, false, false, false, false, false, false, false, false] rfl rfl (by kernel_rfl) (by decide) (fun K hK => ?_)
      refine goes_ Tryz.func21 (by kernel_rfl) rfl #[.agg #[.int .i64 m.f0, .int .i64 m.f1, .string m.f2, .slice B3m m.f3.length d3m, .slice B4m m.f4.length d4m, .slice B5m m.f5.length d5m], .string key] (by rfl) rfl rfl (by simp only [List.map_toArray, List.map_cons, List.map_nil]; rfl) ?_
      with_reducible refine ((HHM.out _ (hHeld.2.2.2.2.2.2.2.2.2.2.2.2.2.2.2.2.2.2.2.2.2.2.2.2.2))).mono ?_
      rintro e w21 ⟨rfl, hb⟩
      refine ⟨_, rfl, ?_⟩
      have hz1 := SPR.below (hHeld.2.2.2.2.2.2.2.2.2.2.2.2.2.2.2.2.2.2.2.2.2.2.2.2.2) hb
      refine hK.out _ _ ⟨((six_cells ((SPR.spl hz1).get 0 rfl)).1), ((six_cells ((SPR.spl hz1).get 0 rfl)).2.1), ((six_cells ((SPR.spl hz1).get 0 rfl)).2.2.1), ((six_cells ((SPR.spl hz1).get 0 rfl)).2.2.2.1), ((six_cells ((SPR.spl hz1).get 0 rfl)).2.2.2.2.1), ((six_cells ((SPR.spl hz1).get 0 rfl)).2.2.2.2.2.1), ((six_cells ((SPR.spl hz1).get 1 rfl)).1), ((six_cells ((SPR.spl hz1).get 1 rfl)).2.1), ((six_cells ((SPR.spl hz1).get 1 rfl)).2.2.1), ((six_cells ((SPR.spl hz1).get 1 rfl)).2.2.2.1), ((six_cells ((SPR.spl hz1).get 1 rfl)).2.2.2.2.1), ((six_cells ((SPR.spl hz1).get 1 rfl)).2.2.2.2.2.1), ((sev_cells ((SPR.spl hz1).get 2 rfl)).1), ((sev_cells ((SPR.spl hz1).get 2 rfl)).2.1), ((sev_cells ((SPR.spl hz1).get 2 rfl)).2.2.1), ((sev_cells ((SPR.spl hz1).get 2 rfl)).2.2.2.1), ((sev_cells ((SPR.spl hz1).get 2 rfl)).2.2.2.2.1), ((sev_cells ((SPR.spl hz1).get 2 rfl)).2.2.2.2.2.1), ((sev_cells ((SPR.spl hz1).get 2 rfl)).2.2.2.2.2.2.1), ((six_cells ((SPR.spl hz1).get 3 rfl)).1), ((six_cells ((SPR.spl hz1).get 3 rfl)).2.1), ((six_cells ((SPR.spl hz1).get 3 rfl)).2.2.1), ((six_cells ((SPR.spl hz1).get 3 rfl)).2.2.2.1), ((six_cells ((SPR.spl hz1).get 3 rfl)).2.2.2.2.1), ((six_cells ((SPR.spl hz1).get 3 rfl)).2.2.2.2.2.1), hz1⟩ (fun hHeld => ?_)
      clear hK K
      refine norm_ (a' := ?_) ?_ ?_
      rotate_left
      · show Act.put _ (some 55) _ = _
        simp only [Act.put, List.setIfInBounds_toArray, List.set_cons_zero, List.set_cons_succ, i64_w, i32_w]
        rfl
      refine one_ (i := 10) (N := some 58) #[true, true, true, true, true, true, true, true, true, true, true, false, false, false, false, false, false, false, false, false, false, false, false, false, false, false, false] rfl rfl (by kernel_rfl) (by decide) (fun K hK => ?_)
      refine goes_ Tryz.func21 (by kernel_rfl) rfl #[.agg #[.int .i64 xa.f0, .int .i64 xa.f1, .string xa.f2, .slice A3a xa.f3.length c3a, .slice A4a xa.f4.length c4a, .slice A5a xa.f5.length c5a], .string key] (by rfl) rfl rfl (by simp only [List.map_toArray, List.map_cons, List.map_nil]; rfl) ?_
      with_reducible refine ((HHA.out _ (SPR.bel hz1))).mono ?_
      rintro e w22 ⟨rfl, hb⟩
      refine ⟨_, rfl, ?_⟩
      have hz2 := SPR.below hz1 hb
      refine hK.out _ _ ⟨((six_cells ((SPR.spl hz2).get 0 rfl)).1), ((six_cells ((SPR.spl hz2).get 0 rfl)).2.1), ((six_cells ((SPR.spl hz2).get 0 rfl)).2.2.1), ((six_cells ((SPR.spl hz2).get 0 rfl)).2.2.2.1), ((six_cells ((SPR.spl hz2).get 0 rfl)).2.2.2.2.1), ((six_cells ((SPR.spl hz2).get 0 rfl)).2.2.2.2.2.1), ((six_cells ((SPR.spl hz2).get 1 rfl)).1), ((six_cells ((SPR.spl hz2).get 1 rfl)).2.1), ((six_cells ((SPR.spl hz2).get 1 rfl)).2.2.1), ((six_cells ((SPR.spl hz2).get 1 rfl)).2.2.2.1), ((six_cells ((SPR.spl hz2).get 1 rfl)).2.2.2.2.1), ((six_cells ((SPR.spl hz2).get 1 rfl)).2.2.2.2.2.1), ((sev_cells ((SPR.spl hz2).get 2 rfl)).1), ((sev_cells ((SPR.spl hz2).get 2 rfl)).2.1), ((sev_cells ((SPR.spl hz2).get 2 rfl)).2.2.1), ((sev_cells ((SPR.spl hz2).get 2 rfl)).2.2.2.1), ((sev_cells ((SPR.spl hz2).get 2 rfl)).2.2.2.2.1), ((sev_cells ((SPR.spl hz2).get 2 rfl)).2.2.2.2.2.1), ((sev_cells ((SPR.spl hz2).get 2 rfl)).2.2.2.2.2.2.1), ((six_cells ((SPR.spl hz2).get 3 rfl)).1), ((six_cells ((SPR.spl hz2).get 3 rfl)).2.1), ((six_cells ((SPR.spl hz2).get 3 rfl)).2.2.1), ((six_cells ((SPR.spl hz2).get 3 rfl)).2.2.2.1), ((six_cells ((SPR.spl hz2).get 3 rfl)).2.2.2.2.1), ((six_cells ((SPR.spl hz2).get 3 rfl)).2.2.2.2.2.1), hz2⟩ (fun hHeld => ?_)
      clear hK K
      refine norm_ (a' := ?_) ?_ ?_
      rotate_left
      · show Act.put _ (some 58) _ = _
        simp only [Act.put, List.setIfInBounds_toArray, List.set_cons_zero, List.set_cons_succ, i64_w, i32_w]
        rfl
      refine pure_ (i := 11) (N := some 59) (v := ?_) (a' := ?_) #[true, true, true, true, true, true, true, true, true, true, true, true, false, false, false, false, false, false, false, false, false, false, false, false, false, false, false] rfl rfl (by kernel_rfl) (fun _ _ _ h => h) (Or.inl ⟨by rfl, ?_⟩) ?_ ?_
      rotate_left
      · intro w'
        go_simp
        with_reducible rfl
      rotate_left
      · simp only [Act.put, List.setIfInBounds_toArray, List.set_cons_zero, List.set_cons_succ, i64_w, i32_w]
        rfl
      refine pure_ (i := 12) (N := some 60) (v := undef) (a' := ?_) #[true, true, true, true, true, true, true, true, true, true, true, true, true, false, false, false, false, false, false, false, false, false, false, false, false, false, false] rfl rfl (by kernel_rfl) (fun _ _ _ h => h) (Or.inr ⟨by rfl, rfl⟩) ?_ ?_
      rotate_left
      · simp only [Act.put, List.setIfInBounds_toArray, List.set_cons_zero, List.set_cons_succ, i64_w, i32_w]
        rfl
      refine pure_ (i := 13) (N := some 61) (v := undef) (a' := ?_) #[true, true, true, true, true, true, true, true, true, true, true, true, true, true, false, false, false, false, false, false, false, false, false, false, false, false, false] rfl rfl (by kernel_rfl) (fun _ _ _ h => h) (Or.inr ⟨by rfl, rfl⟩) ?_ ?_
      rotate_left
      · simp only [Act.put, List.setIfInBounds_toArray, List.set_cons_zero, List.set_cons_succ, i64_w, i32_w]
        rfl
      refine pure_ (i := 14) (N := some 62) (v := undef) (a' := ?_) #[true, true, true, true, true, true, true, true, true, true, true, true, true, true, true, false, false, false, false, false, false, false, false, false, false, false, false] rfl rfl (by kernel_rfl) (fun _ _ _ h => h) (Or.inr ⟨by rfl, rfl⟩) ?_ ?_
      rotate_left
      · simp only [Act.put, List.setIfInBounds_toArray, List.set_cons_zero, List.set_cons_succ, i64_w, i32_w]
        rfl
      refine pure_ (i := 15) (N := some 63) (v := ?_) (a' := ?_) #[true, true, true, true, true, true, true, true, true, true, true, true, true, true, true, true, false, false, false, false, false, false, false, false, false, false, false] rfl rfl (by kernel_rfl) (fun _ _ _ h => h) (Or.inl ⟨by rfl, ?_⟩) ?_ ?_
      rotate_left
      · intro w'
        go_simp
        with_reducible rfl
      rotate_left
      · simp only [Act.put, List.setIfInBounds_toArray, List.set_cons_zero, List.set_cons_succ, i64_w, i32_w]
        rfl
      refine pure_ (i := 16) (N := some 64) (v := ?_) (a' := ?_) #[true, true, true, true, true, true, true, true, true, true, true, true, true, true, true, true, true, false, false, false, false, false, false, false, false, false, false] rfl rfl (by kernel_rfl) (fun _ _ _ h => h) (Or.inl ⟨by rfl, ?_⟩) ?_ ?_
      rotate_left
      · intro w'
        go_simp
        with_reducible rfl
      rotate_left
      · simp only [Act.put, List.setIfInBounds_toArray, List.set_cons_zero, List.set_cons_succ, i64_w, i32_w]
        rfl
      refine pure_ (i := 17) (N := some 65) (v := ?_) (a' := ?_) #[true, true, true, true, true, true, true, true, true, true, true, true, true, true, true, true, true, true, false, false, false, false, false, false, false, false, false] rfl rfl (by kernel_rfl) (fun _ _ _ h => h) (Or.inl ⟨by rfl, ?_⟩) ?_ ?_
      rotate_left
      · intro w'
        go_simp
        with_reducible rfl
      rotate_left
      · simp only [Act.put, List.setIfInBounds_toArray, List.set_cons_zero, List.set_cons_succ, i64_w, i32_w]
        rfl
      refine pure_ (i := 18) (N := some 66) (v := ?_) (a' := ?_) #[true, true, true, true, true, true, true, true, true, true, true, true, true, true, true, true, true, true, true, false, false, false, false, false, false, false, false] rfl rfl (by kernel_rfl) (fun _ _ _ h => h) (Or.inl ⟨by rfl, ?_⟩) ?_ ?_
      rotate_left
      · intro w'
        go_simp
        with_reducible rfl
      rotate_left
      · simp only [Act.put, List.setIfInBounds_toArray, List.set_cons_zero, List.set_cons_succ, i64_w, i32_w]
        rfl
      refine pure_ (i := 19) (N := some 67) (v := ?_) (a' := ?_) #[true, true, true, true, true, true, true, true, true, true, true, true, true, true, true, true, true, true, true, true, false, false, false, false, false, false, false] rfl rfl (by kernel_rfl) (fun _ _ _ h => h) (Or.inl ⟨by rfl, ?_⟩) ?_ ?_
      rotate_left
      · intro w'
        go_simp
        with_reducible rfl
      rotate_left
      · simp only [Act.put, List.setIfInBounds_toArray, List.set_cons_zero, List.set_cons_succ, i64_w, i32_w]
        rfl
      refine pure_ (i := 21) (N := some 69) (v := ?_) (a' := ?_) #[true, true, true, true, true, true, true, true, true, true, true, true, true, true, true, true, true, true, true, true, false, true, false, false, false, false, false] rfl rfl (by kernel_rfl) (fun _ _ _ h => h) (Or.inl ⟨by rfl, ?_⟩) ?_ ?_
      rotate_left
      · intro w'
        go_simp
        with_reducible rfl
      rotate_left
      · simp only [Act.put, List.setIfInBounds_toArray, List.set_cons_zero, List.set_cons_succ, i64_w, i32_w]
        rfl
      refine take_ (i := 20) (N := some 68) (v := ?_) (a' := ?_) #[true, true, true, true, true, true, true, true, true, true, true, true, true, true, true, true, true, true, true, true, true, true, false, false, false, false, false] rfl rfl (by kernel_rfl) (fun _ _ _ h => h) (Or.inl ⟨by rfl, ?_⟩) hHeld ?_ ?_
      rotate_left
      · rintro w' ⟨s0, s1, s2, s3, s4, s5, s6, s7, s8, s9, s10, s11, s12, s13, s14, s15, s16, s17, s18, s19, s20, s21, s22, s23, s24, s25⟩
        go_simp
        with_reducible rfl
      rotate_left
      · simp only [Act.put, List.setIfInBounds_toArray, List.set_cons_zero, List.set_cons_succ, i64_w, i32_w]
        rfl
      refine take_ (i := 23) (N := some 71) (v := ?_) (a' := ?_) #[true, true, true, true, true, true, true, true, true, true, true, true, true, true, true, true, true, true, true, true, true, true, false, true, false, false, false] rfl rfl (by kernel_rfl) (fun _ _ _ h => h) (Or.inl ⟨by rfl, ?_⟩) hHeld ?_ ?_
      rotate_left
      · rintro w' ⟨s0, s1, s2, s3, s4, s5, s6, s7, s8, s9, s10, s11, s12, s13, s14, s15, s16, s17, s18, s19, s20, s21, s22, s23, s24, s25⟩
        go_simp
        with_reducible rfl
      rotate_left
      · simp only [Act.put, List.setIfInBounds_toArray, List.set_cons_zero, List.set_cons_succ, i64_w, i32_w]
        rfl
      refine one_ (i := 22) (N := some 70) #[true, true, true, true, true, true, true, true, true, true, true, true, true, true, true, true, true, true, true, true, true, true, true, true, false, false, false] rfl rfl (by kernel_rfl) (by decide) (fun K hK => ?_)
      refine goes_ Tryz.func20 (by kernel_rfl) rfl #[.agg #[.int .i64 m.f0, .int .i64 m.f1, .string m.f2, .slice B3m m.f3.length d3m, .slice B4m m.f4.length d4m, .slice B5m m.f5.length d5m], .string key] (by rfl) rfl rfl (by simp only [List.map_toArray, List.map_cons, List.map_nil]; rfl) ?_
      with_reducible refine ((HGR.out _ hz2)).mono ?_
      rintro e w24 ⟨B3v, d3v, B4v, d4v, B5v, d5v, rfl, hKv, hb⟩
      refine ⟨_, rfl, ?_⟩
      have hz4 := SPR.below hz2 hb
      refine hK.out _ _ ⟨((six_cells ((SPR.spl hz4).get 0 rfl)).1), ((six_cells ((SPR.spl hz4).get 0 rfl)).2.1), ((six_cells ((SPR.spl hz4).get 0 rfl)).2.2.1), ((six_cells ((SPR.spl hz4).get 0 rfl)).2.2.2.1), ((six_cells ((SPR.spl hz4).get 0 rfl)).2.2.2.2.1), ((six_cells ((SPR.spl hz4).get 0 rfl)).2.2.2.2.2.1), ((six_cells ((SPR.spl hz4).get 1 rfl)).1), ((six_cells ((SPR.spl hz4).get 1 rfl)).2.1), ((six_cells ((SPR.spl hz4).get 1 rfl)).2.2.1), ((six_cells ((SPR.spl hz4).get 1 rfl)).2.2.2.1), ((six_cells ((SPR.spl hz4).get 1 rfl)).2.2.2.2.1), ((six_cells ((SPR.spl hz4).get 1 rfl)).2.2.2.2.2.1), ((sev_cells ((SPR.spl hz4).get 2 rfl)).1), ((sev_cells ((SPR.spl hz4).get 2 rfl)).2.1), ((sev_cells ((SPR.spl hz4).get 2 rfl)).2.2.1), ((sev_cells ((SPR.spl hz4).get 2 rfl)).2.2.2.1), ((sev_cells ((SPR.spl hz4).get 2 rfl)).2.2.2.2.1), ((sev_cells ((SPR.spl hz4).get 2 rfl)).2.2.2.2.2.1), ((sev_cells ((SPR.spl hz4).get 2 rfl)).2.2.2.2.2.2.1), ((six_cells ((SPR.spl hz4).get 3 rfl)).1), ((six_cells ((SPR.spl hz4).get 3 rfl)).2.1), ((six_cells ((SPR.spl hz4).get 3 rfl)).2.2.1), ((six_cells ((SPR.spl hz4).get 3 rfl)).2.2.2.1), ((six_cells ((SPR.spl hz4).get 3 rfl)).2.2.2.2.1), ((six_cells ((SPR.spl hz4).get 3 rfl)).2.2.2.2.2.1), hz4⟩ (fun hHeld => ?_)
      clear hK K
      refine norm_ (a' := ?_) ?_ ?_
      rotate_left
      · show Act.put _ (some 70) _ = _
        simp only [Act.put, List.setIfInBounds_toArray, List.set_cons_zero, List.set_cons_succ, i64_w, i32_w]
        rfl
      refine one_ (i := 24) (N := some 72) #[true, true, true, true, true, true, true, true, true, true, true, true, true, true, true, true, true, true, true, true, true, true, true, true, true, false, false] rfl rfl (by kernel_rfl) (by decide) (fun K hK => ?_)
      refine goes_ Tryz.func22 (by kernel_rfl) rfl #[.agg #[.int .i64 gm.f0, .int .i64 gm.f1, .string gm.f2, .slice B3v gm.f3.length d3v, .slice B4v gm.f4.length d4v, .slice B5v gm.f5.length d5v], .agg #[.int .i64 gb.f0, .int .i64 gb.f1, .string gb.f2, .slice B3q gb.f3.length d3q, .slice B4q gb.f4.length d4q, .slice B5q gb.f5.length d5q]] (by rfl) rfl rfl (by simp only [List.map_toArray, List.map_cons, List.map_nil]; rfl) ?_
      with_reducible refine ((HSM.out _ _ (SPR.bel hz4) hb hKv)).mono ?_
      rintro e w25 ⟨rfl, hb2⟩
      refine ⟨_, rfl, ?_⟩
      have hz5 := SPR.below hz4 hb2
      refine hK.out _ _ ⟨((six_cells ((SPR.spl hz5).get 0 rfl)).1), ((six_cells ((SPR.spl hz5).get 0 rfl)).2.1), ((six_cells ((SPR.spl hz5).get 0 rfl)).2.2.1), ((six_cells ((SPR.spl hz5).get 0 rfl)).2.2.2.1), ((six_cells ((SPR.spl hz5).get 0 rfl)).2.2.2.2.1), ((six_cells ((SPR.spl hz5).get 0 rfl)).2.2.2.2.2.1), ((six_cells ((SPR.spl hz5).get 1 rfl)).1), ((six_cells ((SPR.spl hz5).get 1 rfl)).2.1), ((six_cells ((SPR.spl hz5).get 1 rfl)).2.2.1), ((six_cells ((SPR.spl hz5).get 1 rfl)).2.2.2.1), ((six_cells ((SPR.spl hz5).get 1 rfl)).2.2.2.2.1), ((six_cells ((SPR.spl hz5).get 1 rfl)).2.2.2.2.2.1), ((sev_cells ((SPR.spl hz5).get 2 rfl)).1), ((sev_cells ((SPR.spl hz5).get 2 rfl)).2.1), ((sev_cells ((SPR.spl hz5).get 2 rfl)).2.2.1), ((sev_cells ((SPR.spl hz5).get 2 rfl)).2.2.2.1), ((sev_cells ((SPR.spl hz5).get 2 rfl)).2.2.2.2.1), ((sev_cells ((SPR.spl hz5).get 2 rfl)).2.2.2.2.2.1), ((sev_cells ((SPR.spl hz5).get 2 rfl)).2.2.2.2.2.2.1), ((six_cells ((SPR.spl hz5).get 3 rfl)).1), ((six_cells ((SPR.spl hz5).get 3 rfl)).2.1), ((six_cells ((SPR.spl hz5).get 3 rfl)).2.2.1), ((six_cells ((SPR.spl hz5).get 3 rfl)).2.2.2.1), ((six_cells ((SPR.spl hz5).get 3 rfl)).2.2.2.2.1), ((six_cells ((SPR.spl hz5).get 3 rfl)).2.2.2.2.2.1), hz5⟩ (fun hHeld => ?_)
      clear hK K
      refine norm_ (a' := ?_) ?_ ?_
      rotate_left
      · show Act.put _ (some 72) _ = _
        simp only [Act.put, List.setIfInBounds_toArray, List.set_cons_zero, List.set_cons_succ, i64_w, i32_w]
        rfl
      refine pure_ (i := 25) (N := some 73) (v := ?_) (a' := ?_) #[true, true, true, true, true, true, true, true, true, true, true, true, true, true, true, true, true, true, true, true, true, true, true, true, true, true, false] rfl rfl (by kernel_rfl) (fun _ _ _ h => h) (Or.inl ⟨by rfl, ?_⟩) ?_ ?_
      rotate_left
      · intro w'
        go_simp
        with_reducible rfl
      rotate_left
      · simp only [Act.put, List.setIfInBounds_toArray, List.set_cons_zero, List.set_cons_succ, i64_w, i32_w]
        rfl
      refine pure_ (i := 26) (N := some 6) (v := ?_) (a' := ?_) #[true, true, true, true, true, true, true, true, true, true, true, true, true, true, true, true, true, true, true, true, true, true, true, true, true, true, true] rfl rfl (by kernel_rfl) (fun _ _ _ h => h) (Or.inl ⟨by rfl, ?_⟩) ?_ ?_
      rotate_left
      · intro w'
        go_simp
        with_reducible rfl
      rotate_left
      · simp only [Act.put, List.setIfInBounds_toArray, List.set_cons_zero, List.set_cons_succ, i64_w, i32_w]
        rfl
      refine done_ (by kernel_rfl) ?_
      go_wp2_with fail
      go_ret
      exact ⟨rfl, hz5.bel⟩
end Go.Proofs.YtdaiodiafahkkaaGreatDoor.ValA
