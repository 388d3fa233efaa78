/-
FnReverseSlice: a slice of an array that is reversed.
-/
import Derived.Test.YtdaiodiafahkkaaGreatDoorMK
set_option linter.unusedSimpArgs false
set_option linter.unusedVariables false
namespace Go.Proofs.YtdaiodiafahkkaaGreatDoor.ValA
open Go.RowKit Go.Lib Go.Proofs.YtdaiodiafahkkaaGreatDoorW.PrintWords Go.Proofs.YtdaiodiafahkkaaGreatDoorW.PrintLast Go.Proofs.YtdaiodiafahkkaaGreatDoorW.PrintMore Go.Proofs.YtdaiodiafahkkaaGreatDoor.PzzFits1 Go.Proofs.YtdaiodiafahkkaaGreatDoor.NumA
attribute [local go_sem] run_val
set_option maxRecDepth 100000 in
set_option maxHeartbeats 20000000 in
theorem fnReverseSlice_any (w0 : World) (hE : Env w0) (A : Option Addr) (l : List V) (c : Nat) (hlc : l.length ≤ c) (hC : Kd.C k26 w0 A l.length l) (hz : ∀ y ∈ l, Sz y) (n1 : Int) (zn1 : (Lit.int .i8 n1).wf = true) (n2 : Int) (zn2 : (Lit.int .i8 n2).wf = true) :
    Calls Tryz.prog 11 #[.slice A l.length c, .int .i8 n1, .int .i8 n2] w0 fun e w' => e = .returned (.bool true) ∧ Below w0.heap.size w0 w' := by
  obtain ⟨w, hw⟩ : ∃ w, w = w0 := ⟨_, rfl⟩
  have hK := list_K hlc hC
  have hzl : Sz (lV l) := sz_lV hz
  have bn1 := i8_in zn1
  have bn2 := i8_in zn2
  clear zn1 zn2
  have HHD := Lib.hid (fun n hn w => held_any n1 n2 n bn1 bn2 hn w)
  have HZ := Lib.hid hzl
  have HF := Lib.hid (fun w1 hb => fits_new w0 hE hzl hK w1 hb)
  have HT := Lib.hid (fun h => toGo_any w0 _ (lV l) (Nat.lt_succ_self _) hzl h _ hK)
  have HAR := Lib.hid (fun A n c w => array_any A n c w)
  have HNU := Lib.hid (fun n w => number_any n w)
  clear hE hlc hC hz hK hzl
  subst hw
  by_cases c0 : (l.length : Int) > 2147483647
  · have d0 : decide ((l.length : Int) > 2147483647) = true := decide_eq_true c0
    clear c0
    go_enter Tryz.func11, Tryz.ntmps11
    go_wp2_with fail
    go_ret
    exact ⟨rfl, Below.refl _ _⟩
  have d0 : decide ((l.length : Int) > 2147483647) = false := decide_eq_false c0
  clear c0
  go_enter Tryz.func11, Tryz.ntmps11
  go_wp2_with fail
  refine (HAR.out _ _ _ _).mono ?_
  rintro e w1 ⟨rfl, hb⟩
  have H1 := Lib.hid hb
  clear hb
  go_wp2_with fail
  refine (HF.out w1 H1.out).mono ?_
  rintro e w2 ⟨r, rfl, hr, hb⟩
  have H2 := Lib.hid ((H1.out.alloc H1.out.size _).trans (hb.mono (Nat.le_trans H1.out.size (by rw [World.size_alloc]; omega))))
  clear hb H1 HF
  cases r with
  | false =>
    go_wp2_with fail
    go_ret
    exact ⟨rfl, H2.out⟩
  | true =>
  have HW := Lib.hid (hr (by trivial))
  clear hr
  have HT := Lib.hid (HT.out (loose HW.out))
  have hn : (lV l).f3.length ≤ 400 := wf_n3 HW.out
  replace hn : l.length ≤ 400 := hn
  have HHE := Lib.hid (HHD.out l.length (by omega))
  obtain ⟨i0, hi0⟩ : ∃ i0, i0 = cl n1 l.length := ⟨_, rfl⟩
  obtain ⟨k0, hk0⟩ : ∃ k0, k0 = max (cl n1 l.length) (cl n2 l.length) := ⟨_, rfl⟩
  rw [← hk0, ← hi0] at HHE
  have hb0 : 0 ≤ i0 ∧ i0 ≤ k0 ∧ k0 ≤ l.length := by have h1 := @cl_in n1 l.length (by omega); have h2 := @cl_in n2 l.length (by omega); omega
  obtain ⟨m1, hm1⟩ : ∃ m1, m1 = (l.length : Int) - k0 := ⟨_, rfl⟩
  obtain ⟨m2, hm2⟩ : ∃ m2, m2 = (l.length : Int) - i0 := ⟨_, rfl⟩
  clear hi0 hk0 HHD
  have hwl := (loose HW.out).h3
  have hzl := sz_h3 HZ.out
  obtain ⟨x1, hx1⟩ : ∃ x1, x1 = lV (lV l).f3.reverse := ⟨_, rfl⟩
  obtain ⟨x2, hx2⟩ : ∃ x2, x2 = lV (sliceL (lV l).f3 (some m1) (some m2)) := ⟨_, rfl⟩
  have HX1 : Hid (WL x1 ∧ Sz x1 ∧ x1.f0 = 5) := Lib.hid (by rw [hx1]; exact ⟨wl_lV (by rw [List.length_reverse]; show l.length ≤ _; omega) (fun y hy => hwl y (by simpa using hy)), sz_lV (fun y hy => hzl y (by simpa using hy)), rfl⟩)
  have HX2 : Hid (WL x2 ∧ Sz x2 ∧ x2.f0 = 5) := Lib.hid (by rw [hx2]; exact ⟨wl_lV (by have h1 := hi_in (some m1) (some m2) (lV l).f3.length; have h2 : (lV l).f3.length = l.length := rfl; rw [slice_len]; omega) (fun y hy => hwl y (slice_mem hy)), sz_lV (fun y hy => hzl y (slice_mem hy)), rfl⟩)
  obtain ⟨x3, hx3⟩ : ∃ x3, x3 = lV (sliceL x1.f3 (some i0) (some k0)) := ⟨_, rfl⟩
  obtain ⟨x4, hx4⟩ : ∃ x4, x4 = lV x2.f3.reverse := ⟨_, rfl⟩
  have HX34 : Hid (x3 = x4) := Lib.hid (by
    rw [hx3, hx4, hx1, hx2, hm1, hm2]
    show lV (sliceL l.reverse (some i0) (some k0)) = lV (sliceL l (some ((l.length : Int) - k0)) (some ((l.length : Int) - i0))).reverse
    rw [slice_rev l hb0.1 hb0.2.1 hb0.2.2])
  have HX3 : Hid (WL x3 ∧ Sz x3 ∧ x3.f0 = 5 ∧ (x3.f3.length : Int) = k0 - i0) := Lib.hid (by
    have h3 : sliceL x1.f3 (some i0) (some k0) = sliceL l.reverse (some i0) (some k0) := by rw [hx1]; rfl
    have h4 := hi_in (some i0) (some k0) l.reverse.length
    have h5 := slice_len l.reverse (some i0) (some k0)
    have h6 : l.reverse.length = l.length := List.length_reverse
    have c : ∀ j lo : Int, 0 ≤ j → lo ≤ j → j ≤ l.length → clampI j lo l.length = j := fun j lo a b d => by
      unfold clampI
      rw [if_neg (show ¬ j < 0 by omega), if_neg (by omega)]
      split <;> omega
    have a1 : loI (some i0) l.length = i0.toNat := by show (clampI i0 0 l.length).toNat = _; rw [c i0 0 hb0.1 hb0.1 (by omega)]
    have a2 : hiI (some i0) (some k0) l.length = k0.toNat := by show (clampI k0 (loI (some i0) l.length) l.length).toNat = _; rw [a1, c k0 _ (by omega) (by omega) hb0.2.2]
    rw [hx3, h3]
    have h7 : ∀ y ∈ sliceL l.reverse (some i0) (some k0), y ∈ (lV l).f3 := fun y hy => List.mem_reverse.1 (slice_mem hy)
    refine ⟨wl_lV (by omega) (fun y hy => hwl y (h7 y hy)), sz_lV (fun y hy => hzl y (h7 y hy)), rfl, ?_⟩
    show ((sliceL l.reverse (some i0) (some k0)).length : Int) = k0 - i0
    rw [h5, h6, a1, a2]
    omega)
  have HRV : Hid (∀ L rs w1, SPR w L rs w1 → Calls Tryz.prog 37 #[.agg #[.int .i64 5, .int .i64 0, .string ⟨#[]⟩, .slice A l.length c, .slice none 0 0, .slice none 0 0]] w1 fun e w' => ∃ cs, e = .returned (.agg cs) ∧ SPR w L (rs ++ [(x1, cs)]) w') := Lib.hid (by
    intro L rs w1 h
    rw [hx1]
    exact reverse_res w HT.out (loose HW.out) HZ.out rfl h h.bel)
  have HSL : Hid (∀ L rs w1, SPR w L rs w1 → Calls Tryz.prog 33 #[.agg #[.int .i64 5, .int .i64 0, .string ⟨#[]⟩, .slice A l.length c, .slice none 0 0, .slice none 0 0], .agg #[.int .i64 3, .int .i64 (2 * m1), .string ⟨#[]⟩, .slice none 0 0, .slice none 0 0, .slice none 0 0], .agg #[.int .i64 3, .int .i64 (2 * m2), .string ⟨#[]⟩, .slice none 0 0, .slice none 0 0, .slice none 0 0]] w1 fun e w' => ∃ cs, e = .returned (.agg cs) ∧ SPR w L (rs ++ [(x2, cs)]) w') := Lib.hid (by
    intro L rs w1 h
    rw [hx2]
    exact slice_res w HT.out (loose HW.out) HZ.out rfl (some m1) (some m2) (tiny_some (by omega) (by omega)) (tiny_some (by omega) (by omega)) h h.bel)
  have HSA : Hid (∀ L rs w1, SPR w L rs w1 → ∀ {B3 B4 B5 : Option Addr} {d3 d4 d5 : Nat} (i : Nat), rs[i]? = some (x1, #[.int .i64 x1.f0, .int .i64 x1.f1, .string x1.f2, .slice B3 x1.f3.length d3, .slice B4 x1.f4.length d4, .slice B5 x1.f5.length d5, .int .i64 0]) → Calls Tryz.prog 33 #[.agg #[.int .i64 x1.f0, .int .i64 x1.f1, .string x1.f2, .slice B3 x1.f3.length d3, .slice B4 x1.f4.length d4, .slice B5 x1.f5.length d5], .agg #[.int .i64 3, .int .i64 (2 * i0), .string ⟨#[]⟩, .slice none 0 0, .slice none 0 0, .slice none 0 0], .agg #[.int .i64 3, .int .i64 (2 * k0), .string ⟨#[]⟩, .slice none 0 0, .slice none 0 0, .slice none 0 0]] w1 fun e w' => ∃ cs, e = .returned (.agg cs) ∧ SPR w L (rs ++ [(x3, cs)]) w') := Lib.hid (by
    intro L rs w1 h B3 B4 B5 d3 d4 d5 i hi
    rw [hx3]
    exact slice_res w1 (h.toGo i hi HX1.out.1 HX1.out.2.1) HX1.out.1 HX1.out.2.1 HX1.out.2.2 (some i0) (some k0) (tiny_some (by omega) (by omega)) (tiny_some (by omega) (by omega)) h (Below.refl _ _))
  have HRB := Lib.hid (fun L rs w1 (h : SPR w L rs w1) {B3 B4 B5 : Option Addr} {d3 d4 d5 : Nat} (i : Nat) (hi : rs[i]? = some (x2, #[.int .i64 x2.f0, .int .i64 x2.f1, .string x2.f2, .slice B3 x2.f3.length d3, .slice B4 x2.f4.length d4, .slice B5 x2.f5.length d5, .int .i64 0])) => reverse_res w1 (h.toGo i hi HX2.out.1 HX2.out.2.1) HX2.out.1 HX2.out.2.1 HX2.out.2.2 h (Below.refl _ _))
  rw [← hx4] at HRB
  have q5 : (x3.f0 == 5) = true := by rw [HX3.out.2.2.1]; rfl
  have q6 : ((x3.f3.length : Int) == wrap64 (k0 - i0)) = true := by have h1 := HX3.out.2.2.2; rw [beq_iff_eq, h1]; unfold wrap64; omega
  have e1 : wrap64 ((l.length : Int) - k0) = m1 := by unfold wrap64; omega
  have e2 : wrap64 ((l.length : Int) - i0) = m2 := by unfold wrap64; omega
  have e3 : wrap64 (2 * m1) = 2 * m1 := by unfold wrap64; omega
  have e4 : wrap64 (2 * m2) = 2 * m2 := by unfold wrap64; omega
  have HE : Hid (wrap64 (2 * i0) = 2 * i0 ∧ wrap64 (2 * k0) = 2 * k0) := Lib.hid ⟨by unfold wrap64; omega, by unfold wrap64; omega⟩
  clear hx1 hx2 hx3 hx4 hwl hzl hn bn1 bn2 hb0 hm1 hm2
  go_wp2_with fail
  refine (HHE.out _).mono ?_
  rintro e w3 ⟨rfl, hb⟩
  have H3 := Lib.hid (H2.out.trans (hb.mono H2.out.size))
  clear hb H2 HHE
  go_wp2_with fail
  refine (HAR.out _ _ _ _).mono ?_
  rintro e w4 ⟨rfl, hb⟩
  have H4 := Lib.hid (spr0 (H3.out.trans (hb.mono H3.out.size)))
  clear hb H3
  go_wp2_with fail
  refine (HRV.out _ _ _ H4.out).mono ?_
  rintro e w5 ⟨cs, rfl, hS⟩
  obtain ⟨B3x, d3x, B4x, d4x, B5x, d5x, rfl⟩ := hS.cells 0 rfl
  have H5 := Lib.hid hS
  clear hS H4
  go_wp2_with fail
  obtain ⟨R, hR⟩ : ∃ R, R = w5.heap.size := ⟨_, rfl⟩
  obtain ⟨WR, hWR⟩ : ∃ WR, WR = w5.alloc (.cells #[.int .i64 x1.f0, .int .i64 x1.f1, .string x1.f2, .slice B3x x1.f3.length d3x, .slice B4x x1.f4.length d4x, .slice B5x x1.f5.length d5x, .int .i64 0] 30) := ⟨_, rfl⟩
  have hSR : SPR w [(R, rc x1 B3x d3x B4x d4x B5x d5x, 30)] [(x1, rc x1 B3x d3x B4x d4x B5x d5x)] WR := by rw [hR, hWR]; exact H5.out.more _ _
  rw [← hWR, ← hR]
  have HR := Lib.hid hSR
  clear hSR hWR hR H5
  refine (HAR.out _ _ _ _).mono ?_
  rintro e w6 ⟨rfl, hb⟩
  have H6 := Lib.hid (HR.out.below hb)
  clear hb HR
  go_wp2_with fail
  refine (HNU.out _ _).mono ?_
  rintro e w7 ⟨rfl, hb⟩
  have H7 := Lib.hid (H6.out.below hb)
  clear hb H6
  go_wp2_with fail
  refine (HNU.out _ _).mono ?_
  rintro e w8 ⟨rfl, hb⟩
  have H8 := Lib.hid (H7.out.below hb)
  clear hb H7
  go_wp2_with fail
  try simp only [e3, e4]
  refine (HSL.out _ _ _ H8.out).mono ?_
  rintro e w9 ⟨cs, rfl, hS⟩
  obtain ⟨B3y, d3y, B4y, d4y, B5y, d5y, rfl⟩ := hS.cells 1 rfl
  have H9 := Lib.hid hS
  clear hS H8
  go_wp2_with fail
  obtain ⟨S, hS⟩ : ∃ S, S = w9.heap.size := ⟨_, rfl⟩
  obtain ⟨WS, hWS⟩ : ∃ WS, WS = w9.alloc (.cells #[.int .i64 x2.f0, .int .i64 x2.f1, .string x2.f2, .slice B3y x2.f3.length d3y, .slice B4y x2.f4.length d4y, .slice B5y x2.f5.length d5y, .int .i64 0] 30) := ⟨_, rfl⟩
  have hSS : SPR w [(R, rc x1 B3x d3x B4x d4x B5x d5x, 30), (S, rc x2 B3y d3y B4y d4y B5y d5y, 30)] [(x1, rc x1 B3x d3x B4x d4x B5x d5x), (x2, rc x2 B3y d3y B4y d4y B5y d5y)] WS := by rw [hS, hWS]; exact H9.out.more _ _
  rw [← hWS, ← hS]
  have HS := Lib.hid hSS
  clear hSS hWS hS H9
  have HN1 : Hid (∀ w1, Calls Tryz.prog 34 #[.int .i64 i0] w1 fun e w' => e = .returned (.agg #[.int .i64 3, .int .i64 (2 * i0), .string ⟨#[]⟩, .slice none 0 0, .slice none 0 0, .slice none 0 0]) ∧ Below w1.heap.size w1 w') := Lib.hid (by
    intro w1
    have h := number_any i0 w1
    rw [HE.out.1] at h
    exact h)
  have HN2 : Hid (∀ w1, Calls Tryz.prog 34 #[.int .i64 k0] w1 fun e w' => e = .returned (.agg #[.int .i64 3, .int .i64 (2 * k0), .string ⟨#[]⟩, .slice none 0 0, .slice none 0 0, .slice none 0 0]) ∧ Below w1.heap.size w1 w') := Lib.hid (by
    intro w1
    have h := number_any k0 w1
    rw [HE.out.2] at h
    exact h)
  have HSq : ∀ w', SPR w [(R, rc x1 B3x d3x B4x d4x B5x d5x, 30), (S, rc x2 B3y d3y B4y d4y B5y d5y, 30)] [(x1, rc x1 B3x d3x B4x d4x B5x d5x), (x2, rc x2 B3y d3y B4y d4y B5y d5y)] w' → w'.cell? ⟨R, 0, none⟩ = some (.int .i64 x1.f0) ∧ w'.cell? ⟨R, 1, none⟩ = some (.int .i64 x1.f1) ∧ w'.cell? ⟨R, 2, none⟩ = some (.string x1.f2) ∧ w'.cell? ⟨R, 3, none⟩ = some (.slice B3x x1.f3.length d3x) ∧ w'.cell? ⟨R, 4, none⟩ = some (.slice B4x x1.f4.length d4x) ∧ w'.cell? ⟨R, 5, none⟩ = some (.slice B5x x1.f5.length d5x) ∧ w'.cell? ⟨R, 6, none⟩ = some (.int .i64 0) ∧ w'.cell? ⟨S, 0, none⟩ = some (.int .i64 x2.f0) ∧ w'.cell? ⟨S, 1, none⟩ = some (.int .i64 x2.f1) ∧ w'.cell? ⟨S, 2, none⟩ = some (.string x2.f2) ∧ w'.cell? ⟨S, 3, none⟩ = some (.slice B3y x2.f3.length d3y) ∧ w'.cell? ⟨S, 4, none⟩ = some (.slice B4y x2.f4.length d4y) ∧ w'.cell? ⟨S, 5, none⟩ = some (.slice B5y x2.f5.length d5y) ∧ w'.cell? ⟨S, 6, none⟩ = some (.int .i64 0) ∧ SPR w [(R, rc x1 B3x d3x B4x d4x B5x d5x, 30), (S, rc x2 B3y d3y B4y d4y B5y d5y, 30)] [(x1, rc x1 B3x d3x B4x d4x B5x d5x), (x2, rc x2 B3y d3y B4y d4y B5y d5y)] w' := fun w' h => ⟨((sev_cells ((SPR.spl h).get 0 rfl)).1), ((sev_cells ((SPR.spl h).get 0 rfl)).2.1), ((sev_cells ((SPR.spl h).get 0 rfl)).2.2.1), ((sev_cells ((SPR.spl h).get 0 rfl)).2.2.2.1), ((sev_cells ((SPR.spl h).get 0 rfl)).2.2.2.2.1), ((sev_cells ((SPR.spl h).get 0 rfl)).2.2.2.2.2.1), ((sev_cells ((SPR.spl h).get 0 rfl)).2.2.2.2.2.2.1), ((sev_cells ((SPR.spl h).get 1 rfl)).1), ((sev_cells ((SPR.spl h).get 1 rfl)).2.1), ((sev_cells ((SPR.spl h).get 1 rfl)).2.2.1), ((sev_cells ((SPR.spl h).get 1 rfl)).2.2.2.1), ((sev_cells ((SPR.spl h).get 1 rfl)).2.2.2.2.1), ((sev_cells ((SPR.spl h).get 1 rfl)).2.2.2.2.2.1), ((sev_cells ((SPR.spl h).get 1 rfl)).2.2.2.2.2.2.1), h⟩
  refine start_ (n := 14) (S := fun w' => w'.cell? ⟨R, 0, none⟩ = some (.int .i64 x1.f0) ∧ w'.cell? ⟨R, 1, none⟩ = some (.int .i64 x1.f1) ∧ w'.cell? ⟨R, 2, none⟩ = some (.string x1.f2) ∧ w'.cell? ⟨R, 3, none⟩ = some (.slice B3x x1.f3.length d3x) ∧ w'.cell? ⟨R, 4, none⟩ = some (.slice B4x x1.f4.length d4x) ∧ w'.cell? ⟨R, 5, none⟩ = some (.slice B5x x1.f5.length d5x) ∧ w'.cell? ⟨R, 6, none⟩ = some (.int .i64 0) ∧ w'.cell? ⟨S, 0, none⟩ = some (.int .i64 x2.f0) ∧ w'.cell? ⟨S, 1, none⟩ = some (.int .i64 x2.f1) ∧ w'.cell? ⟨S, 2, none⟩ = some (.string x2.f2) ∧ w'.cell? ⟨S, 3, none⟩ = some (.slice B3y x2.f3.length d3y) ∧ w'.cell? ⟨S, 4, none⟩ = some (.slice B4y x2.f4.length d4y) ∧ w'.cell? ⟨S, 5, none⟩ = some (.slice B5y x2.f5.length d5y) ∧ w'.cell? ⟨S, 6, none⟩ = some (.int .i64 0) ∧ SPR w [(R, rc x1 B3x d3x B4x d4x B5x d5x, 30), (S, rc x2 B3y d3y B4y d4y B5y d5y, 30)] [(x1, rc x1 B3x d3x B4x d4x B5x d5x), (x2, rc x2 B3y d3y B4y d4y B5y d5y)] w') (ds := []) #[false, false, false, false, false, false, false, false, false, false, false, false, false, false] (by kernel_rfl) rfl rfl (HSq _ (SPR.drew HS.out)) (fun hHeld => ?_)
  refine pure_ (i := 0) (N := some 45) (v := ?_) (a' := ?_) #[true, false, false, false, false, false, false, false, false, false, false, false, false, false] rfl rfl (by kernel_rfl) (fun _ _ _ h => h) (Or.inl ⟨by rfl, ?_⟩) ?_ ?_
  rotate_left
  · intro w'
    go_simp
    with_reducible rfl
  rotate_left
  · simp only [Act.put, List.setIfInBounds_toArray, List.set_cons_zero, List.set_cons_succ, i64_w, i32_w]
    rfl
  refine pure_ (i := 2) (N := some 47) (v := ?_) (a' := ?_) #[true, false, true, false, false, false, false, false, false, false, false, false, false, false] rfl rfl (by kernel_rfl) (fun _ _ _ h => h) (Or.inl ⟨by rfl, ?_⟩) ?_ ?_
  rotate_left
  · intro w'
    go_simp
    with_reducible rfl
  rotate_left
  · simp only [Act.put, List.setIfInBounds_toArray, List.set_cons_zero, List.set_cons_succ, i64_w, i32_w]
    rfl
  refine pure_ (i := 4) (N := some 49) (v := ?_) (a' := ?_) #[true, false, true, false, true, false, false, false, false, false, false, false, false, false] rfl rfl (by kernel_rfl) (fun _ _ _ h => h) (Or.inl ⟨by rfl, ?_⟩) ?_ ?_
  rotate_left
  · intro w'
    go_simp
    with_reducible rfl
  rotate_left
  · simp only [Act.put, List.setIfInBounds_toArray, List.set_cons_zero, List.set_cons_succ, i64_w, i32_w]
    rfl
  refine pure_ (i := 7) (N := some 52) (v := ?_) (a' := ?_) #[true, false, true, false, true, false, false, true, false, false, false, false, false, false] rfl rfl (by kernel_rfl) (fun _ _ _ h => h) (Or.inl ⟨by rfl, ?_⟩) ?_ ?_
  rotate_left
  · intro w'
    go_simp
    with_reducible rfl
  rotate_left
  · simp only [Act.put, List.setIfInBounds_toArray, List.set_cons_zero, List.set_cons_succ, i64_w, i32_w]
    rfl
  refine take_ (i := 1) (N := some 46) (v := ?_) (a' := ?_) #[true, true, true, false, true, false, false, true, false, false, false, false, false, false] rfl rfl (by kernel_rfl) (fun _ _ _ h => h) (Or.inl ⟨by rfl, ?_⟩) hHeld ?_ ?_
  rotate_left
  · rintro w' ⟨s0, s1, s2, s3, s4, s5, s6, s7, s8, s9, s10, s11, s12, s13, s14⟩
    go_simp
    with_reducible rfl
  rotate_left
  · simp only [Act.put, List.setIfInBounds_toArray, List.set_cons_zero, List.set_cons_succ, i64_w, i32_w]
    rfl
  refine take_ (i := 8) (N := some 53) (v := ?_) (a' := ?_) #[true, true, true, false, true, false, false, true, true, false, false, false, false, false] rfl rfl (by kernel_rfl) (fun _ _ _ h => h) (Or.inl ⟨by rfl, ?_⟩) hHeld ?_ ?_
  rotate_left
  · rintro w' ⟨s0, s1, s2, s3, s4, s5, s6, s7, s8, s9, s10, s11, s12, s13, s14⟩
    go_simp
    with_reducible rfl
  rotate_left
  · simp only [Act.put, List.setIfInBounds_toArray, List.set_cons_zero, List.set_cons_succ, i64_w, i32_w]
    rfl
  refine join_ (σ := Nat × Nat × Array Value × Array Value × Unit) 2 #[true, true, true, true, true, true, true, true, true, true, true, true, false, false] (fun s => [(48, .agg #[.int .i64 3, .int .i64 (2 * i0), .string ⟨#[]⟩, .slice none 0 0, .slice none 0 0, .slice none 0 0]), (50, .agg #[.int .i64 3, .int .i64 (2 * k0), .string ⟨#[]⟩, .slice none 0 0, .slice none 0 0, .slice none 0 0]), (51, .agg s.2.2.1), (54, .agg s.2.2.2.1), (12, .pointer (some ⟨s.1, 0, none⟩)), (13, .pointer (some ⟨s.2.1, 0, none⟩))]) (fun s w' => SPR w [(R, rc x1 B3x d3x B4x d4x B5x d5x, 30), (S, rc x2 B3y d3y B4y d4y B5y d5y, 30), (s.1, z7, 30), (s.2.1, z7, 30)] [(x1, rc x1 B3x d3x B4x d4x B5x d5x), (x2, rc x2 B3y d3y B4y d4y B5y d5y), (x3, s.2.2.1), (x4, s.2.2.2.1)] w') ?_ ?_
  rotate_left
  · intro hJ3_5_6_9_10_11
    refine join_ (σ := Nat × Array Value × Array Value × Unit) 3 #[true, true, true, true, true, true, true, true, true, true, true, false, false, false] (fun s => [(48, .agg #[.int .i64 3, .int .i64 (2 * i0), .string ⟨#[]⟩, .slice none 0 0, .slice none 0 0, .slice none 0 0]), (50, .agg #[.int .i64 3, .int .i64 (2 * k0), .string ⟨#[]⟩, .slice none 0 0, .slice none 0 0, .slice none 0 0]), (51, .agg s.2.1), (54, .agg s.2.2.1), (12, .pointer (some ⟨s.1, 0, none⟩))]) (fun s w' => SPR w [(R, rc x1 B3x d3x B4x d4x B5x d5x, 30), (S, rc x2 B3y d3y B4y d4y B5y d5y, 30), (s.1, z7, 30)] [(x1, rc x1 B3x d3x B4x d4x B5x d5x), (x2, rc x2 B3y d3y B4y d4y B5y d5y), (x3, s.2.1), (x4, s.2.2.1)] w') ?_ ?_
    rotate_left
    · intro hJ3_5_6_9_10
      refine join_ (σ := Nat × Array Value × Array Value × Unit) 3 #[true, true, true, true, true, true, true, true, true, true, false, true, false, false] (fun s => [(48, .agg #[.int .i64 3, .int .i64 (2 * i0), .string ⟨#[]⟩, .slice none 0 0, .slice none 0 0, .slice none 0 0]), (50, .agg #[.int .i64 3, .int .i64 (2 * k0), .string ⟨#[]⟩, .slice none 0 0, .slice none 0 0, .slice none 0 0]), (51, .agg s.2.1), (54, .agg s.2.2.1), (13, .pointer (some ⟨s.1, 0, none⟩))]) (fun s w' => SPR w [(R, rc x1 B3x d3x B4x d4x B5x d5x, 30), (S, rc x2 B3y d3y B4y d4y B5y d5y, 30), (s.1, z7, 30)] [(x1, rc x1 B3x d3x B4x d4x B5x d5x), (x2, rc x2 B3y d3y B4y d4y B5y d5y), (x3, s.2.1), (x4, s.2.2.1)] w') ?_ ?_
      rotate_left
      · intro hJ3_5_6_9_11
        refine join_ (σ := Nat × Nat × Array Value × Unit) 3 #[true, true, true, true, true, true, true, true, true, false, true, true, false, false] (fun s => [(48, .agg #[.int .i64 3, .int .i64 (2 * i0), .string ⟨#[]⟩, .slice none 0 0, .slice none 0 0, .slice none 0 0]), (50, .agg #[.int .i64 3, .int .i64 (2 * k0), .string ⟨#[]⟩, .slice none 0 0, .slice none 0 0, .slice none 0 0]), (51, .agg s.2.2.1), (12, .pointer (some ⟨s.1, 0, none⟩)), (13, .pointer (some ⟨s.2.1, 0, none⟩))]) (fun s w' => SPR w [(R, rc x1 B3x d3x B4x d4x B5x d5x, 30), (S, rc x2 B3y d3y B4y d4y B5y d5y, 30), (s.1, z7, 30), (s.2.1, z7, 30)] [(x1, rc x1 B3x d3x B4x d4x B5x d5x), (x2, rc x2 B3y d3y B4y d4y B5y d5y), (x3, s.2.2.1)] w') ?_ ?_
        rotate_left
        · intro hJ3_5_6_10_11
          refine join_ (σ := Array Value × Array Value × Unit) 4 #[true, true, true, true, true, true, true, true, true, true, false, false, false, false] (fun s => [(48, .agg #[.int .i64 3, .int .i64 (2 * i0), .string ⟨#[]⟩, .slice none 0 0, .slice none 0 0, .slice none 0 0]), (50, .agg #[.int .i64 3, .int .i64 (2 * k0), .string ⟨#[]⟩, .slice none 0 0, .slice none 0 0, .slice none 0 0]), (51, .agg s.1), (54, .agg s.2.1)]) (fun s w' => SPR w [(R, rc x1 B3x d3x B4x d4x B5x d5x, 30), (S, rc x2 B3y d3y B4y d4y B5y d5y, 30)] [(x1, rc x1 B3x d3x B4x d4x B5x d5x), (x2, rc x2 B3y d3y B4y d4y B5y d5y), (x3, s.1), (x4, s.2.1)] w') ?_ ?_
          rotate_left
          · intro hJ3_5_6_9
            refine join_ (σ := Nat × Array Value × Unit) 4 #[true, true, true, true, true, true, true, true, true, false, true, false, false, false] (fun s => [(48, .agg #[.int .i64 3, .int .i64 (2 * i0), .string ⟨#[]⟩, .slice none 0 0, .slice none 0 0, .slice none 0 0]), (50, .agg #[.int .i64 3, .int .i64 (2 * k0), .string ⟨#[]⟩, .slice none 0 0, .slice none 0 0, .slice none 0 0]), (51, .agg s.2.1), (12, .pointer (some ⟨s.1, 0, none⟩))]) (fun s w' => SPR w [(R, rc x1 B3x d3x B4x d4x B5x d5x, 30), (S, rc x2 B3y d3y B4y d4y B5y d5y, 30), (s.1, z7, 30)] [(x1, rc x1 B3x d3x B4x d4x B5x d5x), (x2, rc x2 B3y d3y B4y d4y B5y d5y), (x3, s.2.1)] w') ?_ ?_
            rotate_left
            · intro hJ3_5_6_10
              refine join_ (σ := Nat × Array Value × Unit) 4 #[true, true, true, true, true, true, true, true, true, false, false, true, false, false] (fun s => [(48, .agg #[.int .i64 3, .int .i64 (2 * i0), .string ⟨#[]⟩, .slice none 0 0, .slice none 0 0, .slice none 0 0]), (50, .agg #[.int .i64 3, .int .i64 (2 * k0), .string ⟨#[]⟩, .slice none 0 0, .slice none 0 0, .slice none 0 0]), (51, .agg s.2.1), (13, .pointer (some ⟨s.1, 0, none⟩))]) (fun s w' => SPR w [(R, rc x1 B3x d3x B4x d4x B5x d5x, 30), (S, rc x2 B3y d3y B4y d4y B5y d5y, 30), (s.1, z7, 30)] [(x1, rc x1 B3x d3x B4x d4x B5x d5x), (x2, rc x2 B3y d3y B4y d4y B5y d5y), (x3, s.2.1)] w') ?_ ?_
              rotate_left
              · intro hJ3_5_6_11
                refine join_ (σ := Nat × Nat × Unit) 4 #[true, true, true, true, true, true, false, true, true, false, true, true, false, false] (fun s => [(48, .agg #[.int .i64 3, .int .i64 (2 * i0), .string ⟨#[]⟩, .slice none 0 0, .slice none 0 0, .slice none 0 0]), (50, .agg #[.int .i64 3, .int .i64 (2 * k0), .string ⟨#[]⟩, .slice none 0 0, .slice none 0 0, .slice none 0 0]), (12, .pointer (some ⟨s.1, 0, none⟩)), (13, .pointer (some ⟨s.2.1, 0, none⟩))]) (fun s w' => SPR w [(R, rc x1 B3x d3x B4x d4x B5x d5x, 30), (S, rc x2 B3y d3y B4y d4y B5y d5y, 30), (s.1, z7, 30), (s.2.1, z7, 30)] [(x1, rc x1 B3x d3x B4x d4x B5x d5x), (x2, rc x2 B3y d3y B4y d4y B5y d5y)] w') ?_ ?_
                rotate_left
                · intro hJ3_5_10_11
                  refine join_ (σ := Array Value × Unit) 5 #[true, true, true, true, true, true, true, true, true, false, false, false, false, false] (fun s => [(48, .agg #[.int .i64 3, .int .i64 (2 * i0), .string ⟨#[]⟩, .slice none 0 0, .slice none 0 0, .slice none 0 0]), (50, .agg #[.int .i64 3, .int .i64 (2 * k0), .string ⟨#[]⟩, .slice none 0 0, .slice none 0 0, .slice none 0 0]), (51, .agg s.1)]) (fun s w' => SPR w [(R, rc x1 B3x d3x B4x d4x B5x d5x, 30), (S, rc x2 B3y d3y B4y d4y B5y d5y, 30)] [(x1, rc x1 B3x d3x B4x d4x B5x d5x), (x2, rc x2 B3y d3y B4y d4y B5y d5y), (x3, s.1)] w') ?_ ?_
                  rotate_left
                  · intro hJ3_5_6
                    refine join_ (σ := Nat × Unit) 5 #[true, true, true, true, true, true, false, true, true, false, true, false, false, false] (fun s => [(48, .agg #[.int .i64 3, .int .i64 (2 * i0), .string ⟨#[]⟩, .slice none 0 0, .slice none 0 0, .slice none 0 0]), (50, .agg #[.int .i64 3, .int .i64 (2 * k0), .string ⟨#[]⟩, .slice none 0 0, .slice none 0 0, .slice none 0 0]), (12, .pointer (some ⟨s.1, 0, none⟩))]) (fun s w' => SPR w [(R, rc x1 B3x d3x B4x d4x B5x d5x, 30), (S, rc x2 B3y d3y B4y d4y B5y d5y, 30), (s.1, z7, 30)] [(x1, rc x1 B3x d3x B4x d4x B5x d5x), (x2, rc x2 B3y d3y B4y d4y B5y d5y)] w') ?_ ?_
                    rotate_left
                    · intro hJ3_5_10
                      refine join_ (σ := Nat × Unit) 5 #[true, true, true, true, true, true, false, true, true, false, false, true, false, false] (fun s => [(48, .agg #[.int .i64 3, .int .i64 (2 * i0), .string ⟨#[]⟩, .slice none 0 0, .slice none 0 0, .slice none 0 0]), (50, .agg #[.int .i64 3, .int .i64 (2 * k0), .string ⟨#[]⟩, .slice none 0 0, .slice none 0 0, .slice none 0 0]), (13, .pointer (some ⟨s.1, 0, none⟩))]) (fun s w' => SPR w [(R, rc x1 B3x d3x B4x d4x B5x d5x, 30), (S, rc x2 B3y d3y B4y d4y B5y d5y, 30), (s.1, z7, 30)] [(x1, rc x1 B3x d3x B4x d4x B5x d5x), (x2, rc x2 B3y d3y B4y d4y B5y d5y)] w') ?_ ?_
                      rotate_left
                      · intro hJ3_5_11
                        refine join_ (σ := Nat × Nat × Unit) 5 #[true, true, true, true, true, false, false, true, true, false, true, true, false, false] (fun s => [(48, .agg #[.int .i64 3, .int .i64 (2 * i0), .string ⟨#[]⟩, .slice none 0 0, .slice none 0 0, .slice none 0 0]), (12, .pointer (some ⟨s.1, 0, none⟩)), (13, .pointer (some ⟨s.2.1, 0, none⟩))]) (fun s w' => SPR w [(R, rc x1 B3x d3x B4x d4x B5x d5x, 30), (S, rc x2 B3y d3y B4y d4y B5y d5y, 30), (s.1, z7, 30), (s.2.1, z7, 30)] [(x1, rc x1 B3x d3x B4x d4x B5x d5x), (x2, rc x2 B3y d3y B4y d4y B5y d5y)] w') ?_ ?_
                        rotate_left
                        · intro hJ3_10_11
                          refine join_ (σ := Unit) 6 #[true, true, true, true, true, true, false, true, true, false, false, false, false, false] (fun s => [(48, .agg #[.int .i64 3, .int .i64 (2 * i0), .string ⟨#[]⟩, .slice none 0 0, .slice none 0 0, .slice none 0 0]), (50, .agg #[.int .i64 3, .int .i64 (2 * k0), .string ⟨#[]⟩, .slice none 0 0, .slice none 0 0, .slice none 0 0])]) (fun s w' => SPR w [(R, rc x1 B3x d3x B4x d4x B5x d5x, 30), (S, rc x2 B3y d3y B4y d4y B5y d5y, 30)] [(x1, rc x1 B3x d3x B4x d4x B5x d5x), (x2, rc x2 B3y d3y B4y d4y B5y d5y)] w') ?_ ?_
                          rotate_left
                          · intro hJ3_5
                            refine join_ (σ := Nat × Unit) 6 #[true, true, true, true, true, false, false, true, true, false, true, false, false, false] (fun s => [(48, .agg #[.int .i64 3, .int .i64 (2 * i0), .string ⟨#[]⟩, .slice none 0 0, .slice none 0 0, .slice none 0 0]), (12, .pointer (some ⟨s.1, 0, none⟩))]) (fun s w' => SPR w [(R, rc x1 B3x d3x B4x d4x B5x d5x, 30), (S, rc x2 B3y d3y B4y d4y B5y d5y, 30), (s.1, z7, 30)] [(x1, rc x1 B3x d3x B4x d4x B5x d5x), (x2, rc x2 B3y d3y B4y d4y B5y d5y)] w') ?_ ?_
                            rotate_left
                            · intro hJ3_10
                              refine join_ (σ := Nat × Unit) 6 #[true, true, true, true, true, false, false, true, true, false, false, true, false, false] (fun s => [(48, .agg #[.int .i64 3, .int .i64 (2 * i0), .string ⟨#[]⟩, .slice none 0 0, .slice none 0 0, .slice none 0 0]), (13, .pointer (some ⟨s.1, 0, none⟩))]) (fun s w' => SPR w [(R, rc x1 B3x d3x B4x d4x B5x d5x, 30), (S, rc x2 B3y d3y B4y d4y B5y d5y, 30), (s.1, z7, 30)] [(x1, rc x1 B3x d3x B4x d4x B5x d5x), (x2, rc x2 B3y d3y B4y d4y B5y d5y)] w') ?_ ?_
                              rotate_left
                              · intro hJ3_11
                                refine join_ (σ := Nat × Nat × Unit) 6 #[true, true, true, false, true, false, false, true, true, false, true, true, false, false] (fun s => [(12, .pointer (some ⟨s.1, 0, none⟩)), (13, .pointer (some ⟨s.2.1, 0, none⟩))]) (fun s w' => SPR w [(R, rc x1 B3x d3x B4x d4x B5x d5x, 30), (S, rc x2 B3y d3y B4y d4y B5y d5y, 30), (s.1, z7, 30), (s.2.1, z7, 30)] [(x1, rc x1 B3x d3x B4x d4x B5x d5x), (x2, rc x2 B3y d3y B4y d4y B5y d5y)] w') ?_ ?_
                                rotate_left
                                · intro hJ10_11
                                  refine join_ (σ := Unit) 7 #[true, true, true, true, true, false, false, true, true, false, false, false, false, false] (fun s => [(48, .agg #[.int .i64 3, .int .i64 (2 * i0), .string ⟨#[]⟩, .slice none 0 0, .slice none 0 0, .slice none 0 0])]) (fun s w' => SPR w [(R, rc x1 B3x d3x B4x d4x B5x d5x, 30), (S, rc x2 B3y d3y B4y d4y B5y d5y, 30)] [(x1, rc x1 B3x d3x B4x d4x B5x d5x), (x2, rc x2 B3y d3y B4y d4y B5y d5y)] w') ?_ ?_
                                  rotate_left
                                  · intro hJ3
                                    refine join_ (σ := Nat × Unit) 7 #[true, true, true, false, true, false, false, true, true, false, true, false, false, false] (fun s => [(12, .pointer (some ⟨s.1, 0, none⟩))]) (fun s w' => SPR w [(R, rc x1 B3x d3x B4x d4x B5x d5x, 30), (S, rc x2 B3y d3y B4y d4y B5y d5y, 30), (s.1, z7, 30)] [(x1, rc x1 B3x d3x B4x d4x B5x d5x), (x2, rc x2 B3y d3y B4y d4y B5y d5y)] w') ?_ ?_
                                    rotate_left
                                    · intro hJ10
                                      refine join_ (σ := Nat × Unit) 7 #[true, true, true, false, true, false, false, true, true, false, false, true, false, false] (fun s => [(13, .pointer (some ⟨s.1, 0, none⟩))]) (fun s w' => SPR w [(R, rc x1 B3x d3x B4x d4x B5x d5x, 30), (S, rc x2 B3y d3y B4y d4y B5y d5y, 30), (s.1, z7, 30)] [(x1, rc x1 B3x d3x B4x d4x B5x d5x), (x2, rc x2 B3y d3y B4y d4y B5y d5y)] w') ?_ ?_
                                      rotate_left
                                      · intro hJ11
                                        refine three_ (i := 3) (j := 10) (k := 11) (Ni := some 48) (Nj := some 12) (Nk := some 13) #[true, true, true, true, true, false, false, true, true, false, false, false, false, false] #[true, true, true, false, true, false, false, true, true, false, true, false, false, false] #[true, true, true, false, true, false, false, true, true, false, false, true, false, false] rfl rfl rfl rfl rfl rfl (by kernel_rfl) (by decide) (by decide) (by decide) (fun K hK => ?_) (fun K hK => ?_) (fun K hK => ?_)
                                        · skip
                                          refine goes_ Tryz.func34 (by kernel_rfl) rfl #[.int .i64 i0] (by rfl) rfl rfl (by simp only [List.map_toArray, List.map_cons, List.map_nil]; rfl) ?_
                                          with_reducible refine ((HN1.out _)).mono ?_
                                          rintro e wz ⟨rfl, hb⟩
                                          refine ⟨_, rfl, ?_⟩
                                          have hz := SPR.below (hHeld.2.2.2.2.2.2.2.2.2.2.2.2.2.2) hb
                                          have hzb : SPR w [(R, rc x1 B3x d3x B4x d4x B5x d5x, 30), (S, rc x2 B3y d3y B4y d4y B5y d5y, 30)] [(x1, rc x1 B3x d3x B4x d4x B5x d5x), (x2, rc x2 B3y d3y B4y d4y B5y d5y)] wz := SPR.tk 2 2 hz
                                          refine hK.out _ _ (HSq _ hzb) (fun hHeld => ?_)
                                          clear hK K
                                          refine norm_ (a' := ?_) ?_ ?_
                                          rotate_left
                                          · show Act.put _ (some 48) _ = _
                                            simp only [Act.put, List.setIfInBounds_toArray, List.set_cons_zero, List.set_cons_succ, i64_w, i32_w]
                                            rfl
                                          exact norm_ (by first | (simp only [putAll, Act.put, List.setIfInBounds_toArray, List.set_cons_zero, List.set_cons_succ]; done) | (simp only [putAll, Act.put, List.setIfInBounds_toArray, List.set_cons_zero, List.set_cons_succ]; rfl)) (hJ3 (()) _ hz)
                                        · skip
                                          refine freshR_ (c := #[.int .i64 0, .int .i64 0, .string ⟨#[]⟩, .slice none 0 0, .slice none 0 0, .slice none 0 0, .int .i64 0]) (t := 30) (hHeld.2.2.2.2.2.2.2.2.2.2.2.2.2.2) (by rfl) rfl ?_ ?_
                                          · first | (go_simp; done) | (go_simp; rfl)
                                          intro Rq10 wz hz
                                          have hzb : SPR w [(R, rc x1 B3x d3x B4x d4x B5x d5x, 30), (S, rc x2 B3y d3y B4y d4y B5y d5y, 30)] [(x1, rc x1 B3x d3x B4x d4x B5x d5x), (x2, rc x2 B3y d3y B4y d4y B5y d5y)] wz := SPR.tk 2 2 hz
                                          refine hK.out _ _ (HSq _ hzb) (fun hHeld => ?_)
                                          clear hK K
                                          refine norm_ (a' := ?_) ?_ ?_
                                          rotate_left
                                          · show Act.put _ (some 12) _ = _
                                            simp only [Act.put, List.setIfInBounds_toArray, List.set_cons_zero, List.set_cons_succ, i64_w, i32_w]
                                            rfl
                                          exact norm_ (by first | (simp only [putAll, Act.put, List.setIfInBounds_toArray, List.set_cons_zero, List.set_cons_succ]; done) | (simp only [putAll, Act.put, List.setIfInBounds_toArray, List.set_cons_zero, List.set_cons_succ]; rfl)) (hJ10 (Rq10, ()) _ hz)
                                        · skip
                                          refine freshR_ (c := #[.int .i64 0, .int .i64 0, .string ⟨#[]⟩, .slice none 0 0, .slice none 0 0, .slice none 0 0, .int .i64 0]) (t := 30) (hHeld.2.2.2.2.2.2.2.2.2.2.2.2.2.2) (by rfl) rfl ?_ ?_
                                          · first | (go_simp; done) | (go_simp; rfl)
                                          intro Rq11 wz hz
                                          have hzb : SPR w [(R, rc x1 B3x d3x B4x d4x B5x d5x, 30), (S, rc x2 B3y d3y B4y d4y B5y d5y, 30)] [(x1, rc x1 B3x d3x B4x d4x B5x d5x), (x2, rc x2 B3y d3y B4y d4y B5y d5y)] wz := SPR.tk 2 2 hz
                                          refine hK.out _ _ (HSq _ hzb) (fun hHeld => ?_)
                                          clear hK K
                                          refine norm_ (a' := ?_) ?_ ?_
                                          rotate_left
                                          · show Act.put _ (some 13) _ = _
                                            simp only [Act.put, List.setIfInBounds_toArray, List.set_cons_zero, List.set_cons_succ, i64_w, i32_w]
                                            rfl
                                          exact norm_ (by first | (simp only [putAll, Act.put, List.setIfInBounds_toArray, List.set_cons_zero, List.set_cons_succ]; done) | (simp only [putAll, Act.put, List.setIfInBounds_toArray, List.set_cons_zero, List.set_cons_succ]; rfl)) (hJ11 (Rq11, ()) _ hz)
                                      · skip
                                        rintro ⟨Rq11, _⟩ w' hF
                                        change SPR w [(R, rc x1 B3x d3x B4x d4x B5x d5x, 30), (S, rc x2 B3y d3y B4y d4y B5y d5y, 30), (Rq11, z7, 30)] [(x1, rc x1 B3x d3x B4x d4x B5x d5x), (x2, rc x2 B3y d3y B4y d4y B5y d5y)] w' at hF
                                        have hFb : SPR w [(R, rc x1 B3x d3x B4x d4x B5x d5x, 30), (S, rc x2 B3y d3y B4y d4y B5y d5y, 30)] [(x1, rc x1 B3x d3x B4x d4x B5x d5x), (x2, rc x2 B3y d3y B4y d4y B5y d5y)] w' := SPR.tk 2 2 hF
                                        have hHeld : w'.cell? ⟨R, 0, none⟩ = some (.int .i64 x1.f0) ∧ w'.cell? ⟨R, 1, none⟩ = some (.int .i64 x1.f1) ∧ w'.cell? ⟨R, 2, none⟩ = some (.string x1.f2) ∧ w'.cell? ⟨R, 3, none⟩ = some (.slice B3x x1.f3.length d3x) ∧ w'.cell? ⟨R, 4, none⟩ = some (.slice B4x x1.f4.length d4x) ∧ w'.cell? ⟨R, 5, none⟩ = some (.slice B5x x1.f5.length d5x) ∧ w'.cell? ⟨R, 6, none⟩ = some (.int .i64 0) ∧ w'.cell? ⟨S, 0, none⟩ = some (.int .i64 x2.f0) ∧ w'.cell? ⟨S, 1, none⟩ = some (.int .i64 x2.f1) ∧ w'.cell? ⟨S, 2, none⟩ = some (.string x2.f2) ∧ w'.cell? ⟨S, 3, none⟩ = some (.slice B3y x2.f3.length d3y) ∧ w'.cell? ⟨S, 4, none⟩ = some (.slice B4y x2.f4.length d4y) ∧ w'.cell? ⟨S, 5, none⟩ = some (.slice B5y x2.f5.length d5y) ∧ w'.cell? ⟨S, 6, none⟩ = some (.int .i64 0) ∧ SPR w [(R, rc x1 B3x d3x B4x d4x B5x d5x, 30), (S, rc x2 B3y d3y B4y d4y B5y d5y, 30)] [(x1, rc x1 B3x d3x B4x d4x B5x d5x), (x2, rc x2 B3y d3y B4y d4y B5y d5y)] w' := (HSq _ hFb)
                                        clear hFb
                                        refine norm_ (a' := ?_) ?_ ?_
                                        rotate_left
                                        · simp only [putAll, Act.put, List.setIfInBounds_toArray, List.set_cons_zero, List.set_cons_succ]
                                          rfl
                                        refine two_ (i := 3) (j := 10) (Ni := some 48) (Nj := some 12) #[true, true, true, true, true, false, false, true, true, false, false, true, false, false] #[true, true, true, false, true, false, false, true, true, false, true, true, false, false] rfl rfl rfl rfl (by kernel_rfl) (by decide) (by decide) (fun K hK => ?_) (fun K hK => ?_)
                                        · skip
                                          refine goes_ Tryz.func34 (by kernel_rfl) rfl #[.int .i64 i0] (by rfl) rfl rfl (by simp only [List.map_toArray, List.map_cons, List.map_nil]; rfl) ?_
                                          with_reducible refine ((HN1.out _)).mono ?_
                                          rintro e wz ⟨rfl, hb⟩
                                          refine ⟨_, rfl, ?_⟩
                                          have hz := SPR.below (hF) hb
                                          have hzb : SPR w [(R, rc x1 B3x d3x B4x d4x B5x d5x, 30), (S, rc x2 B3y d3y B4y d4y B5y d5y, 30)] [(x1, rc x1 B3x d3x B4x d4x B5x d5x), (x2, rc x2 B3y d3y B4y d4y B5y d5y)] wz := SPR.tk 2 2 hz
                                          refine hK.out _ _ (HSq _ hzb) (fun hHeld => ?_)
                                          clear hK K
                                          refine norm_ (a' := ?_) ?_ ?_
                                          rotate_left
                                          · show Act.put _ (some 48) _ = _
                                            simp only [Act.put, List.setIfInBounds_toArray, List.set_cons_zero, List.set_cons_succ, i64_w, i32_w]
                                            rfl
                                          exact norm_ (by first | (simp only [putAll, Act.put, List.setIfInBounds_toArray, List.set_cons_zero, List.set_cons_succ]; done) | (simp only [putAll, Act.put, List.setIfInBounds_toArray, List.set_cons_zero, List.set_cons_succ]; rfl)) (hJ3_11 (Rq11, ()) _ hz)
                                        · skip
                                          refine freshR_ (c := #[.int .i64 0, .int .i64 0, .string ⟨#[]⟩, .slice none 0 0, .slice none 0 0, .slice none 0 0, .int .i64 0]) (t := 30) (hF) (by rfl) rfl ?_ ?_
                                          · first | (go_simp; done) | (go_simp; rfl)
                                          intro Rq10 wz hz
                                          have hzb : SPR w [(R, rc x1 B3x d3x B4x d4x B5x d5x, 30), (S, rc x2 B3y d3y B4y d4y B5y d5y, 30)] [(x1, rc x1 B3x d3x B4x d4x B5x d5x), (x2, rc x2 B3y d3y B4y d4y B5y d5y)] wz := SPR.tk 2 2 hz
                                          refine hK.out _ _ (HSq _ hzb) (fun hHeld => ?_)
                                          clear hK K
                                          refine norm_ (a' := ?_) ?_ ?_
                                          rotate_left
                                          · show Act.put _ (some 12) _ = _
                                            simp only [Act.put, List.setIfInBounds_toArray, List.set_cons_zero, List.set_cons_succ, i64_w, i32_w]
                                            rfl
                                          exact norm_ (by first | (simp only [putAll, Act.put, List.setIfInBounds_toArray, List.set_cons_zero, List.set_cons_succ]; done) | (simp only [putAll, Act.put, List.setIfInBounds_toArray, List.set_cons_zero, List.set_cons_succ]; rfl)) (hJ10_11 (Rq10, Rq11, ()) _ (SPR.prm hz (.cons _ (.cons _ (.swap _ _ _)))))
                                    · skip
                                      rintro ⟨Rq10, _⟩ w' hF
                                      change SPR w [(R, rc x1 B3x d3x B4x d4x B5x d5x, 30), (S, rc x2 B3y d3y B4y d4y B5y d5y, 30), (Rq10, z7, 30)] [(x1, rc x1 B3x d3x B4x d4x B5x d5x), (x2, rc x2 B3y d3y B4y d4y B5y d5y)] w' at hF
                                      have hFb : SPR w [(R, rc x1 B3x d3x B4x d4x B5x d5x, 30), (S, rc x2 B3y d3y B4y d4y B5y d5y, 30)] [(x1, rc x1 B3x d3x B4x d4x B5x d5x), (x2, rc x2 B3y d3y B4y d4y B5y d5y)] w' := SPR.tk 2 2 hF
                                      have hHeld : w'.cell? ⟨R, 0, none⟩ = some (.int .i64 x1.f0) ∧ w'.cell? ⟨R, 1, none⟩ = some (.int .i64 x1.f1) ∧ w'.cell? ⟨R, 2, none⟩ = some (.string x1.f2) ∧ w'.cell? ⟨R, 3, none⟩ = some (.slice B3x x1.f3.length d3x) ∧ w'.cell? ⟨R, 4, none⟩ = some (.slice B4x x1.f4.length d4x) ∧ w'.cell? ⟨R, 5, none⟩ = some (.slice B5x x1.f5.length d5x) ∧ w'.cell? ⟨R, 6, none⟩ = some (.int .i64 0) ∧ w'.cell? ⟨S, 0, none⟩ = some (.int .i64 x2.f0) ∧ w'.cell? ⟨S, 1, none⟩ = some (.int .i64 x2.f1) ∧ w'.cell? ⟨S, 2, none⟩ = some (.string x2.f2) ∧ w'.cell? ⟨S, 3, none⟩ = some (.slice B3y x2.f3.length d3y) ∧ w'.cell? ⟨S, 4, none⟩ = some (.slice B4y x2.f4.length d4y) ∧ w'.cell? ⟨S, 5, none⟩ = some (.slice B5y x2.f5.length d5y) ∧ w'.cell? ⟨S, 6, none⟩ = some (.int .i64 0) ∧ SPR w [(R, rc x1 B3x d3x B4x d4x B5x d5x, 30), (S, rc x2 B3y d3y B4y d4y B5y d5y, 30)] [(x1, rc x1 B3x d3x B4x d4x B5x d5x), (x2, rc x2 B3y d3y B4y d4y B5y d5y)] w' := (HSq _ hFb)
                                      clear hFb
                                      refine norm_ (a' := ?_) ?_ ?_
                                      rotate_left
                                      · simp only [putAll, Act.put, List.setIfInBounds_toArray, List.set_cons_zero, List.set_cons_succ]
                                        rfl
                                      refine two_ (i := 3) (j := 11) (Ni := some 48) (Nj := some 13) #[true, true, true, true, true, false, false, true, true, false, true, false, false, false] #[true, true, true, false, true, false, false, true, true, false, true, true, false, false] rfl rfl rfl rfl (by kernel_rfl) (by decide) (by decide) (fun K hK => ?_) (fun K hK => ?_)
                                      · skip
                                        refine goes_ Tryz.func34 (by kernel_rfl) rfl #[.int .i64 i0] (by rfl) rfl rfl (by simp only [List.map_toArray, List.map_cons, List.map_nil]; rfl) ?_
                                        with_reducible refine ((HN1.out _)).mono ?_
                                        rintro e wz ⟨rfl, hb⟩
                                        refine ⟨_, rfl, ?_⟩
                                        have hz := SPR.below (hF) hb
                                        have hzb : SPR w [(R, rc x1 B3x d3x B4x d4x B5x d5x, 30), (S, rc x2 B3y d3y B4y d4y B5y d5y, 30)] [(x1, rc x1 B3x d3x B4x d4x B5x d5x), (x2, rc x2 B3y d3y B4y d4y B5y d5y)] wz := SPR.tk 2 2 hz
                                        refine hK.out _ _ (HSq _ hzb) (fun hHeld => ?_)
                                        clear hK K
                                        refine norm_ (a' := ?_) ?_ ?_
                                        rotate_left
                                        · show Act.put _ (some 48) _ = _
                                          simp only [Act.put, List.setIfInBounds_toArray, List.set_cons_zero, List.set_cons_succ, i64_w, i32_w]
                                          rfl
                                        exact norm_ (by first | (simp only [putAll, Act.put, List.setIfInBounds_toArray, List.set_cons_zero, List.set_cons_succ]; done) | (simp only [putAll, Act.put, List.setIfInBounds_toArray, List.set_cons_zero, List.set_cons_succ]; rfl)) (hJ3_10 (Rq10, ()) _ hz)
                                      · skip
                                        refine freshR_ (c := #[.int .i64 0, .int .i64 0, .string ⟨#[]⟩, .slice none 0 0, .slice none 0 0, .slice none 0 0, .int .i64 0]) (t := 30) (hF) (by rfl) rfl ?_ ?_
                                        · first | (go_simp; done) | (go_simp; rfl)
                                        intro Rq11 wz hz
                                        have hzb : SPR w [(R, rc x1 B3x d3x B4x d4x B5x d5x, 30), (S, rc x2 B3y d3y B4y d4y B5y d5y, 30)] [(x1, rc x1 B3x d3x B4x d4x B5x d5x), (x2, rc x2 B3y d3y B4y d4y B5y d5y)] wz := SPR.tk 2 2 hz
                                        refine hK.out _ _ (HSq _ hzb) (fun hHeld => ?_)
                                        clear hK K
                                        refine norm_ (a' := ?_) ?_ ?_
                                        rotate_left
                                        · show Act.put _ (some 13) _ = _
                                          simp only [Act.put, List.setIfInBounds_toArray, List.set_cons_zero, List.set_cons_succ, i64_w, i32_w]
                                          rfl
                                        exact norm_ (by first | (simp only [putAll, Act.put, List.setIfInBounds_toArray, List.set_cons_zero, List.set_cons_succ]; done) | (simp only [putAll, Act.put, List.setIfInBounds_toArray, List.set_cons_zero, List.set_cons_succ]; rfl)) (hJ10_11 (Rq10, Rq11, ()) _ hz)
                                  · skip
                                    rintro ⟨_⟩ w' hF
                                    change SPR w [(R, rc x1 B3x d3x B4x d4x B5x d5x, 30), (S, rc x2 B3y d3y B4y d4y B5y d5y, 30)] [(x1, rc x1 B3x d3x B4x d4x B5x d5x), (x2, rc x2 B3y d3y B4y d4y B5y d5y)] w' at hF
                                    have hFb : SPR w [(R, rc x1 B3x d3x B4x d4x B5x d5x, 30), (S, rc x2 B3y d3y B4y d4y B5y d5y, 30)] [(x1, rc x1 B3x d3x B4x d4x B5x d5x), (x2, rc x2 B3y d3y B4y d4y B5y d5y)] w' := SPR.tk 2 2 hF
                                    have hHeld : w'.cell? ⟨R, 0, none⟩ = some (.int .i64 x1.f0) ∧ w'.cell? ⟨R, 1, none⟩ = some (.int .i64 x1.f1) ∧ w'.cell? ⟨R, 2, none⟩ = some (.string x1.f2) ∧ w'.cell? ⟨R, 3, none⟩ = some (.slice B3x x1.f3.length d3x) ∧ w'.cell? ⟨R, 4, none⟩ = some (.slice B4x x1.f4.length d4x) ∧ w'.cell? ⟨R, 5, none⟩ = some (.slice B5x x1.f5.length d5x) ∧ w'.cell? ⟨R, 6, none⟩ = some (.int .i64 0) ∧ w'.cell? ⟨S, 0, none⟩ = some (.int .i64 x2.f0) ∧ w'.cell? ⟨S, 1, none⟩ = some (.int .i64 x2.f1) ∧ w'.cell? ⟨S, 2, none⟩ = some (.string x2.f2) ∧ w'.cell? ⟨S, 3, none⟩ = some (.slice B3y x2.f3.length d3y) ∧ w'.cell? ⟨S, 4, none⟩ = some (.slice B4y x2.f4.length d4y) ∧ w'.cell? ⟨S, 5, none⟩ = some (.slice B5y x2.f5.length d5y) ∧ w'.cell? ⟨S, 6, none⟩ = some (.int .i64 0) ∧ SPR w [(R, rc x1 B3x d3x B4x d4x B5x d5x, 30), (S, rc x2 B3y d3y B4y d4y B5y d5y, 30)] [(x1, rc x1 B3x d3x B4x d4x B5x d5x), (x2, rc x2 B3y d3y B4y d4y B5y d5y)] w' := (HSq _ hFb)
                                    clear hFb
                                    refine norm_ (a' := ?_) ?_ ?_
                                    rotate_left
                                    · simp only [putAll, Act.put, List.setIfInBounds_toArray, List.set_cons_zero, List.set_cons_succ]
                                      rfl
                                    refine three_ (i := 5) (j := 10) (k := 11) (Ni := some 50) (Nj := some 12) (Nk := some 13) #[true, true, true, true, true, true, false, true, true, false, false, false, false, false] #[true, true, true, true, true, false, false, true, true, false, true, false, false, false] #[true, true, true, true, true, false, false, true, true, false, false, true, false, false] rfl rfl rfl rfl rfl rfl (by kernel_rfl) (by decide) (by decide) (by decide) (fun K hK => ?_) (fun K hK => ?_) (fun K hK => ?_)
                                    · skip
                                      refine goes_ Tryz.func34 (by kernel_rfl) rfl #[.int .i64 k0] (by rfl) rfl rfl (by simp only [List.map_toArray, List.map_cons, List.map_nil]; rfl) ?_
                                      with_reducible refine ((HN2.out _)).mono ?_
                                      rintro e wz ⟨rfl, hb⟩
                                      refine ⟨_, rfl, ?_⟩
                                      have hz := SPR.below (hF) hb
                                      have hzb : SPR w [(R, rc x1 B3x d3x B4x d4x B5x d5x, 30), (S, rc x2 B3y d3y B4y d4y B5y d5y, 30)] [(x1, rc x1 B3x d3x B4x d4x B5x d5x), (x2, rc x2 B3y d3y B4y d4y B5y d5y)] wz := SPR.tk 2 2 hz
                                      refine hK.out _ _ (HSq _ hzb) (fun hHeld => ?_)
                                      clear hK K
                                      refine norm_ (a' := ?_) ?_ ?_
                                      rotate_left
                                      · show Act.put _ (some 50) _ = _
                                        simp only [Act.put, List.setIfInBounds_toArray, List.set_cons_zero, List.set_cons_succ, i64_w, i32_w]
                                        rfl
                                      exact norm_ (by first | (simp only [putAll, Act.put, List.setIfInBounds_toArray, List.set_cons_zero, List.set_cons_succ]; done) | (simp only [putAll, Act.put, List.setIfInBounds_toArray, List.set_cons_zero, List.set_cons_succ]; rfl)) (hJ3_5 (()) _ hz)
                                    · skip
                                      refine freshR_ (c := #[.int .i64 0, .int .i64 0, .string ⟨#[]⟩, .slice none 0 0, .slice none 0 0, .slice none 0 0, .int .i64 0]) (t := 30) (hF) (by rfl) rfl ?_ ?_
                                      · first | (go_simp; done) | (go_simp; rfl)
                                      intro Rq10 wz hz
                                      have hzb : SPR w [(R, rc x1 B3x d3x B4x d4x B5x d5x, 30), (S, rc x2 B3y d3y B4y d4y B5y d5y, 30)] [(x1, rc x1 B3x d3x B4x d4x B5x d5x), (x2, rc x2 B3y d3y B4y d4y B5y d5y)] wz := SPR.tk 2 2 hz
                                      refine hK.out _ _ (HSq _ hzb) (fun hHeld => ?_)
                                      clear hK K
                                      refine norm_ (a' := ?_) ?_ ?_
                                      rotate_left
                                      · show Act.put _ (some 12) _ = _
                                        simp only [Act.put, List.setIfInBounds_toArray, List.set_cons_zero, List.set_cons_succ, i64_w, i32_w]
                                        rfl
                                      exact norm_ (by first | (simp only [putAll, Act.put, List.setIfInBounds_toArray, List.set_cons_zero, List.set_cons_succ]; done) | (simp only [putAll, Act.put, List.setIfInBounds_toArray, List.set_cons_zero, List.set_cons_succ]; rfl)) (hJ3_10 (Rq10, ()) _ hz)
                                    · skip
                                      refine freshR_ (c := #[.int .i64 0, .int .i64 0, .string ⟨#[]⟩, .slice none 0 0, .slice none 0 0, .slice none 0 0, .int .i64 0]) (t := 30) (hF) (by rfl) rfl ?_ ?_
                                      · first | (go_simp; done) | (go_simp; rfl)
                                      intro Rq11 wz hz
                                      have hzb : SPR w [(R, rc x1 B3x d3x B4x d4x B5x d5x, 30), (S, rc x2 B3y d3y B4y d4y B5y d5y, 30)] [(x1, rc x1 B3x d3x B4x d4x B5x d5x), (x2, rc x2 B3y d3y B4y d4y B5y d5y)] wz := SPR.tk 2 2 hz
                                      refine hK.out _ _ (HSq _ hzb) (fun hHeld => ?_)
                                      clear hK K
                                      refine norm_ (a' := ?_) ?_ ?_
                                      rotate_left
                                      · show Act.put _ (some 13) _ = _
                                        simp only [Act.put, List.setIfInBounds_toArray, List.set_cons_zero, List.set_cons_succ, i64_w, i32_w]
                                        rfl
                                      exact norm_ (by first | (simp only [putAll, Act.put, List.setIfInBounds_toArray, List.set_cons_zero, List.set_cons_succ]; done) | (simp only [putAll, Act.put, List.setIfInBounds_toArray, List.set_cons_zero, List.set_cons_succ]; rfl)) (hJ3_11 (Rq11, ()) _ hz)
                                · skip
                                  rintro ⟨Rq10, Rq11, _⟩ w' hF
                                  change SPR w [(R, rc x1 B3x d3x B4x d4x B5x d5x, 30), (S, rc x2 B3y d3y B4y d4y B5y d5y, 30), (Rq10, z7, 30), (Rq11, z7, 30)] [(x1, rc x1 B3x d3x B4x d4x B5x d5x), (x2, rc x2 B3y d3y B4y d4y B5y d5y)] w' at hF
                                  have hFb : SPR w [(R, rc x1 B3x d3x B4x d4x B5x d5x, 30), (S, rc x2 B3y d3y B4y d4y B5y d5y, 30)] [(x1, rc x1 B3x d3x B4x d4x B5x d5x), (x2, rc x2 B3y d3y B4y d4y B5y d5y)] w' := SPR.tk 2 2 hF
                                  have hHeld : w'.cell? ⟨R, 0, none⟩ = some (.int .i64 x1.f0) ∧ w'.cell? ⟨R, 1, none⟩ = some (.int .i64 x1.f1) ∧ w'.cell? ⟨R, 2, none⟩ = some (.string x1.f2) ∧ w'.cell? ⟨R, 3, none⟩ = some (.slice B3x x1.f3.length d3x) ∧ w'.cell? ⟨R, 4, none⟩ = some (.slice B4x x1.f4.length d4x) ∧ w'.cell? ⟨R, 5, none⟩ = some (.slice B5x x1.f5.length d5x) ∧ w'.cell? ⟨R, 6, none⟩ = some (.int .i64 0) ∧ w'.cell? ⟨S, 0, none⟩ = some (.int .i64 x2.f0) ∧ w'.cell? ⟨S, 1, none⟩ = some (.int .i64 x2.f1) ∧ w'.cell? ⟨S, 2, none⟩ = some (.string x2.f2) ∧ w'.cell? ⟨S, 3, none⟩ = some (.slice B3y x2.f3.length d3y) ∧ w'.cell? ⟨S, 4, none⟩ = some (.slice B4y x2.f4.length d4y) ∧ w'.cell? ⟨S, 5, none⟩ = some (.slice B5y x2.f5.length d5y) ∧ w'.cell? ⟨S, 6, none⟩ = some (.int .i64 0) ∧ SPR w [(R, rc x1 B3x d3x B4x d4x B5x d5x, 30), (S, rc x2 B3y d3y B4y d4y B5y d5y, 30)] [(x1, rc x1 B3x d3x B4x d4x B5x d5x), (x2, rc x2 B3y d3y B4y d4y B5y d5y)] w' := (HSq _ hFb)
                                  clear hFb
                                  refine norm_ (a' := ?_) ?_ ?_
                                  rotate_left
                                  · simp only [putAll, Act.put, List.setIfInBounds_toArray, List.set_cons_zero, List.set_cons_succ]
                                    rfl
                                  refine one_ (i := 3) (N := some 48) #[true, true, true, true, true, false, false, true, true, false, true, true, false, false] rfl rfl (by kernel_rfl) (by decide) (fun K hK => ?_)
                                  refine goes_ Tryz.func34 (by kernel_rfl) rfl #[.int .i64 i0] (by rfl) rfl rfl (by simp only [List.map_toArray, List.map_cons, List.map_nil]; rfl) ?_
                                  with_reducible refine ((HN1.out _)).mono ?_
                                  rintro e wz ⟨rfl, hb⟩
                                  refine ⟨_, rfl, ?_⟩
                                  have hz := SPR.below (hF) hb
                                  have hzb : SPR w [(R, rc x1 B3x d3x B4x d4x B5x d5x, 30), (S, rc x2 B3y d3y B4y d4y B5y d5y, 30)] [(x1, rc x1 B3x d3x B4x d4x B5x d5x), (x2, rc x2 B3y d3y B4y d4y B5y d5y)] wz := SPR.tk 2 2 hz
                                  refine hK.out _ _ (HSq _ hzb) (fun hHeld => ?_)
                                  clear hK K
                                  refine norm_ (a' := ?_) ?_ ?_
                                  rotate_left
                                  · show Act.put _ (some 48) _ = _
                                    simp only [Act.put, List.setIfInBounds_toArray, List.set_cons_zero, List.set_cons_succ, i64_w, i32_w]
                                    rfl
                                  exact norm_ (by first | (simp only [putAll, Act.put, List.setIfInBounds_toArray, List.set_cons_zero, List.set_cons_succ]; done) | (simp only [putAll, Act.put, List.setIfInBounds_toArray, List.set_cons_zero, List.set_cons_succ]; rfl)) (hJ3_10_11 (Rq10, Rq11, ()) _ hz)
                              · skip
                                rintro ⟨Rq11, _⟩ w' hF
                                change SPR w [(R, rc x1 B3x d3x B4x d4x B5x d5x, 30), (S, rc x2 B3y d3y B4y d4y B5y d5y, 30), (Rq11, z7, 30)] [(x1, rc x1 B3x d3x B4x d4x B5x d5x), (x2, rc x2 B3y d3y B4y d4y B5y d5y)] w' at hF
                                have hFb : SPR w [(R, rc x1 B3x d3x B4x d4x B5x d5x, 30), (S, rc x2 B3y d3y B4y d4y B5y d5y, 30)] [(x1, rc x1 B3x d3x B4x d4x B5x d5x), (x2, rc x2 B3y d3y B4y d4y B5y d5y)] w' := SPR.tk 2 2 hF
                                have hHeld : w'.cell? ⟨R, 0, none⟩ = some (.int .i64 x1.f0) ∧ w'.cell? ⟨R, 1, none⟩ = some (.int .i64 x1.f1) ∧ w'.cell? ⟨R, 2, none⟩ = some (.string x1.f2) ∧ w'.cell? ⟨R, 3, none⟩ = some (.slice B3x x1.f3.length d3x) ∧ w'.cell? ⟨R, 4, none⟩ = some (.slice B4x x1.f4.length d4x) ∧ w'.cell? ⟨R, 5, none⟩ = some (.slice B5x x1.f5.length d5x) ∧ w'.cell? ⟨R, 6, none⟩ = some (.int .i64 0) ∧ w'.cell? ⟨S, 0, none⟩ = some (.int .i64 x2.f0) ∧ w'.cell? ⟨S, 1, none⟩ = some (.int .i64 x2.f1) ∧ w'.cell? ⟨S, 2, none⟩ = some (.string x2.f2) ∧ w'.cell? ⟨S, 3, none⟩ = some (.slice B3y x2.f3.length d3y) ∧ w'.cell? ⟨S, 4, none⟩ = some (.slice B4y x2.f4.length d4y) ∧ w'.cell? ⟨S, 5, none⟩ = some (.slice B5y x2.f5.length d5y) ∧ w'.cell? ⟨S, 6, none⟩ = some (.int .i64 0) ∧ SPR w [(R, rc x1 B3x d3x B4x d4x B5x d5x, 30), (S, rc x2 B3y d3y B4y d4y B5y d5y, 30)] [(x1, rc x1 B3x d3x B4x d4x B5x d5x), (x2, rc x2 B3y d3y B4y d4y B5y d5y)] w' := (HSq _ hFb)
                                clear hFb
                                refine norm_ (a' := ?_) ?_ ?_
                                rotate_left
                                · simp only [putAll, Act.put, List.setIfInBounds_toArray, List.set_cons_zero, List.set_cons_succ]
                                  rfl
                                refine two_ (i := 5) (j := 10) (Ni := some 50) (Nj := some 12) #[true, true, true, true, true, true, false, true, true, false, false, true, false, false] #[true, true, true, true, true, false, false, true, true, false, true, true, false, false] rfl rfl rfl rfl (by kernel_rfl) (by decide) (by decide) (fun K hK => ?_) (fun K hK => ?_)
                                · skip
                                  refine goes_ Tryz.func34 (by kernel_rfl) rfl #[.int .i64 k0] (by rfl) rfl rfl (by simp only [List.map_toArray, List.map_cons, List.map_nil]; rfl) ?_
                                  with_reducible refine ((HN2.out _)).mono ?_
                                  rintro e wz ⟨rfl, hb⟩
                                  refine ⟨_, rfl, ?_⟩
                                  have hz := SPR.below (hF) hb
                                  have hzb : SPR w [(R, rc x1 B3x d3x B4x d4x B5x d5x, 30), (S, rc x2 B3y d3y B4y d4y B5y d5y, 30)] [(x1, rc x1 B3x d3x B4x d4x B5x d5x), (x2, rc x2 B3y d3y B4y d4y B5y d5y)] wz := SPR.tk 2 2 hz
                                  refine hK.out _ _ (HSq _ hzb) (fun hHeld => ?_)
                                  clear hK K
                                  refine norm_ (a' := ?_) ?_ ?_
                                  rotate_left
                                  · show Act.put _ (some 50) _ = _
                                    simp only [Act.put, List.setIfInBounds_toArray, List.set_cons_zero, List.set_cons_succ, i64_w, i32_w]
                                    rfl
                                  exact norm_ (by first | (simp only [putAll, Act.put, List.setIfInBounds_toArray, List.set_cons_zero, List.set_cons_succ]; done) | (simp only [putAll, Act.put, List.setIfInBounds_toArray, List.set_cons_zero, List.set_cons_succ]; rfl)) (hJ3_5_11 (Rq11, ()) _ hz)
                                · skip
                                  refine freshR_ (c := #[.int .i64 0, .int .i64 0, .string ⟨#[]⟩, .slice none 0 0, .slice none 0 0, .slice none 0 0, .int .i64 0]) (t := 30) (hF) (by rfl) rfl ?_ ?_
                                  · first | (go_simp; done) | (go_simp; rfl)
                                  intro Rq10 wz hz
                                  have hzb : SPR w [(R, rc x1 B3x d3x B4x d4x B5x d5x, 30), (S, rc x2 B3y d3y B4y d4y B5y d5y, 30)] [(x1, rc x1 B3x d3x B4x d4x B5x d5x), (x2, rc x2 B3y d3y B4y d4y B5y d5y)] wz := SPR.tk 2 2 hz
                                  refine hK.out _ _ (HSq _ hzb) (fun hHeld => ?_)
                                  clear hK K
                                  refine norm_ (a' := ?_) ?_ ?_
                                  rotate_left
                                  · show Act.put _ (some 12) _ = _
                                    simp only [Act.put, List.setIfInBounds_toArray, List.set_cons_zero, List.set_cons_succ, i64_w, i32_w]
                                    rfl
                                  exact norm_ (by first | (simp only [putAll, Act.put, List.setIfInBounds_toArray, List.set_cons_zero, List.set_cons_succ]; done) | (simp only [putAll, Act.put, List.setIfInBounds_toArray, List.set_cons_zero, List.set_cons_succ]; rfl)) (hJ3_10_11 (Rq10, Rq11, ()) _ (SPR.prm hz (.cons _ (.cons _ (.swap _ _ _)))))
                            · skip
                              rintro ⟨Rq10, _⟩ w' hF
                              change SPR w [(R, rc x1 B3x d3x B4x d4x B5x d5x, 30), (S, rc x2 B3y d3y B4y d4y B5y d5y, 30), (Rq10, z7, 30)] [(x1, rc x1 B3x d3x B4x d4x B5x d5x), (x2, rc x2 B3y d3y B4y d4y B5y d5y)] w' at hF
                              have hFb : SPR w [(R, rc x1 B3x d3x B4x d4x B5x d5x, 30), (S, rc x2 B3y d3y B4y d4y B5y d5y, 30)] [(x1, rc x1 B3x d3x B4x d4x B5x d5x), (x2, rc x2 B3y d3y B4y d4y B5y d5y)] w' := SPR.tk 2 2 hF
                              have hHeld : w'.cell? ⟨R, 0, none⟩ = some (.int .i64 x1.f0) ∧ w'.cell? ⟨R, 1, none⟩ = some (.int .i64 x1.f1) ∧ w'.cell? ⟨R, 2, none⟩ = some (.string x1.f2) ∧ w'.cell? ⟨R, 3, none⟩ = some (.slice B3x x1.f3.length d3x) ∧ w'.cell? ⟨R, 4, none⟩ = some (.slice B4x x1.f4.length d4x) ∧ w'.cell? ⟨R, 5, none⟩ = some (.slice B5x x1.f5.length d5x) ∧ w'.cell? ⟨R, 6, none⟩ = some (.int .i64 0) ∧ w'.cell? ⟨S, 0, none⟩ = some (.int .i64 x2.f0) ∧ w'.cell? ⟨S, 1, none⟩ = some (.int .i64 x2.f1) ∧ w'.cell? ⟨S, 2, none⟩ = some (.string x2.f2) ∧ w'.cell? ⟨S, 3, none⟩ = some (.slice B3y x2.f3.length d3y) ∧ w'.cell? ⟨S, 4, none⟩ = some (.slice B4y x2.f4.length d4y) ∧ w'.cell? ⟨S, 5, none⟩ = some (.slice B5y x2.f5.length d5y) ∧ w'.cell? ⟨S, 6, none⟩ = some (.int .i64 0) ∧ SPR w [(R, rc x1 B3x d3x B4x d4x B5x d5x, 30), (S, rc x2 B3y d3y B4y d4y B5y d5y, 30)] [(x1, rc x1 B3x d3x B4x d4x B5x d5x), (x2, rc x2 B3y d3y B4y d4y B5y d5y)] w' := (HSq _ hFb)
                              clear hFb
                              refine norm_ (a' := ?_) ?_ ?_
                              rotate_left
                              · simp only [putAll, Act.put, List.setIfInBounds_toArray, List.set_cons_zero, List.set_cons_succ]
                                rfl
                              refine two_ (i := 5) (j := 11) (Ni := some 50) (Nj := some 13) #[true, true, true, true, true, true, false, true, true, false, true, false, false, false] #[true, true, true, true, true, false, false, true, true, false, true, true, false, false] rfl rfl rfl rfl (by kernel_rfl) (by decide) (by decide) (fun K hK => ?_) (fun K hK => ?_)
                              · skip
                                refine goes_ Tryz.func34 (by kernel_rfl) rfl #[.int .i64 k0] (by rfl) rfl rfl (by simp only [List.map_toArray, List.map_cons, List.map_nil]; rfl) ?_
                                with_reducible refine ((HN2.out _)).mono ?_
                                rintro e wz ⟨rfl, hb⟩
                                refine ⟨_, rfl, ?_⟩
                                have hz := SPR.below (hF) hb
                                have hzb : SPR w [(R, rc x1 B3x d3x B4x d4x B5x d5x, 30), (S, rc x2 B3y d3y B4y d4y B5y d5y, 30)] [(x1, rc x1 B3x d3x B4x d4x B5x d5x), (x2, rc x2 B3y d3y B4y d4y B5y d5y)] wz := SPR.tk 2 2 hz
                                refine hK.out _ _ (HSq _ hzb) (fun hHeld => ?_)
                                clear hK K
                                refine norm_ (a' := ?_) ?_ ?_
                                rotate_left
                                · show Act.put _ (some 50) _ = _
                                  simp only [Act.put, List.setIfInBounds_toArray, List.set_cons_zero, List.set_cons_succ, i64_w, i32_w]
                                  rfl
                                exact norm_ (by first | (simp only [putAll, Act.put, List.setIfInBounds_toArray, List.set_cons_zero, List.set_cons_succ]; done) | (simp only [putAll, Act.put, List.setIfInBounds_toArray, List.set_cons_zero, List.set_cons_succ]; rfl)) (hJ3_5_10 (Rq10, ()) _ hz)
                              · skip
                                refine freshR_ (c := #[.int .i64 0, .int .i64 0, .string ⟨#[]⟩, .slice none 0 0, .slice none 0 0, .slice none 0 0, .int .i64 0]) (t := 30) (hF) (by rfl) rfl ?_ ?_
                                · first | (go_simp; done) | (go_simp; rfl)
                                intro Rq11 wz hz
                                have hzb : SPR w [(R, rc x1 B3x d3x B4x d4x B5x d5x, 30), (S, rc x2 B3y d3y B4y d4y B5y d5y, 30)] [(x1, rc x1 B3x d3x B4x d4x B5x d5x), (x2, rc x2 B3y d3y B4y d4y B5y d5y)] wz := SPR.tk 2 2 hz
                                refine hK.out _ _ (HSq _ hzb) (fun hHeld => ?_)
                                clear hK K
                                refine norm_ (a' := ?_) ?_ ?_
                                rotate_left
                                · show Act.put _ (some 13) _ = _
                                  simp only [Act.put, List.setIfInBounds_toArray, List.set_cons_zero, List.set_cons_succ, i64_w, i32_w]
                                  rfl
                                exact norm_ (by first | (simp only [putAll, Act.put, List.setIfInBounds_toArray, List.set_cons_zero, List.set_cons_succ]; done) | (simp only [putAll, Act.put, List.setIfInBounds_toArray, List.set_cons_zero, List.set_cons_succ]; rfl)) (hJ3_10_11 (Rq10, Rq11, ()) _ hz)
                          · skip
                            rintro ⟨_⟩ w' hF
                            change SPR w [(R, rc x1 B3x d3x B4x d4x B5x d5x, 30), (S, rc x2 B3y d3y B4y d4y B5y d5y, 30)] [(x1, rc x1 B3x d3x B4x d4x B5x d5x), (x2, rc x2 B3y d3y B4y d4y B5y d5y)] w' at hF
                            have hFb : SPR w [(R, rc x1 B3x d3x B4x d4x B5x d5x, 30), (S, rc x2 B3y d3y B4y d4y B5y d5y, 30)] [(x1, rc x1 B3x d3x B4x d4x B5x d5x), (x2, rc x2 B3y d3y B4y d4y B5y d5y)] w' := SPR.tk 2 2 hF
                            have hHeld : w'.cell? ⟨R, 0, none⟩ = some (.int .i64 x1.f0) ∧ w'.cell? ⟨R, 1, none⟩ = some (.int .i64 x1.f1) ∧ w'.cell? ⟨R, 2, none⟩ = some (.string x1.f2) ∧ w'.cell? ⟨R, 3, none⟩ = some (.slice B3x x1.f3.length d3x) ∧ w'.cell? ⟨R, 4, none⟩ = some (.slice B4x x1.f4.length d4x) ∧ w'.cell? ⟨R, 5, none⟩ = some (.slice B5x x1.f5.length d5x) ∧ w'.cell? ⟨R, 6, none⟩ = some (.int .i64 0) ∧ w'.cell? ⟨S, 0, none⟩ = some (.int .i64 x2.f0) ∧ w'.cell? ⟨S, 1, none⟩ = some (.int .i64 x2.f1) ∧ w'.cell? ⟨S, 2, none⟩ = some (.string x2.f2) ∧ w'.cell? ⟨S, 3, none⟩ = some (.slice B3y x2.f3.length d3y) ∧ w'.cell? ⟨S, 4, none⟩ = some (.slice B4y x2.f4.length d4y) ∧ w'.cell? ⟨S, 5, none⟩ = some (.slice B5y x2.f5.length d5y) ∧ w'.cell? ⟨S, 6, none⟩ = some (.int .i64 0) ∧ SPR w [(R, rc x1 B3x d3x B4x d4x B5x d5x, 30), (S, rc x2 B3y d3y B4y d4y B5y d5y, 30)] [(x1, rc x1 B3x d3x B4x d4x B5x d5x), (x2, rc x2 B3y d3y B4y d4y B5y d5y)] w' := (HSq _ hFb)
                            clear hFb
                            refine norm_ (a' := ?_) ?_ ?_
                            rotate_left
                            · simp only [putAll, Act.put, List.setIfInBounds_toArray, List.set_cons_zero, List.set_cons_succ]
                              rfl
                            refine three_ (i := 6) (j := 10) (k := 11) (Ni := some 51) (Nj := some 12) (Nk := some 13) #[true, true, true, true, true, true, true, true, true, false, false, false, false, false] #[true, true, true, true, true, true, false, true, true, false, true, false, false, false] #[true, true, true, true, true, true, false, true, true, false, false, true, false, false] rfl rfl rfl rfl rfl rfl (by kernel_rfl) (by decide) (by decide) (by decide) (fun K hK => ?_) (fun K hK => ?_) (fun K hK => ?_)
                            · skip
                              refine goes_ Tryz.func33 (by kernel_rfl) rfl #[.agg #[.int .i64 x1.f0, .int .i64 x1.f1, .string x1.f2, .slice B3x x1.f3.length d3x, .slice B4x x1.f4.length d4x, .slice B5x x1.f5.length d5x], .agg #[.int .i64 3, .int .i64 (2 * i0), .string ⟨#[]⟩, .slice none 0 0, .slice none 0 0, .slice none 0 0], .agg #[.int .i64 3, .int .i64 (2 * k0), .string ⟨#[]⟩, .slice none 0 0, .slice none 0 0, .slice none 0 0]] (by rfl) rfl rfl (by simp only [List.map_toArray, List.map_cons, List.map_nil]; rfl) ?_
                              with_reducible refine ((HSA.out _ _ _ (hF) 0 rfl)).mono ?_
                              rintro e wz ⟨u6, rfl, hz⟩
                              refine ⟨_, rfl, ?_⟩
                              have hzb : SPR w [(R, rc x1 B3x d3x B4x d4x B5x d5x, 30), (S, rc x2 B3y d3y B4y d4y B5y d5y, 30)] [(x1, rc x1 B3x d3x B4x d4x B5x d5x), (x2, rc x2 B3y d3y B4y d4y B5y d5y)] wz := SPR.tk 2 2 hz
                              refine hK.out _ _ (HSq _ hzb) (fun hHeld => ?_)
                              clear hK K
                              refine norm_ (a' := ?_) ?_ ?_
                              rotate_left
                              · show Act.put _ (some 51) _ = _
                                simp only [Act.put, List.setIfInBounds_toArray, List.set_cons_zero, List.set_cons_succ, i64_w, i32_w]
                                rfl
                              exact norm_ (by first | (simp only [putAll, Act.put, List.setIfInBounds_toArray, List.set_cons_zero, List.set_cons_succ]; done) | (simp only [putAll, Act.put, List.setIfInBounds_toArray, List.set_cons_zero, List.set_cons_succ]; rfl)) (hJ3_5_6 (u6, ()) _ hz)
                            · skip
                              refine freshR_ (c := #[.int .i64 0, .int .i64 0, .string ⟨#[]⟩, .slice none 0 0, .slice none 0 0, .slice none 0 0, .int .i64 0]) (t := 30) (hF) (by rfl) rfl ?_ ?_
                              · first | (go_simp; done) | (go_simp; rfl)
                              intro Rq10 wz hz
                              have hzb : SPR w [(R, rc x1 B3x d3x B4x d4x B5x d5x, 30), (S, rc x2 B3y d3y B4y d4y B5y d5y, 30)] [(x1, rc x1 B3x d3x B4x d4x B5x d5x), (x2, rc x2 B3y d3y B4y d4y B5y d5y)] wz := SPR.tk 2 2 hz
                              refine hK.out _ _ (HSq _ hzb) (fun hHeld => ?_)
                              clear hK K
                              refine norm_ (a' := ?_) ?_ ?_
                              rotate_left
                              · show Act.put _ (some 12) _ = _
                                simp only [Act.put, List.setIfInBounds_toArray, List.set_cons_zero, List.set_cons_succ, i64_w, i32_w]
                                rfl
                              exact norm_ (by first | (simp only [putAll, Act.put, List.setIfInBounds_toArray, List.set_cons_zero, List.set_cons_succ]; done) | (simp only [putAll, Act.put, List.setIfInBounds_toArray, List.set_cons_zero, List.set_cons_succ]; rfl)) (hJ3_5_10 (Rq10, ()) _ hz)
                            · skip
                              refine freshR_ (c := #[.int .i64 0, .int .i64 0, .string ⟨#[]⟩, .slice none 0 0, .slice none 0 0, .slice none 0 0, .int .i64 0]) (t := 30) (hF) (by rfl) rfl ?_ ?_
                              · first | (go_simp; done) | (go_simp; rfl)
                              intro Rq11 wz hz
                              have hzb : SPR w [(R, rc x1 B3x d3x B4x d4x B5x d5x, 30), (S, rc x2 B3y d3y B4y d4y B5y d5y, 30)] [(x1, rc x1 B3x d3x B4x d4x B5x d5x), (x2, rc x2 B3y d3y B4y d4y B5y d5y)] wz := SPR.tk 2 2 hz
                              refine hK.out _ _ (HSq _ hzb) (fun hHeld => ?_)
                              clear hK K
                              refine norm_ (a' := ?_) ?_ ?_
                              rotate_left
                              · show Act.put _ (some 13) _ = _
                                simp only [Act.put, List.setIfInBounds_toArray, List.set_cons_zero, List.set_cons_succ, i64_w, i32_w]
                                rfl
                              exact norm_ (by first | (simp only [putAll, Act.put, List.setIfInBounds_toArray, List.set_cons_zero, List.set_cons_succ]; done) | (simp only [putAll, Act.put, List.setIfInBounds_toArray, List.set_cons_zero, List.set_cons_succ]; rfl)) (hJ3_5_11 (Rq11, ()) _ hz)
                        · skip
                          rintro ⟨Rq10, Rq11, _⟩ w' hF
                          change SPR w [(R, rc x1 B3x d3x B4x d4x B5x d5x, 30), (S, rc x2 B3y d3y B4y d4y B5y d5y, 30), (Rq10, z7, 30), (Rq11, z7, 30)] [(x1, rc x1 B3x d3x B4x d4x B5x d5x), (x2, rc x2 B3y d3y B4y d4y B5y d5y)] w' at hF
                          have hFb : SPR w [(R, rc x1 B3x d3x B4x d4x B5x d5x, 30), (S, rc x2 B3y d3y B4y d4y B5y d5y, 30)] [(x1, rc x1 B3x d3x B4x d4x B5x d5x), (x2, rc x2 B3y d3y B4y d4y B5y d5y)] w' := SPR.tk 2 2 hF
                          have hHeld : w'.cell? ⟨R, 0, none⟩ = some (.int .i64 x1.f0) ∧ w'.cell? ⟨R, 1, none⟩ = some (.int .i64 x1.f1) ∧ w'.cell? ⟨R, 2, none⟩ = some (.string x1.f2) ∧ w'.cell? ⟨R, 3, none⟩ = some (.slice B3x x1.f3.length d3x) ∧ w'.cell? ⟨R, 4, none⟩ = some (.slice B4x x1.f4.length d4x) ∧ w'.cell? ⟨R, 5, none⟩ = some (.slice B5x x1.f5.length d5x) ∧ w'.cell? ⟨R, 6, none⟩ = some (.int .i64 0) ∧ w'.cell? ⟨S, 0, none⟩ = some (.int .i64 x2.f0) ∧ w'.cell? ⟨S, 1, none⟩ = some (.int .i64 x2.f1) ∧ w'.cell? ⟨S, 2, none⟩ = some (.string x2.f2) ∧ w'.cell? ⟨S, 3, none⟩ = some (.slice B3y x2.f3.length d3y) ∧ w'.cell? ⟨S, 4, none⟩ = some (.slice B4y x2.f4.length d4y) ∧ w'.cell? ⟨S, 5, none⟩ = some (.slice B5y x2.f5.length d5y) ∧ w'.cell? ⟨S, 6, none⟩ = some (.int .i64 0) ∧ SPR w [(R, rc x1 B3x d3x B4x d4x B5x d5x, 30), (S, rc x2 B3y d3y B4y d4y B5y d5y, 30)] [(x1, rc x1 B3x d3x B4x d4x B5x d5x), (x2, rc x2 B3y d3y B4y d4y B5y d5y)] w' := (HSq _ hFb)
                          clear hFb
                          refine norm_ (a' := ?_) ?_ ?_
                          rotate_left
                          · simp only [putAll, Act.put, List.setIfInBounds_toArray, List.set_cons_zero, List.set_cons_succ]
                            rfl
                          refine one_ (i := 5) (N := some 50) #[true, true, true, true, true, true, false, true, true, false, true, true, false, false] rfl rfl (by kernel_rfl) (by decide) (fun K hK => ?_)
                          refine goes_ Tryz.func34 (by kernel_rfl) rfl #[.int .i64 k0] (by rfl) rfl rfl (by simp only [List.map_toArray, List.map_cons, List.map_nil]; rfl) ?_
                          with_reducible refine ((HN2.out _)).mono ?_
                          rintro e wz ⟨rfl, hb⟩
                          refine ⟨_, rfl, ?_⟩
                          have hz := SPR.below (hF) hb
                          have hzb : SPR w [(R, rc x1 B3x d3x B4x d4x B5x d5x, 30), (S, rc x2 B3y d3y B4y d4y B5y d5y, 30)] [(x1, rc x1 B3x d3x B4x d4x B5x d5x), (x2, rc x2 B3y d3y B4y d4y B5y d5y)] wz := SPR.tk 2 2 hz
                          refine hK.out _ _ (HSq _ hzb) (fun hHeld => ?_)
                          clear hK K
                          refine norm_ (a' := ?_) ?_ ?_
                          rotate_left
                          · show Act.put _ (some 50) _ = _
                            simp only [Act.put, List.setIfInBounds_toArray, List.set_cons_zero, List.set_cons_succ, i64_w, i32_w]
                            rfl
                          exact norm_ (by first | (simp only [putAll, Act.put, List.setIfInBounds_toArray, List.set_cons_zero, List.set_cons_succ]; done) | (simp only [putAll, Act.put, List.setIfInBounds_toArray, List.set_cons_zero, List.set_cons_succ]; rfl)) (hJ3_5_10_11 (Rq10, Rq11, ()) _ hz)
                      · skip
                        rintro ⟨Rq11, _⟩ w' hF
                        change SPR w [(R, rc x1 B3x d3x B4x d4x B5x d5x, 30), (S, rc x2 B3y d3y B4y d4y B5y d5y, 30), (Rq11, z7, 30)] [(x1, rc x1 B3x d3x B4x d4x B5x d5x), (x2, rc x2 B3y d3y B4y d4y B5y d5y)] w' at hF
                        have hFb : SPR w [(R, rc x1 B3x d3x B4x d4x B5x d5x, 30), (S, rc x2 B3y d3y B4y d4y B5y d5y, 30)] [(x1, rc x1 B3x d3x B4x d4x B5x d5x), (x2, rc x2 B3y d3y B4y d4y B5y d5y)] w' := SPR.tk 2 2 hF
                        have hHeld : w'.cell? ⟨R, 0, none⟩ = some (.int .i64 x1.f0) ∧ w'.cell? ⟨R, 1, none⟩ = some (.int .i64 x1.f1) ∧ w'.cell? ⟨R, 2, none⟩ = some (.string x1.f2) ∧ w'.cell? ⟨R, 3, none⟩ = some (.slice B3x x1.f3.length d3x) ∧ w'.cell? ⟨R, 4, none⟩ = some (.slice B4x x1.f4.length d4x) ∧ w'.cell? ⟨R, 5, none⟩ = some (.slice B5x x1.f5.length d5x) ∧ w'.cell? ⟨R, 6, none⟩ = some (.int .i64 0) ∧ w'.cell? ⟨S, 0, none⟩ = some (.int .i64 x2.f0) ∧ w'.cell? ⟨S, 1, none⟩ = some (.int .i64 x2.f1) ∧ w'.cell? ⟨S, 2, none⟩ = some (.string x2.f2) ∧ w'.cell? ⟨S, 3, none⟩ = some (.slice B3y x2.f3.length d3y) ∧ w'.cell? ⟨S, 4, none⟩ = some (.slice B4y x2.f4.length d4y) ∧ w'.cell? ⟨S, 5, none⟩ = some (.slice B5y x2.f5.length d5y) ∧ w'.cell? ⟨S, 6, none⟩ = some (.int .i64 0) ∧ SPR w [(R, rc x1 B3x d3x B4x d4x B5x d5x, 30), (S, rc x2 B3y d3y B4y d4y B5y d5y, 30)] [(x1, rc x1 B3x d3x B4x d4x B5x d5x), (x2, rc x2 B3y d3y B4y d4y B5y d5y)] w' := (HSq _ hFb)
                        clear hFb
                        refine norm_ (a' := ?_) ?_ ?_
                        rotate_left
                        · simp only [putAll, Act.put, List.setIfInBounds_toArray, List.set_cons_zero, List.set_cons_succ]
                          rfl
                        refine two_ (i := 6) (j := 10) (Ni := some 51) (Nj := some 12) #[true, true, true, true, true, true, true, true, true, false, false, true, false, false] #[true, true, true, true, true, true, false, true, true, false, true, true, false, false] rfl rfl rfl rfl (by kernel_rfl) (by decide) (by decide) (fun K hK => ?_) (fun K hK => ?_)
                        · skip
                          refine goes_ Tryz.func33 (by kernel_rfl) rfl #[.agg #[.int .i64 x1.f0, .int .i64 x1.f1, .string x1.f2, .slice B3x x1.f3.length d3x, .slice B4x x1.f4.length d4x, .slice B5x x1.f5.length d5x], .agg #[.int .i64 3, .int .i64 (2 * i0), .string ⟨#[]⟩, .slice none 0 0, .slice none 0 0, .slice none 0 0], .agg #[.int .i64 3, .int .i64 (2 * k0), .string ⟨#[]⟩, .slice none 0 0, .slice none 0 0, .slice none 0 0]] (by rfl) rfl rfl (by simp only [List.map_toArray, List.map_cons, List.map_nil]; rfl) ?_
                          with_reducible refine ((HSA.out _ _ _ (hF) 0 rfl)).mono ?_
                          rintro e wz ⟨u6, rfl, hz⟩
                          refine ⟨_, rfl, ?_⟩
                          have hzb : SPR w [(R, rc x1 B3x d3x B4x d4x B5x d5x, 30), (S, rc x2 B3y d3y B4y d4y B5y d5y, 30)] [(x1, rc x1 B3x d3x B4x d4x B5x d5x), (x2, rc x2 B3y d3y B4y d4y B5y d5y)] wz := SPR.tk 2 2 hz
                          refine hK.out _ _ (HSq _ hzb) (fun hHeld => ?_)
                          clear hK K
                          refine norm_ (a' := ?_) ?_ ?_
                          rotate_left
                          · show Act.put _ (some 51) _ = _
                            simp only [Act.put, List.setIfInBounds_toArray, List.set_cons_zero, List.set_cons_succ, i64_w, i32_w]
                            rfl
                          exact norm_ (by first | (simp only [putAll, Act.put, List.setIfInBounds_toArray, List.set_cons_zero, List.set_cons_succ]; done) | (simp only [putAll, Act.put, List.setIfInBounds_toArray, List.set_cons_zero, List.set_cons_succ]; rfl)) (hJ3_5_6_11 (Rq11, u6, ()) _ hz)
                        · skip
                          refine freshR_ (c := #[.int .i64 0, .int .i64 0, .string ⟨#[]⟩, .slice none 0 0, .slice none 0 0, .slice none 0 0, .int .i64 0]) (t := 30) (hF) (by rfl) rfl ?_ ?_
                          · first | (go_simp; done) | (go_simp; rfl)
                          intro Rq10 wz hz
                          have hzb : SPR w [(R, rc x1 B3x d3x B4x d4x B5x d5x, 30), (S, rc x2 B3y d3y B4y d4y B5y d5y, 30)] [(x1, rc x1 B3x d3x B4x d4x B5x d5x), (x2, rc x2 B3y d3y B4y d4y B5y d5y)] wz := SPR.tk 2 2 hz
                          refine hK.out _ _ (HSq _ hzb) (fun hHeld => ?_)
                          clear hK K
                          refine norm_ (a' := ?_) ?_ ?_
                          rotate_left
                          · show Act.put _ (some 12) _ = _
                            simp only [Act.put, List.setIfInBounds_toArray, List.set_cons_zero, List.set_cons_succ, i64_w, i32_w]
                            rfl
                          exact norm_ (by first | (simp only [putAll, Act.put, List.setIfInBounds_toArray, List.set_cons_zero, List.set_cons_succ]; done) | (simp only [putAll, Act.put, List.setIfInBounds_toArray, List.set_cons_zero, List.set_cons_succ]; rfl)) (hJ3_5_10_11 (Rq10, Rq11, ()) _ (SPR.prm hz (.cons _ (.cons _ (.swap _ _ _)))))
                    · skip
                      rintro ⟨Rq10, _⟩ w' hF
                      change SPR w [(R, rc x1 B3x d3x B4x d4x B5x d5x, 30), (S, rc x2 B3y d3y B4y d4y B5y d5y, 30), (Rq10, z7, 30)] [(x1, rc x1 B3x d3x B4x d4x B5x d5x), (x2, rc x2 B3y d3y B4y d4y B5y d5y)] w' at hF
                      have hFb : SPR w [(R, rc x1 B3x d3x B4x d4x B5x d5x, 30), (S, rc x2 B3y d3y B4y d4y B5y d5y, 30)] [(x1, rc x1 B3x d3x B4x d4x B5x d5x), (x2, rc x2 B3y d3y B4y d4y B5y d5y)] w' := SPR.tk 2 2 hF
                      have hHeld : w'.cell? ⟨R, 0, none⟩ = some (.int .i64 x1.f0) ∧ w'.cell? ⟨R, 1, none⟩ = some (.int .i64 x1.f1) ∧ w'.cell? ⟨R, 2, none⟩ = some (.string x1.f2) ∧ w'.cell? ⟨R, 3, none⟩ = some (.slice B3x x1.f3.length d3x) ∧ w'.cell? ⟨R, 4, none⟩ = some (.slice B4x x1.f4.length d4x) ∧ w'.cell? ⟨R, 5, none⟩ = some (.slice B5x x1.f5.length d5x) ∧ w'.cell? ⟨R, 6, none⟩ = some (.int .i64 0) ∧ w'.cell? ⟨S, 0, none⟩ = some (.int .i64 x2.f0) ∧ w'.cell? ⟨S, 1, none⟩ = some (.int .i64 x2.f1) ∧ w'.cell? ⟨S, 2, none⟩ = some (.string x2.f2) ∧ w'.cell? ⟨S, 3, none⟩ = some (.slice B3y x2.f3.length d3y) ∧ w'.cell? ⟨S, 4, none⟩ = some (.slice B4y x2.f4.length d4y) ∧ w'.cell? ⟨S, 5, none⟩ = some (.slice B5y x2.f5.length d5y) ∧ w'.cell? ⟨S, 6, none⟩ = some (.int .i64 0) ∧ SPR w [(R, rc x1 B3x d3x B4x d4x B5x d5x, 30), (S, rc x2 B3y d3y B4y d4y B5y d5y, 30)] [(x1, rc x1 B3x d3x B4x d4x B5x d5x), (x2, rc x2 B3y d3y B4y d4y B5y d5y)] w' := (HSq _ hFb)
                      clear hFb
                      refine norm_ (a' := ?_) ?_ ?_
                      rotate_left
                      · simp only [putAll, Act.put, List.setIfInBounds_toArray, List.set_cons_zero, List.set_cons_succ]
                        rfl
                      refine two_ (i := 6) (j := 11) (Ni := some 51) (Nj := some 13) #[true, true, true, true, true, true, true, true, true, false, true, false, false, false] #[true, true, true, true, true, true, false, true, true, false, true, true, false, false] rfl rfl rfl rfl (by kernel_rfl) (by decide) (by decide) (fun K hK => ?_) (fun K hK => ?_)
                      · skip
                        refine goes_ Tryz.func33 (by kernel_rfl) rfl #[.agg #[.int .i64 x1.f0, .int .i64 x1.f1, .string x1.f2, .slice B3x x1.f3.length d3x, .slice B4x x1.f4.length d4x, .slice B5x x1.f5.length d5x], .agg #[.int .i64 3, .int .i64 (2 * i0), .string ⟨#[]⟩, .slice none 0 0, .slice none 0 0, .slice none 0 0], .agg #[.int .i64 3, .int .i64 (2 * k0), .string ⟨#[]⟩, .slice none 0 0, .slice none 0 0, .slice none 0 0]] (by rfl) rfl rfl (by simp only [List.map_toArray, List.map_cons, List.map_nil]; rfl) ?_
                        with_reducible refine ((HSA.out _ _ _ (hF) 0 rfl)).mono ?_
                        rintro e wz ⟨u6, rfl, hz⟩
                        refine ⟨_, rfl, ?_⟩
                        have hzb : SPR w [(R, rc x1 B3x d3x B4x d4x B5x d5x, 30), (S, rc x2 B3y d3y B4y d4y B5y d5y, 30)] [(x1, rc x1 B3x d3x B4x d4x B5x d5x), (x2, rc x2 B3y d3y B4y d4y B5y d5y)] wz := SPR.tk 2 2 hz
                        refine hK.out _ _ (HSq _ hzb) (fun hHeld => ?_)
                        clear hK K
                        refine norm_ (a' := ?_) ?_ ?_
                        rotate_left
                        · show Act.put _ (some 51) _ = _
                          simp only [Act.put, List.setIfInBounds_toArray, List.set_cons_zero, List.set_cons_succ, i64_w, i32_w]
                          rfl
                        exact norm_ (by first | (simp only [putAll, Act.put, List.setIfInBounds_toArray, List.set_cons_zero, List.set_cons_succ]; done) | (simp only [putAll, Act.put, List.setIfInBounds_toArray, List.set_cons_zero, List.set_cons_succ]; rfl)) (hJ3_5_6_10 (Rq10, u6, ()) _ hz)
                      · skip
                        refine freshR_ (c := #[.int .i64 0, .int .i64 0, .string ⟨#[]⟩, .slice none 0 0, .slice none 0 0, .slice none 0 0, .int .i64 0]) (t := 30) (hF) (by rfl) rfl ?_ ?_
                        · first | (go_simp; done) | (go_simp; rfl)
                        intro Rq11 wz hz
                        have hzb : SPR w [(R, rc x1 B3x d3x B4x d4x B5x d5x, 30), (S, rc x2 B3y d3y B4y d4y B5y d5y, 30)] [(x1, rc x1 B3x d3x B4x d4x B5x d5x), (x2, rc x2 B3y d3y B4y d4y B5y d5y)] wz := SPR.tk 2 2 hz
                        refine hK.out _ _ (HSq _ hzb) (fun hHeld => ?_)
                        clear hK K
                        refine norm_ (a' := ?_) ?_ ?_
                        rotate_left
                        · show Act.put _ (some 13) _ = _
                          simp only [Act.put, List.setIfInBounds_toArray, List.set_cons_zero, List.set_cons_succ, i64_w, i32_w]
                          rfl
                        exact norm_ (by first | (simp only [putAll, Act.put, List.setIfInBounds_toArray, List.set_cons_zero, List.set_cons_succ]; done) | (simp only [putAll, Act.put, List.setIfInBounds_toArray, List.set_cons_zero, List.set_cons_succ]; rfl)) (hJ3_5_10_11 (Rq10, Rq11, ()) _ hz)
                  · skip
                    rintro ⟨c6, _⟩ w' hF
                    change SPR w [(R, rc x1 B3x d3x B4x d4x B5x d5x, 30), (S, rc x2 B3y d3y B4y d4y B5y d5y, 30)] [(x1, rc x1 B3x d3x B4x d4x B5x d5x), (x2, rc x2 B3y d3y B4y d4y B5y d5y), (x3, c6)] w' at hF
                    obtain ⟨B3z, d3z, B4z, d4z, B5z, d5z, rfl⟩ := hF.cells 2 rfl
                    have hFb : SPR w [(R, rc x1 B3x d3x B4x d4x B5x d5x, 30), (S, rc x2 B3y d3y B4y d4y B5y d5y, 30)] [(x1, rc x1 B3x d3x B4x d4x B5x d5x), (x2, rc x2 B3y d3y B4y d4y B5y d5y)] w' := SPR.tk 2 2 hF
                    have hHeld : w'.cell? ⟨R, 0, none⟩ = some (.int .i64 x1.f0) ∧ w'.cell? ⟨R, 1, none⟩ = some (.int .i64 x1.f1) ∧ w'.cell? ⟨R, 2, none⟩ = some (.string x1.f2) ∧ w'.cell? ⟨R, 3, none⟩ = some (.slice B3x x1.f3.length d3x) ∧ w'.cell? ⟨R, 4, none⟩ = some (.slice B4x x1.f4.length d4x) ∧ w'.cell? ⟨R, 5, none⟩ = some (.slice B5x x1.f5.length d5x) ∧ w'.cell? ⟨R, 6, none⟩ = some (.int .i64 0) ∧ w'.cell? ⟨S, 0, none⟩ = some (.int .i64 x2.f0) ∧ w'.cell? ⟨S, 1, none⟩ = some (.int .i64 x2.f1) ∧ w'.cell? ⟨S, 2, none⟩ = some (.string x2.f2) ∧ w'.cell? ⟨S, 3, none⟩ = some (.slice B3y x2.f3.length d3y) ∧ w'.cell? ⟨S, 4, none⟩ = some (.slice B4y x2.f4.length d4y) ∧ w'.cell? ⟨S, 5, none⟩ = some (.slice B5y x2.f5.length d5y) ∧ w'.cell? ⟨S, 6, none⟩ = some (.int .i64 0) ∧ SPR w [(R, rc x1 B3x d3x B4x d4x B5x d5x, 30), (S, rc x2 B3y d3y B4y d4y B5y d5y, 30)] [(x1, rc x1 B3x d3x B4x d4x B5x d5x), (x2, rc x2 B3y d3y B4y d4y B5y d5y)] w' := (HSq _ hFb)
                    clear hFb
                    refine norm_ (a' := ?_) ?_ ?_
                    rotate_left
                    · simp only [putAll, Act.put, List.setIfInBounds_toArray, List.set_cons_zero, List.set_cons_succ]
                      rfl
                    refine three_ (i := 9) (j := 10) (k := 11) (Ni := some 54) (Nj := some 12) (Nk := some 13) #[true, true, true, true, true, true, true, true, true, true, false, false, false, false] #[true, true, true, true, true, true, true, true, true, false, true, false, false, false] #[true, true, true, true, true, true, true, true, true, false, false, true, false, false] rfl rfl rfl rfl rfl rfl (by kernel_rfl) (by decide) (by decide) (by decide) (fun K hK => ?_) (fun K hK => ?_) (fun K hK => ?_)
                    · skip
                      refine goes_ Tryz.func37 (by kernel_rfl) rfl #[.agg #[.int .i64 x2.f0, .int .i64 x2.f1, .string x2.f2, .slice B3y x2.f3.length d3y, .slice B4y x2.f4.length d4y, .slice B5y x2.f5.length d5y]] (by rfl) rfl rfl (by simp only [List.map_toArray, List.map_cons, List.map_nil]; rfl) ?_
                      with_reducible refine ((HRB.out _ _ _ (hF) 1 rfl)).mono ?_
                      rintro e wz ⟨u9, rfl, hz⟩
                      refine ⟨_, rfl, ?_⟩
                      have hzb : SPR w [(R, rc x1 B3x d3x B4x d4x B5x d5x, 30), (S, rc x2 B3y d3y B4y d4y B5y d5y, 30)] [(x1, rc x1 B3x d3x B4x d4x B5x d5x), (x2, rc x2 B3y d3y B4y d4y B5y d5y)] wz := SPR.tk 2 2 hz
                      refine hK.out _ _ (HSq _ hzb) (fun hHeld => ?_)
                      clear hK K
                      refine norm_ (a' := ?_) ?_ ?_
                      rotate_left
                      · show Act.put _ (some 54) _ = _
                        simp only [Act.put, List.setIfInBounds_toArray, List.set_cons_zero, List.set_cons_succ, i64_w, i32_w]
                        rfl
                      exact norm_ (by first | (simp only [putAll, Act.put, List.setIfInBounds_toArray, List.set_cons_zero, List.set_cons_succ]; done) | (simp only [putAll, Act.put, List.setIfInBounds_toArray, List.set_cons_zero, List.set_cons_succ]; rfl)) (hJ3_5_6_9 (#[.int .i64 x3.f0, .int .i64 x3.f1, .string x3.f2, .slice B3z x3.f3.length d3z, .slice B4z x3.f4.length d4z, .slice B5z x3.f5.length d5z, .int .i64 0], u9, ()) _ hz)
                    · skip
                      refine freshR_ (c := #[.int .i64 0, .int .i64 0, .string ⟨#[]⟩, .slice none 0 0, .slice none 0 0, .slice none 0 0, .int .i64 0]) (t := 30) (hF) (by rfl) rfl ?_ ?_
                      · first | (go_simp; done) | (go_simp; rfl)
                      intro Rq10 wz hz
                      have hzb : SPR w [(R, rc x1 B3x d3x B4x d4x B5x d5x, 30), (S, rc x2 B3y d3y B4y d4y B5y d5y, 30)] [(x1, rc x1 B3x d3x B4x d4x B5x d5x), (x2, rc x2 B3y d3y B4y d4y B5y d5y)] wz := SPR.tk 2 2 hz
                      refine hK.out _ _ (HSq _ hzb) (fun hHeld => ?_)
                      clear hK K
                      refine norm_ (a' := ?_) ?_ ?_
                      rotate_left
                      · show Act.put _ (some 12) _ = _
                        simp only [Act.put, List.setIfInBounds_toArray, List.set_cons_zero, List.set_cons_succ, i64_w, i32_w]
                        rfl
                      exact norm_ (by first | (simp only [putAll, Act.put, List.setIfInBounds_toArray, List.set_cons_zero, List.set_cons_succ]; done) | (simp only [putAll, Act.put, List.setIfInBounds_toArray, List.set_cons_zero, List.set_cons_succ]; rfl)) (hJ3_5_6_10 (Rq10, #[.int .i64 x3.f0, .int .i64 x3.f1, .string x3.f2, .slice B3z x3.f3.length d3z, .slice B4z x3.f4.length d4z, .slice B5z x3.f5.length d5z, .int .i64 0], ()) _ hz)
                    · skip
                      refine freshR_ (c := #[.int .i64 0, .int .i64 0, .string ⟨#[]⟩, .slice none 0 0, .slice none 0 0, .slice none 0 0, .int .i64 0]) (t := 30) (hF) (by rfl) rfl ?_ ?_
                      · first | (go_simp; done) | (go_simp; rfl)
                      intro Rq11 wz hz
                      have hzb : SPR w [(R, rc x1 B3x d3x B4x d4x B5x d5x, 30), (S, rc x2 B3y d3y B4y d4y B5y d5y, 30)] [(x1, rc x1 B3x d3x B4x d4x B5x d5x), (x2, rc x2 B3y d3y B4y d4y B5y d5y)] wz := SPR.tk 2 2 hz
                      refine hK.out _ _ (HSq _ hzb) (fun hHeld => ?_)
                      clear hK K
                      refine norm_ (a' := ?_) ?_ ?_
                      rotate_left
                      · show Act.put _ (some 13) _ = _
                        simp only [Act.put, List.setIfInBounds_toArray, List.set_cons_zero, List.set_cons_succ, i64_w, i32_w]
                        rfl
                      exact norm_ (by first | (simp only [putAll, Act.put, List.setIfInBounds_toArray, List.set_cons_zero, List.set_cons_succ]; done) | (simp only [putAll, Act.put, List.setIfInBounds_toArray, List.set_cons_zero, List.set_cons_succ]; rfl)) (hJ3_5_6_11 (Rq11, #[.int .i64 x3.f0, .int .i64 x3.f1, .string x3.f2, .slice B3z x3.f3.length d3z, .slice B4z x3.f4.length d4z, .slice B5z x3.f5.length d5z, .int .i64 0], ()) _ hz)
                · skip
                  rintro ⟨Rq10, Rq11, _⟩ w' hF
                  change SPR w [(R, rc x1 B3x d3x B4x d4x B5x d5x, 30), (S, rc x2 B3y d3y B4y d4y B5y d5y, 30), (Rq10, z7, 30), (Rq11, z7, 30)] [(x1, rc x1 B3x d3x B4x d4x B5x d5x), (x2, rc x2 B3y d3y B4y d4y B5y d5y)] w' at hF
                  have hFb : SPR w [(R, rc x1 B3x d3x B4x d4x B5x d5x, 30), (S, rc x2 B3y d3y B4y d4y B5y d5y, 30)] [(x1, rc x1 B3x d3x B4x d4x B5x d5x), (x2, rc x2 B3y d3y B4y d4y B5y d5y)] w' := SPR.tk 2 2 hF
                  have hHeld : w'.cell? ⟨R, 0, none⟩ = some (.int .i64 x1.f0) ∧ w'.cell? ⟨R, 1, none⟩ = some (.int .i64 x1.f1) ∧ w'.cell? ⟨R, 2, none⟩ = some (.string x1.f2) ∧ w'.cell? ⟨R, 3, none⟩ = some (.slice B3x x1.f3.length d3x) ∧ w'.cell? ⟨R, 4, none⟩ = some (.slice B4x x1.f4.length d4x) ∧ w'.cell? ⟨R, 5, none⟩ = some (.slice B5x x1.f5.length d5x) ∧ w'.cell? ⟨R, 6, none⟩ = some (.int .i64 0) ∧ w'.cell? ⟨S, 0, none⟩ = some (.int .i64 x2.f0) ∧ w'.cell? ⟨S, 1, none⟩ = some (.int .i64 x2.f1) ∧ w'.cell? ⟨S, 2, none⟩ = some (.string x2.f2) ∧ w'.cell? ⟨S, 3, none⟩ = some (.slice B3y x2.f3.length d3y) ∧ w'.cell? ⟨S, 4, none⟩ = some (.slice B4y x2.f4.length d4y) ∧ w'.cell? ⟨S, 5, none⟩ = some (.slice B5y x2.f5.length d5y) ∧ w'.cell? ⟨S, 6, none⟩ = some (.int .i64 0) ∧ SPR w [(R, rc x1 B3x d3x B4x d4x B5x d5x, 30), (S, rc x2 B3y d3y B4y d4y B5y d5y, 30)] [(x1, rc x1 B3x d3x B4x d4x B5x d5x), (x2, rc x2 B3y d3y B4y d4y B5y d5y)] w' := (HSq _ hFb)
                  clear hFb
                  refine norm_ (a' := ?_) ?_ ?_
                  rotate_left
                  · simp only [putAll, Act.put, List.setIfInBounds_toArray, List.set_cons_zero, List.set_cons_succ]
                    rfl
                  refine one_ (i := 6) (N := some 51) #[true, true, true, true, true, true, true, true, true, false, true, true, false, false] rfl rfl (by kernel_rfl) (by decide) (fun K hK => ?_)
                  refine goes_ Tryz.func33 (by kernel_rfl) rfl #[.agg #[.int .i64 x1.f0, .int .i64 x1.f1, .string x1.f2, .slice B3x x1.f3.length d3x, .slice B4x x1.f4.length d4x, .slice B5x x1.f5.length d5x], .agg #[.int .i64 3, .int .i64 (2 * i0), .string ⟨#[]⟩, .slice none 0 0, .slice none 0 0, .slice none 0 0], .agg #[.int .i64 3, .int .i64 (2 * k0), .string ⟨#[]⟩, .slice none 0 0, .slice none 0 0, .slice none 0 0]] (by rfl) rfl rfl (by simp only [List.map_toArray, List.map_cons, List.map_nil]; rfl) ?_
                  with_reducible refine ((HSA.out _ _ _ (hF) 0 rfl)).mono ?_
                  rintro e wz ⟨u6, rfl, hz⟩
                  refine ⟨_, rfl, ?_⟩
                  have hzb : SPR w [(R, rc x1 B3x d3x B4x d4x B5x d5x, 30), (S, rc x2 B3y d3y B4y d4y B5y d5y, 30)] [(x1, rc x1 B3x d3x B4x d4x B5x d5x), (x2, rc x2 B3y d3y B4y d4y B5y d5y)] wz := SPR.tk 2 2 hz
                  refine hK.out _ _ (HSq _ hzb) (fun hHeld => ?_)
                  clear hK K
                  refine norm_ (a' := ?_) ?_ ?_
                  rotate_left
                  · show Act.put _ (some 51) _ = _
                    simp only [Act.put, List.setIfInBounds_toArray, List.set_cons_zero, List.set_cons_succ, i64_w, i32_w]
                    rfl
                  exact norm_ (by first | (simp only [putAll, Act.put, List.setIfInBounds_toArray, List.set_cons_zero, List.set_cons_succ]; done) | (simp only [putAll, Act.put, List.setIfInBounds_toArray, List.set_cons_zero, List.set_cons_succ]; rfl)) (hJ3_5_6_10_11 (Rq10, Rq11, u6, ()) _ hz)
              · skip
                rintro ⟨Rq11, c6, _⟩ w' hF
                change SPR w [(R, rc x1 B3x d3x B4x d4x B5x d5x, 30), (S, rc x2 B3y d3y B4y d4y B5y d5y, 30), (Rq11, z7, 30)] [(x1, rc x1 B3x d3x B4x d4x B5x d5x), (x2, rc x2 B3y d3y B4y d4y B5y d5y), (x3, c6)] w' at hF
                obtain ⟨B3z, d3z, B4z, d4z, B5z, d5z, rfl⟩ := hF.cells 2 rfl
                have hFb : SPR w [(R, rc x1 B3x d3x B4x d4x B5x d5x, 30), (S, rc x2 B3y d3y B4y d4y B5y d5y, 30)] [(x1, rc x1 B3x d3x B4x d4x B5x d5x), (x2, rc x2 B3y d3y B4y d4y B5y d5y)] w' := SPR.tk 2 2 hF
                have hHeld : w'.cell? ⟨R, 0, none⟩ = some (.int .i64 x1.f0) ∧ w'.cell? ⟨R, 1, none⟩ = some (.int .i64 x1.f1) ∧ w'.cell? ⟨R, 2, none⟩ = some (.string x1.f2) ∧ w'.cell? ⟨R, 3, none⟩ = some (.slice B3x x1.f3.length d3x) ∧ w'.cell? ⟨R, 4, none⟩ = some (.slice B4x x1.f4.length d4x) ∧ w'.cell? ⟨R, 5, none⟩ = some (.slice B5x x1.f5.length d5x) ∧ w'.cell? ⟨R, 6, none⟩ = some (.int .i64 0) ∧ w'.cell? ⟨S, 0, none⟩ = some (.int .i64 x2.f0) ∧ w'.cell? ⟨S, 1, none⟩ = some (.int .i64 x2.f1) ∧ w'.cell? ⟨S, 2, none⟩ = some (.string x2.f2) ∧ w'.cell? ⟨S, 3, none⟩ = some (.slice B3y x2.f3.length d3y) ∧ w'.cell? ⟨S, 4, none⟩ = some (.slice B4y x2.f4.length d4y) ∧ w'.cell? ⟨S, 5, none⟩ = some (.slice B5y x2.f5.length d5y) ∧ w'.cell? ⟨S, 6, none⟩ = some (.int .i64 0) ∧ SPR w [(R, rc x1 B3x d3x B4x d4x B5x d5x, 30), (S, rc x2 B3y d3y B4y d4y B5y d5y, 30)] [(x1, rc x1 B3x d3x B4x d4x B5x d5x), (x2, rc x2 B3y d3y B4y d4y B5y d5y)] w' := (HSq _ hFb)
                clear hFb
                refine norm_ (a' := ?_) ?_ ?_
                rotate_left
                · simp only [putAll, Act.put, List.setIfInBounds_toArray, List.set_cons_zero, List.set_cons_succ]
                  rfl
                refine two_ (i := 9) (j := 10) (Ni := some 54) (Nj := some 12) #[true, true, true, true, true, true, true, true, true, true, false, true, false, false] #[true, true, true, true, true, true, true, true, true, false, true, true, false, false] rfl rfl rfl rfl (by kernel_rfl) (by decide) (by decide) (fun K hK => ?_) (fun K hK => ?_)
                · skip
                  refine goes_ Tryz.func37 (by kernel_rfl) rfl #[.agg #[.int .i64 x2.f0, .int .i64 x2.f1, .string x2.f2, .slice B3y x2.f3.length d3y, .slice B4y x2.f4.length d4y, .slice B5y x2.f5.length d5y]] (by rfl) rfl rfl (by simp only [List.map_toArray, List.map_cons, List.map_nil]; rfl) ?_
                  with_reducible refine ((HRB.out _ _ _ (hF) 1 rfl)).mono ?_
                  rintro e wz ⟨u9, rfl, hz⟩
                  refine ⟨_, rfl, ?_⟩
                  have hzb : SPR w [(R, rc x1 B3x d3x B4x d4x B5x d5x, 30), (S, rc x2 B3y d3y B4y d4y B5y d5y, 30)] [(x1, rc x1 B3x d3x B4x d4x B5x d5x), (x2, rc x2 B3y d3y B4y d4y B5y d5y)] wz := SPR.tk 2 2 hz
                  refine hK.out _ _ (HSq _ hzb) (fun hHeld => ?_)
                  clear hK K
                  refine norm_ (a' := ?_) ?_ ?_
                  rotate_left
                  · show Act.put _ (some 54) _ = _
                    simp only [Act.put, List.setIfInBounds_toArray, List.set_cons_zero, List.set_cons_succ, i64_w, i32_w]
                    rfl
                  exact norm_ (by first | (simp only [putAll, Act.put, List.setIfInBounds_toArray, List.set_cons_zero, List.set_cons_succ]; done) | (simp only [putAll, Act.put, List.setIfInBounds_toArray, List.set_cons_zero, List.set_cons_succ]; rfl)) (hJ3_5_6_9_11 (Rq11, #[.int .i64 x3.f0, .int .i64 x3.f1, .string x3.f2, .slice B3z x3.f3.length d3z, .slice B4z x3.f4.length d4z, .slice B5z x3.f5.length d5z, .int .i64 0], u9, ()) _ hz)
                · skip
                  refine freshR_ (c := #[.int .i64 0, .int .i64 0, .string ⟨#[]⟩, .slice none 0 0, .slice none 0 0, .slice none 0 0, .int .i64 0]) (t := 30) (hF) (by rfl) rfl ?_ ?_
                  · first | (go_simp; done) | (go_simp; rfl)
                  intro Rq10 wz hz
                  have hzb : SPR w [(R, rc x1 B3x d3x B4x d4x B5x d5x, 30), (S, rc x2 B3y d3y B4y d4y B5y d5y, 30)] [(x1, rc x1 B3x d3x B4x d4x B5x d5x), (x2, rc x2 B3y d3y B4y d4y B5y d5y)] wz := SPR.tk 2 2 hz
                  refine hK.out _ _ (HSq _ hzb) (fun hHeld => ?_)
                  clear hK K
                  refine norm_ (a' := ?_) ?_ ?_
                  rotate_left
                  · show Act.put _ (some 12) _ = _
                    simp only [Act.put, List.setIfInBounds_toArray, List.set_cons_zero, List.set_cons_succ, i64_w, i32_w]
                    rfl
                  exact norm_ (by first | (simp only [putAll, Act.put, List.setIfInBounds_toArray, List.set_cons_zero, List.set_cons_succ]; done) | (simp only [putAll, Act.put, List.setIfInBounds_toArray, List.set_cons_zero, List.set_cons_succ]; rfl)) (hJ3_5_6_10_11 (Rq10, Rq11, #[.int .i64 x3.f0, .int .i64 x3.f1, .string x3.f2, .slice B3z x3.f3.length d3z, .slice B4z x3.f4.length d4z, .slice B5z x3.f5.length d5z, .int .i64 0], ()) _ (SPR.prm hz (.cons _ (.cons _ (.swap _ _ _)))))
            · skip
              rintro ⟨Rq10, c6, _⟩ w' hF
              change SPR w [(R, rc x1 B3x d3x B4x d4x B5x d5x, 30), (S, rc x2 B3y d3y B4y d4y B5y d5y, 30), (Rq10, z7, 30)] [(x1, rc x1 B3x d3x B4x d4x B5x d5x), (x2, rc x2 B3y d3y B4y d4y B5y d5y), (x3, c6)] w' at hF
              obtain ⟨B3z, d3z, B4z, d4z, B5z, d5z, rfl⟩ := hF.cells 2 rfl
              have hFb : SPR w [(R, rc x1 B3x d3x B4x d4x B5x d5x, 30), (S, rc x2 B3y d3y B4y d4y B5y d5y, 30)] [(x1, rc x1 B3x d3x B4x d4x B5x d5x), (x2, rc x2 B3y d3y B4y d4y B5y d5y)] w' := SPR.tk 2 2 hF
              have hHeld : w'.cell? ⟨R, 0, none⟩ = some (.int .i64 x1.f0) ∧ w'.cell? ⟨R, 1, none⟩ = some (.int .i64 x1.f1) ∧ w'.cell? ⟨R, 2, none⟩ = some (.string x1.f2) ∧ w'.cell? ⟨R, 3, none⟩ = some (.slice B3x x1.f3.length d3x) ∧ w'.cell? ⟨R, 4, none⟩ = some (.slice B4x x1.f4.length d4x) ∧ w'.cell? ⟨R, 5, none⟩ = some (.slice B5x x1.f5.length d5x) ∧ w'.cell? ⟨R, 6, none⟩ = some (.int .i64 0) ∧ w'.cell? ⟨S, 0, none⟩ = some (.int .i64 x2.f0) ∧ w'.cell? ⟨S, 1, none⟩ = some (.int .i64 x2.f1) ∧ w'.cell? ⟨S, 2, none⟩ = some (.string x2.f2) ∧ w'.cell? ⟨S, 3, none⟩ = some (.slice B3y x2.f3.length d3y) ∧ w'.cell? ⟨S, 4, none⟩ = some (.slice B4y x2.f4.length d4y) ∧ w'.cell? ⟨S, 5, none⟩ = some (.slice B5y x2.f5.length d5y) ∧ w'.cell? ⟨S, 6, none⟩ = some (.int .i64 0) ∧ SPR w [(R, rc x1 B3x d3x B4x d4x B5x d5x, 30), (S, rc x2 B3y d3y B4y d4y B5y d5y, 30)] [(x1, rc x1 B3x d3x B4x d4x B5x d5x), (x2, rc x2 B3y d3y B4y d4y B5y d5y)] w' := (HSq _ hFb)
              clear hFb
              refine norm_ (a' := ?_) ?_ ?_
              rotate_left
              · simp only [putAll, Act.put, List.setIfInBounds_toArray, List.set_cons_zero, List.set_cons_succ]
                rfl
              refine two_ (i := 9) (j := 11) (Ni := some 54) (Nj := some 13) #[true, true, true, true, true, true, true, true, true, true, true, false, false, false] #[true, true, true, true, true, true, true, true, true, false, true, true, false, false] rfl rfl rfl rfl (by kernel_rfl) (by decide) (by decide) (fun K hK => ?_) (fun K hK => ?_)
              · skip
                refine goes_ Tryz.func37 (by kernel_rfl) rfl #[.agg #[.int .i64 x2.f0, .int .i64 x2.f1, .string x2.f2, .slice B3y x2.f3.length d3y, .slice B4y x2.f4.length d4y, .slice B5y x2.f5.length d5y]] (by rfl) rfl rfl (by simp only [List.map_toArray, List.map_cons, List.map_nil]; rfl) ?_
                with_reducible refine ((HRB.out _ _ _ (hF) 1 rfl)).mono ?_
                rintro e wz ⟨u9, rfl, hz⟩
                refine ⟨_, rfl, ?_⟩
                have hzb : SPR w [(R, rc x1 B3x d3x B4x d4x B5x d5x, 30), (S, rc x2 B3y d3y B4y d4y B5y d5y, 30)] [(x1, rc x1 B3x d3x B4x d4x B5x d5x), (x2, rc x2 B3y d3y B4y d4y B5y d5y)] wz := SPR.tk 2 2 hz
                refine hK.out _ _ (HSq _ hzb) (fun hHeld => ?_)
                clear hK K
                refine norm_ (a' := ?_) ?_ ?_
                rotate_left
                · show Act.put _ (some 54) _ = _
                  simp only [Act.put, List.setIfInBounds_toArray, List.set_cons_zero, List.set_cons_succ, i64_w, i32_w]
                  rfl
                exact norm_ (by first | (simp only [putAll, Act.put, List.setIfInBounds_toArray, List.set_cons_zero, List.set_cons_succ]; done) | (simp only [putAll, Act.put, List.setIfInBounds_toArray, List.set_cons_zero, List.set_cons_succ]; rfl)) (hJ3_5_6_9_10 (Rq10, #[.int .i64 x3.f0, .int .i64 x3.f1, .string x3.f2, .slice B3z x3.f3.length d3z, .slice B4z x3.f4.length d4z, .slice B5z x3.f5.length d5z, .int .i64 0], u9, ()) _ hz)
              · skip
                refine freshR_ (c := #[.int .i64 0, .int .i64 0, .string ⟨#[]⟩, .slice none 0 0, .slice none 0 0, .slice none 0 0, .int .i64 0]) (t := 30) (hF) (by rfl) rfl ?_ ?_
                · first | (go_simp; done) | (go_simp; rfl)
                intro Rq11 wz hz
                have hzb : SPR w [(R, rc x1 B3x d3x B4x d4x B5x d5x, 30), (S, rc x2 B3y d3y B4y d4y B5y d5y, 30)] [(x1, rc x1 B3x d3x B4x d4x B5x d5x), (x2, rc x2 B3y d3y B4y d4y B5y d5y)] wz := SPR.tk 2 2 hz
                refine hK.out _ _ (HSq _ hzb) (fun hHeld => ?_)
                clear hK K
                refine norm_ (a' := ?_) ?_ ?_
                rotate_left
                · show Act.put _ (some 13) _ = _
                  simp only [Act.put, List.setIfInBounds_toArray, List.set_cons_zero, List.set_cons_succ, i64_w, i32_w]
                  rfl
                exact norm_ (by first | (simp only [putAll, Act.put, List.setIfInBounds_toArray, List.set_cons_zero, List.set_cons_succ]; done) | (simp only [putAll, Act.put, List.setIfInBounds_toArray, List.set_cons_zero, List.set_cons_succ]; rfl)) (hJ3_5_6_10_11 (Rq10, Rq11, #[.int .i64 x3.f0, .int .i64 x3.f1, .string x3.f2, .slice B3z x3.f3.length d3z, .slice B4z x3.f4.length d4z, .slice B5z x3.f5.length d5z, .int .i64 0], ()) _ hz)
          · skip
            rintro ⟨c6, c9, _⟩ w' hF
            change SPR w [(R, rc x1 B3x d3x B4x d4x B5x d5x, 30), (S, rc x2 B3y d3y B4y d4y B5y d5y, 30)] [(x1, rc x1 B3x d3x B4x d4x B5x d5x), (x2, rc x2 B3y d3y B4y d4y B5y d5y), (x3, c6), (x4, c9)] w' at hF
            obtain ⟨B3z, d3z, B4z, d4z, B5z, d5z, rfl⟩ := hF.cells 2 rfl
            obtain ⟨B3t, d3t, B4t, d4t, B5t, d5t, rfl⟩ := hF.cells 3 rfl
            have hFb : SPR w [(R, rc x1 B3x d3x B4x d4x B5x d5x, 30), (S, rc x2 B3y d3y B4y d4y B5y d5y, 30)] [(x1, rc x1 B3x d3x B4x d4x B5x d5x), (x2, rc x2 B3y d3y B4y d4y B5y d5y)] w' := SPR.tk 2 2 hF
            have hHeld : w'.cell? ⟨R, 0, none⟩ = some (.int .i64 x1.f0) ∧ w'.cell? ⟨R, 1, none⟩ = some (.int .i64 x1.f1) ∧ w'.cell? ⟨R, 2, none⟩ = some (.string x1.f2) ∧ w'.cell? ⟨R, 3, none⟩ = some (.slice B3x x1.f3.length d3x) ∧ w'.cell? ⟨R, 4, none⟩ = some (.slice B4x x1.f4.length d4x) ∧ w'.cell? ⟨R, 5, none⟩ = some (.slice B5x x1.f5.length d5x) ∧ w'.cell? ⟨R, 6, none⟩ = some (.int .i64 0) ∧ w'.cell? ⟨S, 0, none⟩ = some (.int .i64 x2.f0) ∧ w'.cell? ⟨S, 1, none⟩ = some (.int .i64 x2.f1) ∧ w'.cell? ⟨S, 2, none⟩ = some (.string x2.f2) ∧ w'.cell? ⟨S, 3, none⟩ = some (.slice B3y x2.f3.length d3y) ∧ w'.cell? ⟨S, 4, none⟩ = some (.slice B4y x2.f4.length d4y) ∧ w'.cell? ⟨S, 5, none⟩ = some (.slice B5y x2.f5.length d5y) ∧ w'.cell? ⟨S, 6, none⟩ = some (.int .i64 0) ∧ SPR w [(R, rc x1 B3x d3x B4x d4x B5x d5x, 30), (S, rc x2 B3y d3y B4y d4y B5y d5y, 30)] [(x1, rc x1 B3x d3x B4x d4x B5x d5x), (x2, rc x2 B3y d3y B4y d4y B5y d5y)] w' := (HSq _ hFb)
            clear hFb
            refine norm_ (a' := ?_) ?_ ?_
            rotate_left
            · simp only [putAll, Act.put, List.setIfInBounds_toArray, List.set_cons_zero, List.set_cons_succ]
              rfl
            refine two_ (i := 10) (j := 11) (Ni := some 12) (Nj := some 13) #[true, true, true, true, true, true, true, true, true, true, true, false, false, false] #[true, true, true, true, true, true, true, true, true, true, false, true, false, false] rfl rfl rfl rfl (by kernel_rfl) (by decide) (by decide) (fun K hK => ?_) (fun K hK => ?_)
            · skip
              refine freshR_ (c := #[.int .i64 0, .int .i64 0, .string ⟨#[]⟩, .slice none 0 0, .slice none 0 0, .slice none 0 0, .int .i64 0]) (t := 30) (hF) (by rfl) rfl ?_ ?_
              · first | (go_simp; done) | (go_simp; rfl)
              intro Rq10 wz hz
              have hzb : SPR w [(R, rc x1 B3x d3x B4x d4x B5x d5x, 30), (S, rc x2 B3y d3y B4y d4y B5y d5y, 30)] [(x1, rc x1 B3x d3x B4x d4x B5x d5x), (x2, rc x2 B3y d3y B4y d4y B5y d5y)] wz := SPR.tk 2 2 hz
              refine hK.out _ _ (HSq _ hzb) (fun hHeld => ?_)
              clear hK K
              refine norm_ (a' := ?_) ?_ ?_
              rotate_left
              · show Act.put _ (some 12) _ = _
                simp only [Act.put, List.setIfInBounds_toArray, List.set_cons_zero, List.set_cons_succ, i64_w, i32_w]
                rfl
              exact norm_ (by first | (simp only [putAll, Act.put, List.setIfInBounds_toArray, List.set_cons_zero, List.set_cons_succ]; done) | (simp only [putAll, Act.put, List.setIfInBounds_toArray, List.set_cons_zero, List.set_cons_succ]; rfl)) (hJ3_5_6_9_10 (Rq10, #[.int .i64 x3.f0, .int .i64 x3.f1, .string x3.f2, .slice B3z x3.f3.length d3z, .slice B4z x3.f4.length d4z, .slice B5z x3.f5.length d5z, .int .i64 0], #[.int .i64 x4.f0, .int .i64 x4.f1, .string x4.f2, .slice B3t x4.f3.length d3t, .slice B4t x4.f4.length d4t, .slice B5t x4.f5.length d5t, .int .i64 0], ()) _ hz)
            · skip
              refine freshR_ (c := #[.int .i64 0, .int .i64 0, .string ⟨#[]⟩, .slice none 0 0, .slice none 0 0, .slice none 0 0, .int .i64 0]) (t := 30) (hF) (by rfl) rfl ?_ ?_
              · first | (go_simp; done) | (go_simp; rfl)
              intro Rq11 wz hz
              have hzb : SPR w [(R, rc x1 B3x d3x B4x d4x B5x d5x, 30), (S, rc x2 B3y d3y B4y d4y B5y d5y, 30)] [(x1, rc x1 B3x d3x B4x d4x B5x d5x), (x2, rc x2 B3y d3y B4y d4y B5y d5y)] wz := SPR.tk 2 2 hz
              refine hK.out _ _ (HSq _ hzb) (fun hHeld => ?_)
              clear hK K
              refine norm_ (a' := ?_) ?_ ?_
              rotate_left
              · show Act.put _ (some 13) _ = _
                simp only [Act.put, List.setIfInBounds_toArray, List.set_cons_zero, List.set_cons_succ, i64_w, i32_w]
                rfl
              exact norm_ (by first | (simp only [putAll, Act.put, List.setIfInBounds_toArray, List.set_cons_zero, List.set_cons_succ]; done) | (simp only [putAll, Act.put, List.setIfInBounds_toArray, List.set_cons_zero, List.set_cons_succ]; rfl)) (hJ3_5_6_9_11 (Rq11, #[.int .i64 x3.f0, .int .i64 x3.f1, .string x3.f2, .slice B3z x3.f3.length d3z, .slice B4z x3.f4.length d4z, .slice B5z x3.f5.length d5z, .int .i64 0], #[.int .i64 x4.f0, .int .i64 x4.f1, .string x4.f2, .slice B3t x4.f3.length d3t, .slice B4t x4.f4.length d4t, .slice B5t x4.f5.length d5t, .int .i64 0], ()) _ hz)
        · skip
          rintro ⟨Rq10, Rq11, c6, _⟩ w' hF
          change SPR w [(R, rc x1 B3x d3x B4x d4x B5x d5x, 30), (S, rc x2 B3y d3y B4y d4y B5y d5y, 30), (Rq10, z7, 30), (Rq11, z7, 30)] [(x1, rc x1 B3x d3x B4x d4x B5x d5x), (x2, rc x2 B3y d3y B4y d4y B5y d5y), (x3, c6)] w' at hF
          obtain ⟨B3z, d3z, B4z, d4z, B5z, d5z, rfl⟩ := hF.cells 2 rfl
          have hFb : SPR w [(R, rc x1 B3x d3x B4x d4x B5x d5x, 30), (S, rc x2 B3y d3y B4y d4y B5y d5y, 30)] [(x1, rc x1 B3x d3x B4x d4x B5x d5x), (x2, rc x2 B3y d3y B4y d4y B5y d5y)] w' := SPR.tk 2 2 hF
          have hHeld : w'.cell? ⟨R, 0, none⟩ = some (.int .i64 x1.f0) ∧ w'.cell? ⟨R, 1, none⟩ = some (.int .i64 x1.f1) ∧ w'.cell? ⟨R, 2, none⟩ = some (.string x1.f2) ∧ w'.cell? ⟨R, 3, none⟩ = some (.slice B3x x1.f3.length d3x) ∧ w'.cell? ⟨R, 4, none⟩ = some (.slice B4x x1.f4.length d4x) ∧ w'.cell? ⟨R, 5, none⟩ = some (.slice B5x x1.f5.length d5x) ∧ w'.cell? ⟨R, 6, none⟩ = some (.int .i64 0) ∧ w'.cell? ⟨S, 0, none⟩ = some (.int .i64 x2.f0) ∧ w'.cell? ⟨S, 1, none⟩ = some (.int .i64 x2.f1) ∧ w'.cell? ⟨S, 2, none⟩ = some (.string x2.f2) ∧ w'.cell? ⟨S, 3, none⟩ = some (.slice B3y x2.f3.length d3y) ∧ w'.cell? ⟨S, 4, none⟩ = some (.slice B4y x2.f4.length d4y) ∧ w'.cell? ⟨S, 5, none⟩ = some (.slice B5y x2.f5.length d5y) ∧ w'.cell? ⟨S, 6, none⟩ = some (.int .i64 0) ∧ SPR w [(R, rc x1 B3x d3x B4x d4x B5x d5x, 30), (S, rc x2 B3y d3y B4y d4y B5y d5y, 30)] [(x1, rc x1 B3x d3x B4x d4x B5x d5x), (x2, rc x2 B3y d3y B4y d4y B5y d5y)] w' := (HSq _ hFb)
          clear hFb
          refine norm_ (a' := ?_) ?_ ?_
          rotate_left
          · simp only [putAll, Act.put, List.setIfInBounds_toArray, List.set_cons_zero, List.set_cons_succ]
            rfl
          refine one_ (i := 9) (N := some 54) #[true, true, true, true, true, true, true, true, true, true, true, true, false, false] rfl rfl (by kernel_rfl) (by decide) (fun K hK => ?_)
          refine goes_ Tryz.func37 (by kernel_rfl) rfl #[.agg #[.int .i64 x2.f0, .int .i64 x2.f1, .string x2.f2, .slice B3y x2.f3.length d3y, .slice B4y x2.f4.length d4y, .slice B5y x2.f5.length d5y]] (by rfl) rfl rfl (by simp only [List.map_toArray, List.map_cons, List.map_nil]; rfl) ?_
          with_reducible refine ((HRB.out _ _ _ (hF) 1 rfl)).mono ?_
          rintro e wz ⟨u9, rfl, hz⟩
          refine ⟨_, rfl, ?_⟩
          have hzb : SPR w [(R, rc x1 B3x d3x B4x d4x B5x d5x, 30), (S, rc x2 B3y d3y B4y d4y B5y d5y, 30)] [(x1, rc x1 B3x d3x B4x d4x B5x d5x), (x2, rc x2 B3y d3y B4y d4y B5y d5y)] wz := SPR.tk 2 2 hz
          refine hK.out _ _ (HSq _ hzb) (fun hHeld => ?_)
          clear hK K
          refine norm_ (a' := ?_) ?_ ?_
          rotate_left
          · show Act.put _ (some 54) _ = _
            simp only [Act.put, List.setIfInBounds_toArray, List.set_cons_zero, List.set_cons_succ, i64_w, i32_w]
            rfl
          exact norm_ (by first | (simp only [putAll, Act.put, List.setIfInBounds_toArray, List.set_cons_zero, List.set_cons_succ]; done) | (simp only [putAll, Act.put, List.setIfInBounds_toArray, List.set_cons_zero, List.set_cons_succ]; rfl)) (hJ3_5_6_9_10_11 (Rq10, Rq11, #[.int .i64 x3.f0, .int .i64 x3.f1, .string x3.f2, .slice B3z x3.f3.length d3z, .slice B4z x3.f4.length d4z, .slice B5z x3.f5.length d5z, .int .i64 0], u9, ()) _ hz)
      · skip
        rintro ⟨Rq11, c6, c9, _⟩ w' hF
        change SPR w [(R, rc x1 B3x d3x B4x d4x B5x d5x, 30), (S, rc x2 B3y d3y B4y d4y B5y d5y, 30), (Rq11, z7, 30)] [(x1, rc x1 B3x d3x B4x d4x B5x d5x), (x2, rc x2 B3y d3y B4y d4y B5y d5y), (x3, c6), (x4, c9)] w' at hF
        obtain ⟨B3z, d3z, B4z, d4z, B5z, d5z, rfl⟩ := hF.cells 2 rfl
        obtain ⟨B3t, d3t, B4t, d4t, B5t, d5t, rfl⟩ := hF.cells 3 rfl
        have hFb : SPR w [(R, rc x1 B3x d3x B4x d4x B5x d5x, 30), (S, rc x2 B3y d3y B4y d4y B5y d5y, 30)] [(x1, rc x1 B3x d3x B4x d4x B5x d5x), (x2, rc x2 B3y d3y B4y d4y B5y d5y)] w' := SPR.tk 2 2 hF
        have hHeld : w'.cell? ⟨R, 0, none⟩ = some (.int .i64 x1.f0) ∧ w'.cell? ⟨R, 1, none⟩ = some (.int .i64 x1.f1) ∧ w'.cell? ⟨R, 2, none⟩ = some (.string x1.f2) ∧ w'.cell? ⟨R, 3, none⟩ = some (.slice B3x x1.f3.length d3x) ∧ w'.cell? ⟨R, 4, none⟩ = some (.slice B4x x1.f4.length d4x) ∧ w'.cell? ⟨R, 5, none⟩ = some (.slice B5x x1.f5.length d5x) ∧ w'.cell? ⟨R, 6, none⟩ = some (.int .i64 0) ∧ w'.cell? ⟨S, 0, none⟩ = some (.int .i64 x2.f0) ∧ w'.cell? ⟨S, 1, none⟩ = some (.int .i64 x2.f1) ∧ w'.cell? ⟨S, 2, none⟩ = some (.string x2.f2) ∧ w'.cell? ⟨S, 3, none⟩ = some (.slice B3y x2.f3.length d3y) ∧ w'.cell? ⟨S, 4, none⟩ = some (.slice B4y x2.f4.length d4y) ∧ w'.cell? ⟨S, 5, none⟩ = some (.slice B5y x2.f5.length d5y) ∧ w'.cell? ⟨S, 6, none⟩ = some (.int .i64 0) ∧ SPR w [(R, rc x1 B3x d3x B4x d4x B5x d5x, 30), (S, rc x2 B3y d3y B4y d4y B5y d5y, 30)] [(x1, rc x1 B3x d3x B4x d4x B5x d5x), (x2, rc x2 B3y d3y B4y d4y B5y d5y)] w' := (HSq _ hFb)
        clear hFb
        refine norm_ (a' := ?_) ?_ ?_
        rotate_left
        · simp only [putAll, Act.put, List.setIfInBounds_toArray, List.set_cons_zero, List.set_cons_succ]
          rfl
        refine one_ (i := 10) (N := some 12) #[true, true, true, true, true, true, true, true, true, true, true, true, false, false] rfl rfl (by kernel_rfl) (by decide) (fun K hK => ?_)
        refine freshR_ (c := #[.int .i64 0, .int .i64 0, .string ⟨#[]⟩, .slice none 0 0, .slice none 0 0, .slice none 0 0, .int .i64 0]) (t := 30) (hF) (by rfl) rfl ?_ ?_
        · first | (go_simp; done) | (go_simp; rfl)
        intro Rq10 wz hz
        have hzb : SPR w [(R, rc x1 B3x d3x B4x d4x B5x d5x, 30), (S, rc x2 B3y d3y B4y d4y B5y d5y, 30)] [(x1, rc x1 B3x d3x B4x d4x B5x d5x), (x2, rc x2 B3y d3y B4y d4y B5y d5y)] wz := SPR.tk 2 2 hz
        refine hK.out _ _ (HSq _ hzb) (fun hHeld => ?_)
        clear hK K
        refine norm_ (a' := ?_) ?_ ?_
        rotate_left
        · show Act.put _ (some 12) _ = _
          simp only [Act.put, List.setIfInBounds_toArray, List.set_cons_zero, List.set_cons_succ, i64_w, i32_w]
          rfl
        exact norm_ (by first | (simp only [putAll, Act.put, List.setIfInBounds_toArray, List.set_cons_zero, List.set_cons_succ]; done) | (simp only [putAll, Act.put, List.setIfInBounds_toArray, List.set_cons_zero, List.set_cons_succ]; rfl)) (hJ3_5_6_9_10_11 (Rq10, Rq11, #[.int .i64 x3.f0, .int .i64 x3.f1, .string x3.f2, .slice B3z x3.f3.length d3z, .slice B4z x3.f4.length d4z, .slice B5z x3.f5.length d5z, .int .i64 0], #[.int .i64 x4.f0, .int .i64 x4.f1, .string x4.f2, .slice B3t x4.f3.length d3t, .slice B4t x4.f4.length d4t, .slice B5t x4.f5.length d5t, .int .i64 0], ()) _ (SPR.prm hz (.cons _ (.cons _ (.swap _ _ _)))))
    · skip
      rintro ⟨Rq10, c6, c9, _⟩ w' hF
      change SPR w [(R, rc x1 B3x d3x B4x d4x B5x d5x, 30), (S, rc x2 B3y d3y B4y d4y B5y d5y, 30), (Rq10, z7, 30)] [(x1, rc x1 B3x d3x B4x d4x B5x d5x), (x2, rc x2 B3y d3y B4y d4y B5y d5y), (x3, c6), (x4, c9)] w' at hF
      obtain ⟨B3z, d3z, B4z, d4z, B5z, d5z, rfl⟩ := hF.cells 2 rfl
      obtain ⟨B3t, d3t, B4t, d4t, B5t, d5t, rfl⟩ := hF.cells 3 rfl
      have hFb : SPR w [(R, rc x1 B3x d3x B4x d4x B5x d5x, 30), (S, rc x2 B3y d3y B4y d4y B5y d5y, 30)] [(x1, rc x1 B3x d3x B4x d4x B5x d5x), (x2, rc x2 B3y d3y B4y d4y B5y d5y)] w' := SPR.tk 2 2 hF
      have hHeld : w'.cell? ⟨R, 0, none⟩ = some (.int .i64 x1.f0) ∧ w'.cell? ⟨R, 1, none⟩ = some (.int .i64 x1.f1) ∧ w'.cell? ⟨R, 2, none⟩ = some (.string x1.f2) ∧ w'.cell? ⟨R, 3, none⟩ = some (.slice B3x x1.f3.length d3x) ∧ w'.cell? ⟨R, 4, none⟩ = some (.slice B4x x1.f4.length d4x) ∧ w'.cell? ⟨R, 5, none⟩ = some (.slice B5x x1.f5.length d5x) ∧ w'.cell? ⟨R, 6, none⟩ = some (.int .i64 0) ∧ w'.cell? ⟨S, 0, none⟩ = some (.int .i64 x2.f0) ∧ w'.cell? ⟨S, 1, none⟩ = some (.int .i64 x2.f1) ∧ w'.cell? ⟨S, 2, none⟩ = some (.string x2.f2) ∧ w'.cell? ⟨S, 3, none⟩ = some (.slice B3y x2.f3.length d3y) ∧ w'.cell? ⟨S, 4, none⟩ = some (.slice B4y x2.f4.length d4y) ∧ w'.cell? ⟨S, 5, none⟩ = some (.slice B5y x2.f5.length d5y) ∧ w'.cell? ⟨S, 6, none⟩ = some (.int .i64 0) ∧ SPR w [(R, rc x1 B3x d3x B4x d4x B5x d5x, 30), (S, rc x2 B3y d3y B4y d4y B5y d5y, 30)] [(x1, rc x1 B3x d3x B4x d4x B5x d5x), (x2, rc x2 B3y d3y B4y d4y B5y d5y)] w' := (HSq _ hFb)
      clear hFb
      refine norm_ (a' := ?_) ?_ ?_
      rotate_left
      · simp only [putAll, Act.put, List.setIfInBounds_toArray, List.set_cons_zero, List.set_cons_succ]
        rfl
      refine one_ (i := 11) (N := some 13) #[true, true, true, true, true, true, true, true, true, true, true, true, false, false] rfl rfl (by kernel_rfl) (by decide) (fun K hK => ?_)
      refine freshR_ (c := #[.int .i64 0, .int .i64 0, .string ⟨#[]⟩, .slice none 0 0, .slice none 0 0, .slice none 0 0, .int .i64 0]) (t := 30) (hF) (by rfl) rfl ?_ ?_
      · first | (go_simp; done) | (go_simp; rfl)
      intro Rq11 wz hz
      have hzb : SPR w [(R, rc x1 B3x d3x B4x d4x B5x d5x, 30), (S, rc x2 B3y d3y B4y d4y B5y d5y, 30)] [(x1, rc x1 B3x d3x B4x d4x B5x d5x), (x2, rc x2 B3y d3y B4y d4y B5y d5y)] wz := SPR.tk 2 2 hz
      refine hK.out _ _ (HSq _ hzb) (fun hHeld => ?_)
      clear hK K
      refine norm_ (a' := ?_) ?_ ?_
      rotate_left
      · show Act.put _ (some 13) _ = _
        simp only [Act.put, List.setIfInBounds_toArray, List.set_cons_zero, List.set_cons_succ, i64_w, i32_w]
        rfl
      exact norm_ (by first | (simp only [putAll, Act.put, List.setIfInBounds_toArray, List.set_cons_zero, List.set_cons_succ]; done) | (simp only [putAll, Act.put, List.setIfInBounds_toArray, List.set_cons_zero, List.set_cons_succ]; rfl)) (hJ3_5_6_9_10_11 (Rq10, Rq11, #[.int .i64 x3.f0, .int .i64 x3.f1, .string x3.f2, .slice B3z x3.f3.length d3z, .slice B4z x3.f4.length d4z, .slice B5z x3.f5.length d5z, .int .i64 0], #[.int .i64 x4.f0, .int .i64 x4.f1, .string x4.f2, .slice B3t x4.f3.length d3t, .slice B4t x4.f4.length d4t, .slice B5t x4.f5.length d5t, .int .i64 0], ()) _ hz)
  rintro ⟨Rq10, Rq11, c6, c9, _⟩ w' hF
  change SPR w [(R, rc x1 B3x d3x B4x d4x B5x d5x, 30), (S, rc x2 B3y d3y B4y d4y B5y d5y, 30), (Rq10, z7, 30), (Rq11, z7, 30)] [(x1, rc x1 B3x d3x B4x d4x B5x d5x), (x2, rc x2 B3y d3y B4y d4y B5y d5y), (x3, c6), (x4, c9)] w' at hF
  obtain ⟨B3z, d3z, B4z, d4z, B5z, d5z, rfl⟩ := hF.cells 2 rfl
  obtain ⟨B3t, d3t, B4t, d4t, B5t, d5t, rfl⟩ := hF.cells 3 rfl
  have hFb : SPR w [(R, rc x1 B3x d3x B4x d4x B5x d5x, 30), (S, rc x2 B3y d3y B4y d4y B5y d5y, 30)] [(x1, rc x1 B3x d3x B4x d4x B5x d5x), (x2, rc x2 B3y d3y B4y d4y B5y d5y)] w' := SPR.tk 2 2 hF
  have hHeld : w'.cell? ⟨R, 0, none⟩ = some (.int .i64 x1.f0) ∧ w'.cell? ⟨R, 1, none⟩ = some (.int .i64 x1.f1) ∧ w'.cell? ⟨R, 2, none⟩ = some (.string x1.f2) ∧ w'.cell? ⟨R, 3, none⟩ = some (.slice B3x x1.f3.length d3x) ∧ w'.cell? ⟨R, 4, none⟩ = some (.slice B4x x1.f4.length d4x) ∧ w'.cell? ⟨R, 5, none⟩ = some (.slice B5x x1.f5.length d5x) ∧ w'.cell? ⟨R, 6, none⟩ = some (.int .i64 0) ∧ w'.cell? ⟨S, 0, none⟩ = some (.int .i64 x2.f0) ∧ w'.cell? ⟨S, 1, none⟩ = some (.int .i64 x2.f1) ∧ w'.cell? ⟨S, 2, none⟩ = some (.string x2.f2) ∧ w'.cell? ⟨S, 3, none⟩ = some (.slice B3y x2.f3.length d3y) ∧ w'.cell? ⟨S, 4, none⟩ = some (.slice B4y x2.f4.length d4y) ∧ w'.cell? ⟨S, 5, none⟩ = some (.slice B5y x2.f5.length d5y) ∧ w'.cell? ⟨S, 6, none⟩ = some (.int .i64 0) ∧ SPR w [(R, rc x1 B3x d3x B4x d4x B5x d5x, 30), (S, rc x2 B3y d3y B4y d4y B5y d5y, 30)] [(x1, rc x1 B3x d3x B4x d4x B5x d5x), (x2, rc x2 B3y d3y B4y d4y B5y d5y)] w' := (HSq _ hFb)
  clear hFb
  refine norm_ (a' := ?_) ?_ ?_
  rotate_left
  · simp only [putAll, Act.put, List.setIfInBounds_toArray, List.set_cons_zero, List.set_cons_succ]
    rfl
  refine one_ (i := 12) (N := none) #[true, true, true, true, true, true, true, true, true, true, true, true, true, false] rfl rfl (by kernel_rfl) (by decide) (fun K hK => ?_)
  obtain ⟨y0, y1, y2, y3, y4, y5, y6, f0, f1, f2, f3, f4, f5, f6⟩ := sev_cells (SPR.get hF 2 rfl)
  refine put7R_ (v0 := .int .i64 x3.f0) (v1 := .int .i64 x3.f1) (v2 := .string x3.f2) (v3 := .slice B3z x3.f3.length d3z) (v4 := .slice B4z x3.f4.length d4z) (v5 := .slice B5z x3.f5.length d5z) (v6 := .int .i64 0) hF 2 rfl (by rfl) rfl ?_ ?_
  · first | (go_simp; done) | (go_simp; rfl)
  clear y0 y1 y2 y3 y4 y5 y6 f0 f1 f2 f3 f4 f5 f6
  intro wsq0 hsq0
  change SPR w [(R, rc x1 B3x d3x B4x d4x B5x d5x, 30), (S, rc x2 B3y d3y B4y d4y B5y d5y, 30), (Rq10, rc x3 B3z d3z B4z d4z B5z d5z, 30), (Rq11, z7, 30)] [(x1, rc x1 B3x d3x B4x d4x B5x d5x), (x2, rc x2 B3y d3y B4y d4y B5y d5y), (x3, rc x3 B3z d3z B4z d4z B5z d5z), (x4, rc x4 B3t d3t B4t d4t B5t d5t)] wsq0 at hsq0
  have hzb : SPR w [(R, rc x1 B3x d3x B4x d4x B5x d5x, 30), (S, rc x2 B3y d3y B4y d4y B5y d5y, 30)] [(x1, rc x1 B3x d3x B4x d4x B5x d5x), (x2, rc x2 B3y d3y B4y d4y B5y d5y)] wsq0 := SPR.tk 2 2 hsq0
  refine hK.out _ _ (HSq _ hzb) (fun hHeld => ?_)
  clear hK K
  refine one_ (i := 13) (N := none) #[true, true, true, true, true, true, true, true, true, true, true, true, true, true] rfl rfl (by kernel_rfl) (by decide) (fun K hK => ?_)
  obtain ⟨y0, y1, y2, y3, y4, y5, y6, f0, f1, f2, f3, f4, f5, f6⟩ := sev_cells (SPR.get hsq0 3 rfl)
  refine put7R_ (v0 := .int .i64 x4.f0) (v1 := .int .i64 x4.f1) (v2 := .string x4.f2) (v3 := .slice B3t x4.f3.length d3t) (v4 := .slice B4t x4.f4.length d4t) (v5 := .slice B5t x4.f5.length d5t) (v6 := .int .i64 0) hsq0 3 rfl (by rfl) rfl ?_ ?_
  · first | (go_simp; done) | (go_simp; rfl)
  clear y0 y1 y2 y3 y4 y5 y6 f0 f1 f2 f3 f4 f5 f6
  intro wsq1 hsq1
  change SPR w [(R, rc x1 B3x d3x B4x d4x B5x d5x, 30), (S, rc x2 B3y d3y B4y d4y B5y d5y, 30), (Rq10, rc x3 B3z d3z B4z d4z B5z d5z, 30), (Rq11, rc x4 B3t d3t B4t d4t B5t d5t, 30)] [(x1, rc x1 B3x d3x B4x d4x B5x d5x), (x2, rc x2 B3y d3y B4y d4y B5y d5y), (x3, rc x3 B3z d3z B4z d4z B5z d5z), (x4, rc x4 B3t d3t B4t d4t B5t d5t)] wsq1 at hsq1
  have hzb : SPR w [(R, rc x1 B3x d3x B4x d4x B5x d5x, 30), (S, rc x2 B3y d3y B4y d4y B5y d5y, 30)] [(x1, rc x1 B3x d3x B4x d4x B5x d5x), (x2, rc x2 B3y d3y B4y d4y B5y d5y)] wsq1 := SPR.tk 2 2 hsq1
  refine hK.out _ _ (HSq _ hzb) (fun hHeld => ?_)
  clear hK K
  refine done_ (by kernel_rfl) ?_
  have HQ := Lib.hid hsq1
  clear hsq0 hsq1 hF hHeld
  have HG : Hid (∀ w1, SPR w [(R, rc x1 B3x d3x B4x d4x B5x d5x, 30), (S, rc x2 B3y d3y B4y d4y B5y d5y, 30), (Rq10, rc x3 B3z d3z B4z d4z B5z d5z, 30), (Rq11, rc x4 B3t d3t B4t d4t B5t d5t, 30)] [(x1, rc x1 B3x d3x B4x d4x B5x d5x), (x2, rc x2 B3y d3y B4y d4y B5y d5y), (x3, rc x3 B3z d3z B4z d4z B5z d5z), (x4, rc x4 B3t d3t B4t d4t B5t d5t)] w1 → Calls Tryz.prog 19 #[.agg #[.int .i64 x3.f0, .int .i64 x3.f1, .string x3.f2, .slice B3z x3.f3.length d3z, .slice B4z x3.f4.length d4z, .slice B5z x3.f5.length d5z, .int .i64 0], .agg #[.int .i64 x4.f0, .int .i64 x4.f1, .string x4.f2, .slice B3t x4.f3.length d3t, .slice B4t x4.f4.length d4t, .slice B5t x4.f5.length d5t]] w1 fun e w' => e = .returned (.bool true) ∧ Below w1.heap.size w1 w') := Lib.hid (by
    intro w1 h
    have h1 := given_any w1 x3 x4 HX3.out.1 (by rw [← HX34.out]; exact HX3.out.1) (h.held 2 rfl) (h.held 3 rfl) w1 (Below.refl _ _)
    simp only [vl, rv] at h1
    rw [show (cmpV x3 x4 == 0) = true by rw [HX34.out, cmpV_self]; rfl] at h1
    exact h1)
  have yr := sev_cells (HQ.out.get 0 rfl)
  have ys := sev_cells (HQ.out.get 1 rfl)
  have ya := sev_cells (HQ.out.get 2 rfl)
  have yb := sev_cells (HQ.out.get 3 rfl)
  go_wp2_with fail
  refine (HG.out _ HQ.out).mono ?_
  rintro e w30 ⟨rfl, hb⟩
  have HQ2 := Lib.hid (HQ.out.below hb)
  clear hb HQ yr ys ya yb
  have ya := sev_cells (HQ2.out.get 2 rfl)
  have yb := sev_cells (HQ2.out.get 3 rfl)
  go_wp2_with fail
  go_ret
  exact ⟨rfl, HQ2.out.bel⟩
end Go.Proofs.YtdaiodiafahkkaaGreatDoor.ValA
