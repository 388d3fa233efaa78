/-
FnSliceIndex: an element of the rest of an array.
-/
import Derived.Test.YtdaiodiafahkkaaGreatDoorMK
set_option linter.unusedSimpArgs false
set_option linter.unusedVariables false
namespace Go.Proofs.YtdaiodiafahkkaaGreatDoor.ValA
open Go.RowKit Go.Lib Go.Proofs.YtdaiodiafahkkaaGreatDoorW.PrintWords Go.Proofs.YtdaiodiafahkkaaGreatDoorW.PrintLast Go.Proofs.YtdaiodiafahkkaaGreatDoorW.PrintMore Go.Proofs.YtdaiodiafahkkaaGreatDoor.PzzFits1 Go.Proofs.YtdaiodiafahkkaaGreatDoor.NumA
attribute [local go_sem] run_val
set_option maxRecDepth 100000 in
set_option maxHeartbeats 20000000 in
theorem fnSliceIndex_any (w0 : World) (hE : Env w0) (A : Option Addr) (l : List V) (c : Nat) (hlc : l.length ≤ c) (hC : Kd.C k26 w0 A l.length l) (hz : ∀ y ∈ l, Sz y) (n1 : Int) (zn1 : (Lit.int .u8 n1).wf = true) (n2 : Int) (zn2 : (Lit.int .u8 n2).wf = true) :
    Calls Tryz.prog 13 #[.slice A l.length c, .int .u8 n1, .int .u8 n2] w0 fun e w' => e = .returned (.bool true) ∧ Below w0.heap.size w0 w' := by
  obtain ⟨w, hw⟩ : ∃ w, w = w0 := ⟨_, rfl⟩
  have hK := list_K hlc hC
  have hzl : Sz (lV l) := sz_lV hz
  have bn1 := u8_in zn1
  have bn2 := u8_in zn2
  clear zn1 zn2
  have HZ := Lib.hid hzl
  have HF := Lib.hid (fun w1 hb => fits_new w0 hE hzl hK w1 hb)
  have HT := Lib.hid (fun h => toGo_any w0 _ (lV l) (Nat.lt_succ_self _) hzl h _ hK)
  have HAR := Lib.hid (fun A n c w => array_any A n c w)
  have HNU := Lib.hid (fun n w => number_any n w)
  clear hE hlc hC hz hK hzl
  subst hw
  by_cases c0 : (l.length : Int) > 2147483647
  · have d0 : decide ((l.length : Int) > 2147483647) = true := decide_eq_true c0
    clear c0
    go_enter Tryz.func13, Tryz.ntmps13
    go_wp2_with fail
    go_ret
    exact ⟨rfl, Below.refl _ _⟩
  have d0 : decide ((l.length : Int) > 2147483647) = false := decide_eq_false c0
  clear c0
  go_enter Tryz.func13, Tryz.ntmps13
  go_wp2_with fail
  refine (HAR.out _ _ _ _).mono ?_
  rintro e w1 ⟨rfl, hb⟩
  have H1 := Lib.hid hb
  clear hb
  go_wp2_with fail
  refine (HF.out w1 H1.out).mono ?_
  rintro e w2 ⟨r, rfl, hr, hb⟩
  have H2 := Lib.hid ((H1.out.alloc H1.out.size _).trans (hb.mono (Nat.le_trans H1.out.size (by rw [World.size_alloc]; omega))))
  clear hb H1 HF
  cases r with
  | false =>
    go_wp2_with fail
    go_ret
    exact ⟨rfl, H2.out⟩
  | true =>
  have HW := Lib.hid (hr (by trivial))
  clear hr
  have HT := Lib.hid (HT.out (loose HW.out))
  obtain ⟨x1, hx1⟩ : ∃ x1, x1 = lV (sliceL (lV l).f3 (some n1) none) := ⟨_, rfl⟩
  obtain ⟨x2, hx2⟩ : ∃ x2, x2 = ixV (lV l).f3 (n1 + n2) := ⟨_, rfl⟩
  obtain ⟨x3, hx3⟩ : ∃ x3, x3 = ixV x1.f3 n2 := ⟨_, rfl⟩
  have HSL : Hid (∀ L rs w1, SPR w L rs w1 → Calls Tryz.prog 33 #[.agg #[.int .i64 5, .int .i64 0, .string ⟨#[]⟩, .slice A l.length c, .slice none 0 0, .slice none 0 0], .agg #[.int .i64 3, .int .i64 (2 * n1), .string ⟨#[]⟩, .slice none 0 0, .slice none 0 0, .slice none 0 0], .agg #[.int .i64 0, .int .i64 0, .string ⟨#[]⟩, .slice none 0 0, .slice none 0 0, .slice none 0 0]] w1 fun e w' => ∃ cs, e = .returned (.agg cs) ∧ SPR w L (rs ++ [(x1, cs)]) w') := Lib.hid (by
    intro L rs w1 h
    rw [hx1]
    exact slice_res w HT.out (loose HW.out) HZ.out rfl (some n1) none (tiny_some (by omega) (by omega)) tiny_none h h.bel)
  have HIX : Hid (∀ L rs w1, SPR w L rs w1 → Calls Tryz.prog 38 #[.agg #[.int .i64 5, .int .i64 0, .string ⟨#[]⟩, .slice A l.length c, .slice none 0 0, .slice none 0 0], .agg #[.int .i64 3, .int .i64 (2 * (n1 + n2)), .string ⟨#[]⟩, .slice none 0 0, .slice none 0 0, .slice none 0 0]] w1 fun e w' => ∃ cs, e = .returned (.agg cs) ∧ SPR w L (rs ++ [(x2, cs)]) w') := Lib.hid (by
    intro L rs w1 h
    rw [hx2]
    exact index_res w HT.out (loose HW.out) HZ.out rfl (n1 + n2) (tiny_some (by omega) (by omega)) h h.bel)
  have hn := wf_n3 HW.out
  have hwl := (loose HW.out).h3
  have hzl := sz_h3 HZ.out
  have HX1 : Hid (WL x1 ∧ Sz x1 ∧ x1.f0 = 5) := Lib.hid (by rw [hx1]; exact ⟨wl_lV (by have := hi_in (some n1) none (lV l).f3.length; rw [slice_len]; omega) (fun y hy => hwl y (slice_mem hy)), sz_lV (fun y hy => hzl y (slice_mem hy)), rfl⟩)
  have HX2 : Hid (WL x2 ∧ Sz x2) := Lib.hid (by rw [hx2]; exact ⟨wl_at hwl _, sz_at hzl _⟩)
  have HX3 : Hid (x3 = x2) := Lib.hid (by rw [hx3, hx2, hx1]; exact at_rest (lV l).f3 bn1.1 bn2.1)
  have q5 : (x1.f0 == 5) = true := by rw [HX1.out.2.2]; rfl
  have HIY := Lib.hid (fun L rs w1 (h : SPR w L rs w1) {B3 B4 B5 : Option Addr} {d3 d4 d5 : Nat} (i : Nat) (hi : rs[i]? = some (x1, #[.int .i64 x1.f0, .int .i64 x1.f1, .string x1.f2, .slice B3 x1.f3.length d3, .slice B4 x1.f4.length d4, .slice B5 x1.f5.length d5, .int .i64 0])) => index_res w1 (h.toGo i hi HX1.out.1 HX1.out.2.1) HX1.out.1 HX1.out.2.1 HX1.out.2.2 n2 (tiny_some (by omega) (by omega)) h (Below.refl _ _))
  rw [← hx3] at HIY
  have e0 : wrap64 n1 = n1 := by unfold wrap64; omega
  have e5 : wrap64 n2 = n2 := by unfold wrap64; omega
  have e1 : wrap64 (2 * n1) = 2 * n1 := by unfold wrap64; omega
  have e2 : wrap64 (2 * (n1 + n2)) = 2 * (n1 + n2) := by unfold wrap64; omega
  have e3 : wrap64 (n1 + n2) = n1 + n2 := by unfold wrap64; omega
  have e4 : wrap64 (2 * n2) = 2 * n2 := by unfold wrap64; omega
  clear hx1 hx2 hx3 hwl hzl hn bn1 bn2
  go_wp2_with fail
  refine (HAR.out _ _ _ _).mono ?_
  rintro e w3 ⟨rfl, hb⟩
  have H3 := Lib.hid (H2.out.trans (hb.mono H2.out.size))
  clear hb H2
  go_wp2_with fail
  refine (HNU.out _ _).mono ?_
  rintro e w4 ⟨rfl, hb⟩
  have H4 := Lib.hid (spr0 (H3.out.trans (hb.mono H3.out.size)))
  clear hb H3
  try rw [e1]
  go_wp2_with fail
  refine (HSL.out _ _ _ H4.out).mono ?_
  rintro e w5 ⟨cs, rfl, hS⟩
  obtain ⟨B3x, d3x, B4x, d4x, B5x, d5x, rfl⟩ := hS.cells 0 rfl
  have H5 := Lib.hid hS
  clear hS H4
  go_wp2_with fail
  obtain ⟨R, hR⟩ : ∃ R, R = w5.heap.size := ⟨_, rfl⟩
  obtain ⟨WR, hWR⟩ : ∃ WR, WR = w5.alloc (.cells #[.int .i64 x1.f0, .int .i64 x1.f1, .string x1.f2, .slice B3x x1.f3.length d3x, .slice B4x x1.f4.length d4x, .slice B5x x1.f5.length d5x, .int .i64 0] 30) := ⟨_, rfl⟩
  have hSR : SPR w [(R, #[.int .i64 x1.f0, .int .i64 x1.f1, .string x1.f2, .slice B3x x1.f3.length d3x, .slice B4x x1.f4.length d4x, .slice B5x x1.f5.length d5x, .int .i64 0], 30)] [(x1, #[.int .i64 x1.f0, .int .i64 x1.f1, .string x1.f2, .slice B3x x1.f3.length d3x, .slice B4x x1.f4.length d4x, .slice B5x x1.f5.length d5x, .int .i64 0])] WR := by rw [hR, hWR]; exact H5.out.more _ _
  rw [← hWR, ← hR]
  have HR := Lib.hid hSR
  clear hSR hWR hR H5
  refine (HAR.out _ _ _ _).mono ?_
  rintro e w6 ⟨rfl, hb⟩
  have H6 := Lib.hid (HR.out.below hb)
  clear hb HR
  go_wp2_with fail
  refine (HNU.out _ _).mono ?_
  rintro e w7 ⟨rfl, hb⟩
  have H7 := Lib.hid (H6.out.below hb)
  clear hb H6
  try rw [e3]
  try rw [e2]
  go_wp2_with fail
  refine (HIX.out _ _ _ H7.out).mono ?_
  rintro e w8 ⟨cs, rfl, hS⟩
  obtain ⟨B3y, d3y, B4y, d4y, B5y, d5y, rfl⟩ := hS.cells 1 rfl
  have H8 := Lib.hid hS
  clear hS H7
  go_wp2_with fail
  obtain ⟨X, hX⟩ : ∃ X, X = w8.heap.size := ⟨_, rfl⟩
  obtain ⟨WX, hWX⟩ : ∃ WX, WX = w8.alloc (.cells #[.int .i64 x2.f0, .int .i64 x2.f1, .string x2.f2, .slice B3y x2.f3.length d3y, .slice B4y x2.f4.length d4y, .slice B5y x2.f5.length d5y, .int .i64 0] 30) := ⟨_, rfl⟩
  have hSX : SPR w [(R, #[.int .i64 x1.f0, .int .i64 x1.f1, .string x1.f2, .slice B3x x1.f3.length d3x, .slice B4x x1.f4.length d4x, .slice B5x x1.f5.length d5x, .int .i64 0], 30), (X, #[.int .i64 x2.f0, .int .i64 x2.f1, .string x2.f2, .slice B3y x2.f3.length d3y, .slice B4y x2.f4.length d4y, .slice B5y x2.f5.length d5y, .int .i64 0], 30)] [(x1, #[.int .i64 x1.f0, .int .i64 x1.f1, .string x1.f2, .slice B3x x1.f3.length d3x, .slice B4x x1.f4.length d4x, .slice B5x x1.f5.length d5x, .int .i64 0]), (x2, #[.int .i64 x2.f0, .int .i64 x2.f1, .string x2.f2, .slice B3y x2.f3.length d3y, .slice B4y x2.f4.length d4y, .slice B5y x2.f5.length d5y, .int .i64 0])] WX := by rw [hX, hWX]; exact H8.out.more _ _
  rw [← hWX, ← hX]
  have HX := Lib.hid hSX
  clear hSX hWX hX H8
  have HN2 : Hid (∀ w1, Calls Tryz.prog 34 #[.int .i64 (wrap64 n2)] w1 fun e w' => e = .returned (.agg #[.int .i64 3, .int .i64 (2 * n2), .string ⟨#[]⟩, .slice none 0 0, .slice none 0 0, .slice none 0 0]) ∧ Below w1.heap.size w1 w') := Lib.hid (by
    intro w1
    have h := number_any n2 w1
    rw [e4] at h
    rw [e5]
    exact h)
  have HGV : Hid (∀ w1 {B3 B4 B5 : Option Addr} {d3 d4 d5 : Nat}, SPR w [(R, #[.int .i64 x1.f0, .int .i64 x1.f1, .string x1.f2, .slice B3x x1.f3.length d3x, .slice B4x x1.f4.length d4x, .slice B5x x1.f5.length d5x, .int .i64 0], 30), (X, #[.int .i64 x2.f0, .int .i64 x2.f1, .string x2.f2, .slice B3y x2.f3.length d3y, .slice B4y x2.f4.length d4y, .slice B5y x2.f5.length d5y, .int .i64 0], 30)] ([(x1, #[.int .i64 x1.f0, .int .i64 x1.f1, .string x1.f2, .slice B3x x1.f3.length d3x, .slice B4x x1.f4.length d4x, .slice B5x x1.f5.length d5x, .int .i64 0]), (x2, #[.int .i64 x2.f0, .int .i64 x2.f1, .string x2.f2, .slice B3y x2.f3.length d3y, .slice B4y x2.f4.length d4y, .slice B5y x2.f5.length d5y, .int .i64 0])] ++ [(x3, #[.int .i64 x3.f0, .int .i64 x3.f1, .string x3.f2, .slice B3 x3.f3.length d3, .slice B4 x3.f4.length d4, .slice B5 x3.f5.length d5, .int .i64 0])]) w1 → Calls Tryz.prog 19 #[.agg #[.int .i64 x3.f0, .int .i64 x3.f1, .string x3.f2, .slice B3 x3.f3.length d3, .slice B4 x3.f4.length d4, .slice B5 x3.f5.length d5, .int .i64 0], .agg #[.int .i64 x2.f0, .int .i64 x2.f1, .string x2.f2, .slice B3y x2.f3.length d3y, .slice B4y x2.f4.length d4y, .slice B5y x2.f5.length d5y]] w1 fun e w' => e = .returned (.bool true) ∧ Below w1.heap.size w1 w') := Lib.hid (by
    intro w1 B3 B4 B5 d3 d4 d5 h
    have h1 := given_any w1 x3 x2 (by rw [HX3.out]; exact HX2.out.1) HX2.out.1 (h.held 2 rfl) (h.held 1 rfl) w1 (Below.refl _ _)
    simp only [vl, rv] at h1
    rw [show (cmpV x3 x2 == 0) = true by rw [HX3.out, cmpV_self]; rfl] at h1
    exact h1)
  refine start_ (n := 26) (S := fun w' => w'.cell? ⟨R, 0, none⟩ = some (.int .i64 x1.f0) ∧ w'.cell? ⟨R, 1, none⟩ = some (.int .i64 x1.f1) ∧ w'.cell? ⟨R, 2, none⟩ = some (.string x1.f2) ∧ w'.cell? ⟨R, 3, none⟩ = some (.slice B3x x1.f3.length d3x) ∧ w'.cell? ⟨R, 4, none⟩ = some (.slice B4x x1.f4.length d4x) ∧ w'.cell? ⟨R, 5, none⟩ = some (.slice B5x x1.f5.length d5x) ∧ w'.cell? ⟨R, 6, none⟩ = some (.int .i64 0) ∧ w'.cell? ⟨X, 0, none⟩ = some (.int .i64 x2.f0) ∧ w'.cell? ⟨X, 1, none⟩ = some (.int .i64 x2.f1) ∧ w'.cell? ⟨X, 2, none⟩ = some (.string x2.f2) ∧ w'.cell? ⟨X, 3, none⟩ = some (.slice B3y x2.f3.length d3y) ∧ w'.cell? ⟨X, 4, none⟩ = some (.slice B4y x2.f4.length d4y) ∧ w'.cell? ⟨X, 5, none⟩ = some (.slice B5y x2.f5.length d5y) ∧ w'.cell? ⟨X, 6, none⟩ = some (.int .i64 0) ∧ SPR w [(R, #[.int .i64 x1.f0, .int .i64 x1.f1, .string x1.f2, .slice B3x x1.f3.length d3x, .slice B4x x1.f4.length d4x, .slice B5x x1.f5.length d5x, .int .i64 0], 30), (X, #[.int .i64 x2.f0, .int .i64 x2.f1, .string x2.f2, .slice B3y x2.f3.length d3y, .slice B4y x2.f4.length d4y, .slice B5y x2.f5.length d5y, .int .i64 0], 30)] [(x1, #[.int .i64 x1.f0, .int .i64 x1.f1, .string x1.f2, .slice B3x x1.f3.length d3x, .slice B4x x1.f4.length d4x, .slice B5x x1.f5.length d5x, .int .i64 0]), (x2, #[.int .i64 x2.f0, .int .i64 x2.f1, .string x2.f2, .slice B3y x2.f3.length d3y, .slice B4y x2.f4.length d4y, .slice B5y x2.f5.length d5y, .int .i64 0])] w') (ds := []) #[false, false, false, false, false, false, false, false, false, false, false, false, false, false, false, false, false, false, false, false, false, false, false, false, false, false] (by kernel_rfl) rfl rfl ⟨((sev_cells ((SPR.spl (SPR.drew HX.out)).get 0 rfl)).1), ((sev_cells ((SPR.spl (SPR.drew HX.out)).get 0 rfl)).2.1), ((sev_cells ((SPR.spl (SPR.drew HX.out)).get 0 rfl)).2.2.1), ((sev_cells ((SPR.spl (SPR.drew HX.out)).get 0 rfl)).2.2.2.1), ((sev_cells ((SPR.spl (SPR.drew HX.out)).get 0 rfl)).2.2.2.2.1), ((sev_cells ((SPR.spl (SPR.drew HX.out)).get 0 rfl)).2.2.2.2.2.1), ((sev_cells ((SPR.spl (SPR.drew HX.out)).get 0 rfl)).2.2.2.2.2.2.1), ((sev_cells ((SPR.spl (SPR.drew HX.out)).get 1 rfl)).1), ((sev_cells ((SPR.spl (SPR.drew HX.out)).get 1 rfl)).2.1), ((sev_cells ((SPR.spl (SPR.drew HX.out)).get 1 rfl)).2.2.1), ((sev_cells ((SPR.spl (SPR.drew HX.out)).get 1 rfl)).2.2.2.1), ((sev_cells ((SPR.spl (SPR.drew HX.out)).get 1 rfl)).2.2.2.2.1), ((sev_cells ((SPR.spl (SPR.drew HX.out)).get 1 rfl)).2.2.2.2.2.1), ((sev_cells ((SPR.spl (SPR.drew HX.out)).get 1 rfl)).2.2.2.2.2.2.1), (SPR.drew HX.out)⟩ (fun hHeld => ?_)
  refine pure_ (i := 0) (N := some 33) (v := ?_) (a' := ?_) #[true, false, false, false, false, false, false, false, false, false, false, false, false, false, false, false, false, false, false, false, false, false, false, false, false, false] rfl rfl (by kernel_rfl) (fun _ _ _ h => h) (Or.inl ⟨by rfl, ?_⟩) ?_ ?_
  rotate_left
  · intro w'
    go_simp
    with_reducible rfl
  rotate_left
  · simp only [Act.put, List.setIfInBounds_toArray, List.set_cons_zero, List.set_cons_succ, i64_w, i32_w]
    rfl
  refine take_ (i := 1) (N := some 34) (v := ?_) (a' := ?_) #[true, true, false, false, false, false, false, false, false, false, false, false, false, false, false, false, false, false, false, false, false, false, false, false, false, false] rfl rfl (by kernel_rfl) (fun _ _ _ h => h) (Or.inl ⟨by rfl, ?_⟩) hHeld ?_ ?_
  rotate_left
  · rintro w' ⟨s0, s1, s2, s3, s4, s5, s6, s7, s8, s9, s10, s11, s12, s13, s14⟩
    go_simp
    with_reducible rfl
  rotate_left
  · simp only [Act.put, List.setIfInBounds_toArray, List.set_cons_zero, List.set_cons_succ, i64_w, i32_w]
    rfl
  refine pure_ (i := 2) (N := some 35) (v := ?_) (a' := ?_) #[true, true, true, false, false, false, false, false, false, false, false, false, false, false, false, false, false, false, false, false, false, false, false, false, false, false] rfl rfl (by kernel_rfl) (fun _ _ _ h => h) (Or.inl ⟨by rfl, ?_⟩) ?_ ?_
  rotate_left
  · intro w'
    go_simp
    with_reducible rfl
  rotate_left
  · simp only [Act.put, List.setIfInBounds_toArray, List.set_cons_zero, List.set_cons_succ, i64_w, i32_w]
    rfl
  refine pure_ (i := 3) (N := some 36) (v := ?_) (a' := ?_) #[true, true, true, true, false, false, false, false, false, false, false, false, false, false, false, false, false, false, false, false, false, false, false, false, false, false] rfl rfl (by kernel_rfl) (fun _ _ _ h => h) (Or.inl ⟨by rfl, ?_⟩) ?_ ?_
  rotate_left
  · intro w'
    go_simp
    with_reducible rfl
  rotate_left
  · simp only [Act.put, List.setIfInBounds_toArray, List.set_cons_zero, List.set_cons_succ, i64_w, i32_w]
    rfl
  refine pure_ (i := 4) (N := some 37) (v := ?_) (a' := ?_) #[true, true, true, true, true, false, false, false, false, false, false, false, false, false, false, false, false, false, false, false, false, false, false, false, false, false] rfl rfl (by kernel_rfl) (fun _ _ _ h => h) (Or.inl ⟨by rfl, ?_⟩) ?_ ?_
  rotate_left
  · intro w'
    go_simp
    with_reducible rfl
  rotate_left
  · simp only [Act.put, List.setIfInBounds_toArray, List.set_cons_zero, List.set_cons_succ, i64_w, i32_w]
    rfl
  refine pure_ (i := 5) (N := some 38) (v := ?_) (a' := ?_) #[true, true, true, true, true, true, false, false, false, false, false, false, false, false, false, false, false, false, false, false, false, false, false, false, false, false] rfl rfl (by kernel_rfl) (fun _ _ _ h => h) (Or.inl ⟨by rfl, ?_⟩) ?_ ?_
  rotate_left
  · intro w'
    go_simp
    with_reducible rfl
  rotate_left
  · simp only [Act.put, List.setIfInBounds_toArray, List.set_cons_zero, List.set_cons_succ, i64_w, i32_w]
    rfl
  refine take_ (i := 6) (N := some 39) (v := ?_) (a' := ?_) #[true, true, true, true, true, true, true, false, false, false, false, false, false, false, false, false, false, false, false, false, false, false, false, false, false, false] rfl rfl (by kernel_rfl) (fun _ _ _ h => h) (Or.inl ⟨by rfl, ?_⟩) hHeld ?_ ?_
  rotate_left
  · rintro w' ⟨s0, s1, s2, s3, s4, s5, s6, s7, s8, s9, s10, s11, s12, s13, s14⟩
    go_simp
    with_reducible rfl
  rotate_left
  · simp only [Act.put, List.setIfInBounds_toArray, List.set_cons_zero, List.set_cons_succ, i64_w, i32_w]
    rfl
  refine pure_ (i := 7) (N := some 40) (v := ?_) (a' := ?_) #[true, true, true, true, true, true, true, true, false, false, false, false, false, false, false, false, false, false, false, false, false, false, false, false, false, false] rfl rfl (by kernel_rfl) (fun _ _ _ h => h) (Or.inl ⟨by rfl, ?_⟩) ?_ ?_
  rotate_left
  · intro w'
    go_simp
    with_reducible rfl
  rotate_left
  · simp only [Act.put, List.setIfInBounds_toArray, List.set_cons_zero, List.set_cons_succ, i64_w, i32_w]
    rfl
  refine pure_ (i := 8) (N := some 41) (v := ?_) (a' := ?_) #[true, true, true, true, true, true, true, true, true, false, false, false, false, false, false, false, false, false, false, false, false, false, false, false, false, false] rfl rfl (by kernel_rfl) (fun _ _ _ h => h) (Or.inl ⟨by rfl, ?_⟩) ?_ ?_
  rotate_left
  · intro w'
    go_simp
    with_reducible rfl
  rotate_left
  · simp only [Act.put, List.setIfInBounds_toArray, List.set_cons_zero, List.set_cons_succ, i64_w, i32_w]
    rfl
  refine pure_ (i := 9) (N := some 42) (v := ?_) (a' := ?_) #[true, true, true, true, true, true, true, true, true, true, false, false, false, false, false, false, false, false, false, false, false, false, false, false, false, false] rfl rfl (by kernel_rfl) (fun _ _ _ h => h) (Or.inl ⟨by rfl, ?_⟩) ?_ ?_
  rotate_left
  · intro w'
    go_simp
    with_reducible rfl
  rotate_left
  · simp only [Act.put, List.setIfInBounds_toArray, List.set_cons_zero, List.set_cons_succ, i64_w, i32_w]
    rfl
  refine pure_ (i := 10) (N := some 43) (v := ?_) (a' := ?_) #[true, true, true, true, true, true, true, true, true, true, true, false, false, false, false, false, false, false, false, false, false, false, false, false, false, false] rfl rfl (by kernel_rfl) (fun _ _ _ h => h) (Or.inl ⟨by rfl, ?_⟩) ?_ ?_
  rotate_left
  · intro w'
    go_simp
    with_reducible rfl
  rotate_left
  · simp only [Act.put, List.setIfInBounds_toArray, List.set_cons_zero, List.set_cons_succ, i64_w, i32_w]
    rfl
  refine take_ (i := 11) (N := some 44) (v := ?_) (a' := ?_) #[true, true, true, true, true, true, true, true, true, true, true, true, false, false, false, false, false, false, false, false, false, false, false, false, false, false] rfl rfl (by kernel_rfl) (fun _ _ _ h => h) (Or.inl ⟨by rfl, ?_⟩) hHeld ?_ ?_
  rotate_left
  · rintro w' ⟨s0, s1, s2, s3, s4, s5, s6, s7, s8, s9, s10, s11, s12, s13, s14⟩
    go_simp
    with_reducible rfl
  rotate_left
  · simp only [Act.put, List.setIfInBounds_toArray, List.set_cons_zero, List.set_cons_succ, i64_w, i32_w]
    rfl
  refine pure_ (i := 12) (N := some 45) (v := ?_) (a' := ?_) #[true, true, true, true, true, true, true, true, true, true, true, true, true, false, false, false, false, false, false, false, false, false, false, false, false, false] rfl rfl (by kernel_rfl) (fun _ _ _ h => h) (Or.inl ⟨by rfl, ?_⟩) ?_ ?_
  rotate_left
  · intro w'
    go_simp
    with_reducible rfl
  rotate_left
  · simp only [Act.put, List.setIfInBounds_toArray, List.set_cons_zero, List.set_cons_succ, i64_w, i32_w]
    rfl
  refine pure_ (i := 13) (N := some 46) (v := ?_) (a' := ?_) #[true, true, true, true, true, true, true, true, true, true, true, true, true, true, false, false, false, false, false, false, false, false, false, false, false, false] rfl rfl (by kernel_rfl) (fun _ _ _ h => h) (Or.inl ⟨by rfl, ?_⟩) ?_ ?_
  rotate_left
  · intro w'
    go_simp
    with_reducible rfl
  rotate_left
  · simp only [Act.put, List.setIfInBounds_toArray, List.set_cons_zero, List.set_cons_succ, i64_w, i32_w]
    rfl
  refine pure_ (i := 14) (N := some 47) (v := ?_) (a' := ?_) #[true, true, true, true, true, true, true, true, true, true, true, true, true, true, true, false, false, false, false, false, false, false, false, false, false, false] rfl rfl (by kernel_rfl) (fun _ _ _ h => h) (Or.inl ⟨by rfl, ?_⟩) ?_ ?_
  rotate_left
  · intro w'
    go_simp
    with_reducible rfl
  rotate_left
  · simp only [Act.put, List.setIfInBounds_toArray, List.set_cons_zero, List.set_cons_succ, i64_w, i32_w]
    rfl
  refine pure_ (i := 15) (N := some 48) (v := ?_) (a' := ?_) #[true, true, true, true, true, true, true, true, true, true, true, true, true, true, true, true, false, false, false, false, false, false, false, false, false, false] rfl rfl (by kernel_rfl) (fun _ _ _ h => h) (Or.inl ⟨by rfl, ?_⟩) ?_ ?_
  rotate_left
  · intro w'
    go_simp
    with_reducible rfl
  rotate_left
  · simp only [Act.put, List.setIfInBounds_toArray, List.set_cons_zero, List.set_cons_succ, i64_w, i32_w]
    rfl
  refine pure_ (i := 17) (N := some 50) (v := ?_) (a' := ?_) #[true, true, true, true, true, true, true, true, true, true, true, true, true, true, true, true, false, true, false, false, false, false, false, false, false, false] rfl rfl (by kernel_rfl) (fun _ _ _ h => h) (Or.inl ⟨by rfl, ?_⟩) ?_ ?_
  rotate_left
  · intro w'
    go_simp
    with_reducible rfl
  rotate_left
  · simp only [Act.put, List.setIfInBounds_toArray, List.set_cons_zero, List.set_cons_succ, i64_w, i32_w]
    rfl
  refine pure_ (i := 18) (N := some 51) (v := ?_) (a' := ?_) #[true, true, true, true, true, true, true, true, true, true, true, true, true, true, true, true, false, true, true, false, false, false, false, false, false, false] rfl rfl (by kernel_rfl) (fun _ _ _ h => h) (Or.inl ⟨by rfl, ?_⟩) ?_ ?_
  rotate_left
  · intro w'
    go_simp
    with_reducible rfl
  rotate_left
  · simp only [Act.put, List.setIfInBounds_toArray, List.set_cons_zero, List.set_cons_succ, i64_w, i32_w]
    rfl
  refine pure_ (i := 21) (N := some 54) (v := ?_) (a' := ?_) #[true, true, true, true, true, true, true, true, true, true, true, true, true, true, true, true, false, true, true, false, false, true, false, false, false, false] rfl rfl (by kernel_rfl) (fun _ _ _ h => h) (Or.inl ⟨by rfl, ?_⟩) ?_ ?_
  rotate_left
  · intro w'
    go_simp
    with_reducible rfl
  rotate_left
  · simp only [Act.put, List.setIfInBounds_toArray, List.set_cons_zero, List.set_cons_succ, i64_w, i32_w]
    rfl
  refine take_ (i := 16) (N := some 49) (v := ?_) (a' := ?_) #[true, true, true, true, true, true, true, true, true, true, true, true, true, true, true, true, true, true, true, false, false, true, false, false, false, false] rfl rfl (by kernel_rfl) (fun _ _ _ h => h) (Or.inl ⟨by rfl, ?_⟩) hHeld ?_ ?_
  rotate_left
  · rintro w' ⟨s0, s1, s2, s3, s4, s5, s6, s7, s8, s9, s10, s11, s12, s13, s14⟩
    go_simp
    with_reducible rfl
  rotate_left
  · simp only [Act.put, List.setIfInBounds_toArray, List.set_cons_zero, List.set_cons_succ, i64_w, i32_w]
    rfl
  refine take_ (i := 22) (N := some 55) (v := ?_) (a' := ?_) #[true, true, true, true, true, true, true, true, true, true, true, true, true, true, true, true, true, true, true, false, false, true, true, false, false, false] rfl rfl (by kernel_rfl) (fun _ _ _ h => h) (Or.inl ⟨by rfl, ?_⟩) hHeld ?_ ?_
  rotate_left
  · rintro w' ⟨s0, s1, s2, s3, s4, s5, s6, s7, s8, s9, s10, s11, s12, s13, s14⟩
    go_simp
    with_reducible rfl
  rotate_left
  · simp only [Act.put, List.setIfInBounds_toArray, List.set_cons_zero, List.set_cons_succ, i64_w, i32_w]
    rfl
  refine one_ (i := 19) (N := some 52) #[true, true, true, true, true, true, true, true, true, true, true, true, true, true, true, true, true, true, true, true, false, true, true, false, false, false] rfl rfl (by kernel_rfl) (by decide) (fun K hK => ?_)
  refine goes_ Tryz.func34 (by kernel_rfl) rfl #[.int .i64 (wrap64 n2)] (by rfl) rfl rfl (by simp only [List.map_toArray, List.map_cons, List.map_nil]; rfl) ?_
  with_reducible refine ((HN2.out _)).mono ?_
  rintro e w20 ⟨rfl, hb⟩
  refine ⟨_, rfl, ?_⟩
  have hz1 := SPR.below (hHeld.2.2.2.2.2.2.2.2.2.2.2.2.2.2) hb
  refine hK.out _ _ ⟨((sev_cells ((SPR.spl hz1).get 0 rfl)).1), ((sev_cells ((SPR.spl hz1).get 0 rfl)).2.1), ((sev_cells ((SPR.spl hz1).get 0 rfl)).2.2.1), ((sev_cells ((SPR.spl hz1).get 0 rfl)).2.2.2.1), ((sev_cells ((SPR.spl hz1).get 0 rfl)).2.2.2.2.1), ((sev_cells ((SPR.spl hz1).get 0 rfl)).2.2.2.2.2.1), ((sev_cells ((SPR.spl hz1).get 0 rfl)).2.2.2.2.2.2.1), ((sev_cells ((SPR.spl hz1).get 1 rfl)).1), ((sev_cells ((SPR.spl hz1).get 1 rfl)).2.1), ((sev_cells ((SPR.spl hz1).get 1 rfl)).2.2.1), ((sev_cells ((SPR.spl hz1).get 1 rfl)).2.2.2.1), ((sev_cells ((SPR.spl hz1).get 1 rfl)).2.2.2.2.1), ((sev_cells ((SPR.spl hz1).get 1 rfl)).2.2.2.2.2.1), ((sev_cells ((SPR.spl hz1).get 1 rfl)).2.2.2.2.2.2.1), hz1⟩ (fun hHeld => ?_)
  clear hK K
  refine norm_ (a' := ?_) ?_ ?_
  rotate_left
  · show Act.put _ (some 52) _ = _
    simp only [Act.put, List.setIfInBounds_toArray, List.set_cons_zero, List.set_cons_succ, i64_w, i32_w]
    rfl
  refine one_ (i := 20) (N := some 53) #[true, true, true, true, true, true, true, true, true, true, true, true, true, true, true, true, true, true, true, true, true, true, true, false, false, false] rfl rfl (by kernel_rfl) (by decide) (fun K hK => ?_)
  refine goes_ Tryz.func38 (by kernel_rfl) rfl #[.agg #[.int .i64 x1.f0, .int .i64 x1.f1, .string x1.f2, .slice B3x x1.f3.length d3x, .slice B4x x1.f4.length d4x, .slice B5x x1.f5.length d5x], .agg #[.int .i64 3, .int .i64 (2 * n2), .string ⟨#[]⟩, .slice none 0 0, .slice none 0 0, .slice none 0 0]] (by rfl) rfl rfl (by simp only [List.map_toArray, List.map_cons, List.map_nil]; rfl) ?_
  with_reducible refine ((HIY.out _ _ _ hz1 0 rfl)).mono ?_
  rintro e w21 ⟨cs, rfl, hz2⟩
  obtain ⟨B3z, d3z, B4z, d4z, B5z, d5z, rfl⟩ := hz2.cells 2 rfl
  refine ⟨_, rfl, ?_⟩
  have hz3 := SPR.cut hz2
  refine hK.out _ _ ⟨((sev_cells ((SPR.spl hz3).get 0 rfl)).1), ((sev_cells ((SPR.spl hz3).get 0 rfl)).2.1), ((sev_cells ((SPR.spl hz3).get 0 rfl)).2.2.1), ((sev_cells ((SPR.spl hz3).get 0 rfl)).2.2.2.1), ((sev_cells ((SPR.spl hz3).get 0 rfl)).2.2.2.2.1), ((sev_cells ((SPR.spl hz3).get 0 rfl)).2.2.2.2.2.1), ((sev_cells ((SPR.spl hz3).get 0 rfl)).2.2.2.2.2.2.1), ((sev_cells ((SPR.spl hz3).get 1 rfl)).1), ((sev_cells ((SPR.spl hz3).get 1 rfl)).2.1), ((sev_cells ((SPR.spl hz3).get 1 rfl)).2.2.1), ((sev_cells ((SPR.spl hz3).get 1 rfl)).2.2.2.1), ((sev_cells ((SPR.spl hz3).get 1 rfl)).2.2.2.2.1), ((sev_cells ((SPR.spl hz3).get 1 rfl)).2.2.2.2.2.1), ((sev_cells ((SPR.spl hz3).get 1 rfl)).2.2.2.2.2.2.1), hz3⟩ (fun hHeld => ?_)
  clear hK K
  refine norm_ (a' := ?_) ?_ ?_
  rotate_left
  · show Act.put _ (some 53) _ = _
    simp only [Act.put, List.setIfInBounds_toArray, List.set_cons_zero, List.set_cons_succ, i64_w, i32_w]
    rfl
  refine one_ (i := 23) (N := some 56) #[true, true, true, true, true, true, true, true, true, true, true, true, true, true, true, true, true, true, true, true, true, true, true, true, false, false] rfl rfl (by kernel_rfl) (by decide) (fun K hK => ?_)
  refine goes_ Tryz.func19 (by kernel_rfl) rfl #[.agg #[.int .i64 x3.f0, .int .i64 x3.f1, .string x3.f2, .slice B3z x3.f3.length d3z, .slice B4z x3.f4.length d4z, .slice B5z x3.f5.length d5z, .int .i64 0], .agg #[.int .i64 x2.f0, .int .i64 x2.f1, .string x2.f2, .slice B3y x2.f3.length d3y, .slice B4y x2.f4.length d4y, .slice B5y x2.f5.length d5y]] (by rfl) rfl rfl (by simp only [List.map_toArray, List.map_cons, List.map_nil]; rfl) ?_
  with_reducible refine ((HGV.out _ hz2)).mono ?_
  rintro e w22 ⟨rfl, hb⟩
  refine ⟨_, rfl, ?_⟩
  have hz4 := SPR.below hz3 hb
  refine hK.out _ _ ⟨((sev_cells ((SPR.spl hz4).get 0 rfl)).1), ((sev_cells ((SPR.spl hz4).get 0 rfl)).2.1), ((sev_cells ((SPR.spl hz4).get 0 rfl)).2.2.1), ((sev_cells ((SPR.spl hz4).get 0 rfl)).2.2.2.1), ((sev_cells ((SPR.spl hz4).get 0 rfl)).2.2.2.2.1), ((sev_cells ((SPR.spl hz4).get 0 rfl)).2.2.2.2.2.1), ((sev_cells ((SPR.spl hz4).get 0 rfl)).2.2.2.2.2.2.1), ((sev_cells ((SPR.spl hz4).get 1 rfl)).1), ((sev_cells ((SPR.spl hz4).get 1 rfl)).2.1), ((sev_cells ((SPR.spl hz4).get 1 rfl)).2.2.1), ((sev_cells ((SPR.spl hz4).get 1 rfl)).2.2.2.1), ((sev_cells ((SPR.spl hz4).get 1 rfl)).2.2.2.2.1), ((sev_cells ((SPR.spl hz4).get 1 rfl)).2.2.2.2.2.1), ((sev_cells ((SPR.spl hz4).get 1 rfl)).2.2.2.2.2.2.1), hz4⟩ (fun hHeld => ?_)
  clear hK K
  refine norm_ (a' := ?_) ?_ ?_
  rotate_left
  · show Act.put _ (some 56) _ = _
    simp only [Act.put, List.setIfInBounds_toArray, List.set_cons_zero, List.set_cons_succ, i64_w, i32_w]
    rfl
  refine pure_ (i := 24) (N := some 57) (v := ?_) (a' := ?_) #[true, true, true, true, true, true, true, true, true, true, true, true, true, true, true, true, true, true, true, true, true, true, true, true, true, false] rfl rfl (by kernel_rfl) (fun _ _ _ h => h) (Or.inl ⟨by rfl, ?_⟩) ?_ ?_
  rotate_left
  · intro w'
    go_simp
    with_reducible rfl
  rotate_left
  · simp only [Act.put, List.setIfInBounds_toArray, List.set_cons_zero, List.set_cons_succ, i64_w, i32_w]
    rfl
  refine pure_ (i := 25) (N := some 6) (v := ?_) (a' := ?_) #[true, true, true, true, true, true, true, true, true, true, true, true, true, true, true, true, true, true, true, true, true, true, true, true, true, true] rfl rfl (by kernel_rfl) (fun _ _ _ h => h) (Or.inl ⟨by rfl, ?_⟩) ?_ ?_
  rotate_left
  · intro w'
    go_simp
    with_reducible rfl
  rotate_left
  · simp only [Act.put, List.setIfInBounds_toArray, List.set_cons_zero, List.set_cons_succ, i64_w, i32_w]
    rfl
  refine done_ (by kernel_rfl) ?_
  go_wp2_with fail
  go_ret
  exact ⟨rfl, hz4.bel⟩
end Go.Proofs.YtdaiodiafahkkaaGreatDoor.ValA
