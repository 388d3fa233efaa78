/-
FnReverseTwice: reverse twice is the array.
-/
import Derived.Test.YtdaiodiafahkkaaGreatDoorMK
set_option linter.unusedSimpArgs false
set_option linter.unusedVariables false
namespace Go.Proofs.YtdaiodiafahkkaaGreatDoor.ValA
open Go.RowKit Go.Lib Go.Proofs.YtdaiodiafahkkaaGreatDoorW.PrintWords Go.Proofs.YtdaiodiafahkkaaGreatDoorW.PrintLast Go.Proofs.YtdaiodiafahkkaaGreatDoorW.PrintMore Go.Proofs.YtdaiodiafahkkaaGreatDoor.PzzFits1 Go.Proofs.YtdaiodiafahkkaaGreatDoor.NumA
attribute [local go_sem] run_val
set_option maxRecDepth 100000 in
set_option maxHeartbeats 20000000 in
theorem fnReverseTwice_any (w0 : World) (hE : Env w0) (A : Option Addr) (l : List V) (c : Nat) (hlc : l.length ≤ c) (hC : Kd.C k26 w0 A l.length l) (hz : ∀ y ∈ l, Sz y) (n1 : Int) (zn1 : (Lit.int .i8 n1).wf = true) :
    Calls Tryz.prog 12 #[.slice A l.length c, .int .i8 n1] w0 fun e w' => e = .returned (.bool true) ∧ Below w0.heap.size w0 w' := by
  obtain ⟨w, hw⟩ : ∃ w, w = w0 := ⟨_, rfl⟩
  have hK := list_K hlc hC
  have hzl : Sz (lV l) := sz_lV hz
  have bn1 := i8_in zn1
  clear zn1
  have HZ := Lib.hid hzl
  have HF := Lib.hid (fun w1 g (hg : g = w1.heap.size) hb => fits_at w0 hE hzl hK w1 g hg hb)
  have HT := Lib.hid (fun h => toGo_any w0 _ (lV l) (Nat.lt_succ_self _) hzl h _ hK)
  have HAR := Lib.hid (fun A n c w => array_any A n c w)
  have HNU := Lib.hid (fun n w => number_any n w)
  have HKW := Lib.hid hK
  clear hE hlc hC hz hK hzl
  subst hw
  by_cases c0 : (l.length : Int) > 2147483647
  · have d0 : decide ((l.length : Int) > 2147483647) = true := decide_eq_true c0
    clear c0
    go_enter Tryz.func12, Tryz.ntmps12
    go_wp2_with fail
    go_ret
    exact ⟨rfl, Below.refl _ _⟩
  have d0 : decide ((l.length : Int) > 2147483647) = false := decide_eq_false c0
  clear c0
  go_enter Tryz.func12, Tryz.ntmps12
  go_wp2_with fail
  refine (HAR.out _ _ _ _).mono ?_
  rintro e w1 ⟨rfl, hb⟩
  have H1 := Lib.hid (spr0 hb)
  clear hb
  go_wp2_with fail
  have hsz : (w1.alloc (.cells #[.int .i64 5, .int .i64 0, .string ⟨#[]⟩, .slice A l.length c, .slice none 0 0, .slice none 0 0] 26)).heap.size = w1.heap.size + 1 := World.size_alloc _ _
  obtain ⟨V, hV⟩ : ∃ V, V = w1.heap.size := ⟨_, rfl⟩
  obtain ⟨WV, hWV⟩ : ∃ WV, WV = w1.alloc (.cells #[.int .i64 5, .int .i64 0, .string ⟨#[]⟩, .slice A l.length c, .slice none 0 0, .slice none 0 0] 26) := ⟨_, rfl⟩
  have hSV : SPR w [(V, lvc A l c, 26)] [] WV := by rw [hV, hWV]; exact H1.out.more _ _
  rw [← hWV] at hsz ⊢
  rw [← hV] at hsz ⊢
  refine (HF.out WV (V + 1) hsz.symm hSV.bel).mono ?_
  rintro e w2 ⟨r, rfl, hr, hb⟩
  have H2 := Lib.hid ((hSV.more _ _).below hb |>.tk 1 0)
  clear hb H1 HF hsz hV hWV hSV
  have ya := six_cells (H2.out.get 0 rfl)
  cases r with
  | false =>
    go_wp2_with fail
    go_ret
    exact ⟨rfl, H2.out.bel⟩
  | true =>
  have HW := Lib.hid (hr (by trivial))
  clear hr
  have HT := Lib.hid (HT.out (loose HW.out))
  obtain ⟨x1, hx1⟩ : ∃ x1, x1 = lV (lV l).f3.reverse := ⟨_, rfl⟩
  obtain ⟨x2, hx2⟩ : ∃ x2, x2 = ixV (lV l).f3 n1 := ⟨_, rfl⟩
  obtain ⟨x3, hx3⟩ : ∃ x3, x3 = ixV x1.f3 (-1 - n1) := ⟨_, rfl⟩
  obtain ⟨x4, hx4⟩ : ∃ x4, x4 = lV x1.f3.reverse := ⟨_, rfl⟩
  have HRV : Hid (∀ L rs w1, SPR w L rs w1 → Calls Tryz.prog 37 #[.agg #[.int .i64 5, .int .i64 0, .string ⟨#[]⟩, .slice A l.length c, .slice none 0 0, .slice none 0 0]] w1 fun e w' => ∃ cs, e = .returned (.agg cs) ∧ SPR w L (rs ++ [(x1, cs)]) w') := Lib.hid (by
    intro L rs w1 h
    rw [hx1]
    exact reverse_res w HT.out (loose HW.out) HZ.out rfl h h.bel)
  have HIX : Hid (∀ L rs w1, SPR w L rs w1 → Calls Tryz.prog 38 #[.agg #[.int .i64 5, .int .i64 0, .string ⟨#[]⟩, .slice A l.length c, .slice none 0 0, .slice none 0 0], .agg #[.int .i64 3, .int .i64 (2 * n1), .string ⟨#[]⟩, .slice none 0 0, .slice none 0 0, .slice none 0 0]] w1 fun e w' => ∃ cs, e = .returned (.agg cs) ∧ SPR w L (rs ++ [(x2, cs)]) w') := Lib.hid (by
    intro L rs w1 h
    rw [hx2]
    exact index_res w HT.out (loose HW.out) HZ.out rfl n1 (tiny_some (by omega) (by omega)) h h.bel)
  have hn := wf_n3 HW.out
  have hwl := (loose HW.out).h3
  have hzl := sz_h3 HZ.out
  have HX1 : Hid (WL x1 ∧ Sz x1 ∧ x1.f0 = 5) := Lib.hid (by rw [hx1]; exact ⟨wl_lV (by rw [List.length_reverse]; omega) (fun y hy => hwl y (by simpa using hy)), sz_lV (fun y hy => hzl y (by simpa using hy)), rfl⟩)
  have HX2 : Hid (WL x2 ∧ Sz x2) := Lib.hid (by rw [hx2]; exact ⟨wl_at hwl _, sz_at hzl _⟩)
  have HX3 : Hid (x3 = x2) := Lib.hid (by rw [hx3, hx2, hx1]; exact at_rev (lV l).f3 n1)
  have HX4 : Hid (x4 = lV l) := Lib.hid (by rw [hx4, hx1]; show lV (lV l).f3.reverse.reverse = _; rw [List.reverse_reverse]; rfl)
  have q5 : (x1.f0 == 5) = true := by rw [HX1.out.2.2]; rfl
  have HIY := Lib.hid (fun L rs w1 (h : SPR w L rs w1) {B3 B4 B5 : Option Addr} {d3 d4 d5 : Nat} (i : Nat) (hi : rs[i]? = some (x1, #[.int .i64 x1.f0, .int .i64 x1.f1, .string x1.f2, .slice B3 x1.f3.length d3, .slice B4 x1.f4.length d4, .slice B5 x1.f5.length d5, .int .i64 0])) => index_res w1 (h.toGo i hi HX1.out.1 HX1.out.2.1) HX1.out.1 HX1.out.2.1 HX1.out.2.2 (-1 - n1) (tiny_some (by omega) (by omega)) h (Below.refl _ _))
  rw [← hx3] at HIY
  have HRW := Lib.hid (fun L rs w1 (h : SPR w L rs w1) {B3 B4 B5 : Option Addr} {d3 d4 d5 : Nat} (i : Nat) (hi : rs[i]? = some (x1, #[.int .i64 x1.f0, .int .i64 x1.f1, .string x1.f2, .slice B3 x1.f3.length d3, .slice B4 x1.f4.length d4, .slice B5 x1.f5.length d5, .int .i64 0])) => reverse_res w1 (h.toGo i hi HX1.out.1 HX1.out.2.1) HX1.out.1 HX1.out.2.1 HX1.out.2.2 h (Below.refl _ _))
  rw [← hx4] at HRW
  have HE : Hid (wrap64 n1 = n1 ∧ wrap64 (2 * n1) = 2 * n1 ∧ wrap64 (-1 - n1) = -1 - n1 ∧ wrap64 (2 * (-1 - n1)) = 2 * (-1 - n1)) := Lib.hid ⟨by unfold wrap64; omega, by unfold wrap64; omega, by unfold wrap64; omega, by unfold wrap64; omega⟩
  clear hx1 hx2 hx3 hx4 hwl hzl hn bn1
  go_wp2_with fail
  refine (HRV.out _ _ _ H2.out).mono ?_
  rintro e w3 ⟨cs, rfl, hS⟩
  obtain ⟨B3x, d3x, B4x, d4x, B5x, d5x, rfl⟩ := hS.cells 0 rfl
  have H3 := Lib.hid hS
  clear hS H2 ya
  go_wp2_with fail
  obtain ⟨R, hR⟩ : ∃ R, R = w3.heap.size := ⟨_, rfl⟩
  obtain ⟨WR, hWR⟩ : ∃ WR, WR = w3.alloc (.cells #[.int .i64 x1.f0, .int .i64 x1.f1, .string x1.f2, .slice B3x x1.f3.length d3x, .slice B4x x1.f4.length d4x, .slice B5x x1.f5.length d5x, .int .i64 0] 30) := ⟨_, rfl⟩
  have hSR : SPR w [(V, lvc A l c, 26), (R, rc x1 B3x d3x B4x d4x B5x d5x, 30)] [(x1, rc x1 B3x d3x B4x d4x B5x d5x)] WR := by rw [hR, hWR]; exact H3.out.more _ _
  rw [← hWR, ← hR]
  have HR := Lib.hid hSR
  clear hSR hWR hR H3
  have HN1 : Hid (∀ w1, Calls Tryz.prog 34 #[.int .i64 (wrap64 n1)] w1 fun e w' => e = .returned (.agg #[.int .i64 3, .int .i64 (2 * n1), .string ⟨#[]⟩, .slice none 0 0, .slice none 0 0, .slice none 0 0]) ∧ Below w1.heap.size w1 w') := Lib.hid (by
    intro w1
    have h := number_any n1 w1
    rw [HE.out.2.1] at h
    rw [HE.out.1]
    exact h)
  have HN2 : Hid (∀ w1, Calls Tryz.prog 34 #[.int .i64 (wrap64 (-1 - wrap64 n1))] w1 fun e w' => e = .returned (.agg #[.int .i64 3, .int .i64 (2 * (-1 - n1)), .string ⟨#[]⟩, .slice none 0 0, .slice none 0 0, .slice none 0 0]) ∧ Below w1.heap.size w1 w') := Lib.hid (by
    intro w1
    have h := number_any (-1 - n1) w1
    rw [HE.out.2.2.2] at h
    rw [HE.out.1, HE.out.2.2.1]
    exact h)
  have HS : ∀ w', SPR w [(V, lvc A l c, 26), (R, rc x1 B3x d3x B4x d4x B5x d5x, 30)] [(x1, rc x1 B3x d3x B4x d4x B5x d5x)] w' → w'.cell? ⟨V, 0, none⟩ = some (.int .i64 5) ∧ w'.cell? ⟨V, 1, none⟩ = some (.int .i64 0) ∧ w'.cell? ⟨V, 2, none⟩ = some (.string ⟨#[]⟩) ∧ w'.cell? ⟨V, 3, none⟩ = some (.slice A l.length c) ∧ w'.cell? ⟨V, 4, none⟩ = some (.slice none 0 0) ∧ w'.cell? ⟨V, 5, none⟩ = some (.slice none 0 0) ∧ w'.cell? ⟨R, 0, none⟩ = some (.int .i64 x1.f0) ∧ w'.cell? ⟨R, 1, none⟩ = some (.int .i64 x1.f1) ∧ w'.cell? ⟨R, 2, none⟩ = some (.string x1.f2) ∧ w'.cell? ⟨R, 3, none⟩ = some (.slice B3x x1.f3.length d3x) ∧ w'.cell? ⟨R, 4, none⟩ = some (.slice B4x x1.f4.length d4x) ∧ w'.cell? ⟨R, 5, none⟩ = some (.slice B5x x1.f5.length d5x) ∧ w'.cell? ⟨R, 6, none⟩ = some (.int .i64 0) ∧ SPR w [(V, lvc A l c, 26), (R, rc x1 B3x d3x B4x d4x B5x d5x, 30)] [(x1, rc x1 B3x d3x B4x d4x B5x d5x)] w' := fun w' h => ⟨((six_cells ((SPR.spl h).get 0 rfl)).1), ((six_cells ((SPR.spl h).get 0 rfl)).2.1), ((six_cells ((SPR.spl h).get 0 rfl)).2.2.1), ((six_cells ((SPR.spl h).get 0 rfl)).2.2.2.1), ((six_cells ((SPR.spl h).get 0 rfl)).2.2.2.2.1), ((six_cells ((SPR.spl h).get 0 rfl)).2.2.2.2.2.1), ((sev_cells ((SPR.spl h).get 1 rfl)).1), ((sev_cells ((SPR.spl h).get 1 rfl)).2.1), ((sev_cells ((SPR.spl h).get 1 rfl)).2.2.1), ((sev_cells ((SPR.spl h).get 1 rfl)).2.2.2.1), ((sev_cells ((SPR.spl h).get 1 rfl)).2.2.2.2.1), ((sev_cells ((SPR.spl h).get 1 rfl)).2.2.2.2.2.1), ((sev_cells ((SPR.spl h).get 1 rfl)).2.2.2.2.2.2.1), h⟩
  refine start_ (n := 16) (S := fun w' => w'.cell? ⟨V, 0, none⟩ = some (.int .i64 5) ∧ w'.cell? ⟨V, 1, none⟩ = some (.int .i64 0) ∧ w'.cell? ⟨V, 2, none⟩ = some (.string ⟨#[]⟩) ∧ w'.cell? ⟨V, 3, none⟩ = some (.slice A l.length c) ∧ w'.cell? ⟨V, 4, none⟩ = some (.slice none 0 0) ∧ w'.cell? ⟨V, 5, none⟩ = some (.slice none 0 0) ∧ w'.cell? ⟨R, 0, none⟩ = some (.int .i64 x1.f0) ∧ w'.cell? ⟨R, 1, none⟩ = some (.int .i64 x1.f1) ∧ w'.cell? ⟨R, 2, none⟩ = some (.string x1.f2) ∧ w'.cell? ⟨R, 3, none⟩ = some (.slice B3x x1.f3.length d3x) ∧ w'.cell? ⟨R, 4, none⟩ = some (.slice B4x x1.f4.length d4x) ∧ w'.cell? ⟨R, 5, none⟩ = some (.slice B5x x1.f5.length d5x) ∧ w'.cell? ⟨R, 6, none⟩ = some (.int .i64 0) ∧ SPR w [(V, lvc A l c, 26), (R, rc x1 B3x d3x B4x d4x B5x d5x, 30)] [(x1, rc x1 B3x d3x B4x d4x B5x d5x)] w') (ds := []) #[false, false, false, false, false, false, false, false, false, false, false, false, false, false, false, false] (by kernel_rfl) rfl rfl (HS _ (SPR.drew HR.out)) (fun hHeld => ?_)
  refine pure_ (i := 1) (N := some 21) (v := ?_) (a' := ?_) #[false, true, false, false, false, false, false, false, false, false, false, false, false, false, false, false] rfl rfl (by kernel_rfl) (fun _ _ _ h => h) (Or.inl ⟨by rfl, ?_⟩) ?_ ?_
  rotate_left
  · intro w'
    go_simp
    with_reducible rfl
  rotate_left
  · simp only [Act.put, List.setIfInBounds_toArray, List.set_cons_zero, List.set_cons_succ, i64_w, i32_w]
    rfl
  refine pure_ (i := 2) (N := some 22) (v := ?_) (a' := ?_) #[false, true, true, false, false, false, false, false, false, false, false, false, false, false, false, false] rfl rfl (by kernel_rfl) (fun _ _ _ h => h) (Or.inl ⟨by rfl, ?_⟩) ?_ ?_
  rotate_left
  · intro w'
    go_simp
    with_reducible rfl
  rotate_left
  · simp only [Act.put, List.setIfInBounds_toArray, List.set_cons_zero, List.set_cons_succ, i64_w, i32_w]
    rfl
  refine pure_ (i := 5) (N := some 25) (v := ?_) (a' := ?_) #[false, true, true, false, false, true, false, false, false, false, false, false, false, false, false, false] rfl rfl (by kernel_rfl) (fun _ _ _ h => h) (Or.inl ⟨by rfl, ?_⟩) ?_ ?_
  rotate_left
  · intro w'
    go_simp
    with_reducible rfl
  rotate_left
  · simp only [Act.put, List.setIfInBounds_toArray, List.set_cons_zero, List.set_cons_succ, i64_w, i32_w]
    rfl
  refine pure_ (i := 7) (N := some 27) (v := ?_) (a' := ?_) #[false, true, true, false, false, true, false, true, false, false, false, false, false, false, false, false] rfl rfl (by kernel_rfl) (fun _ _ _ h => h) (Or.inl ⟨by rfl, ?_⟩) ?_ ?_
  rotate_left
  · intro w'
    go_simp
    with_reducible rfl
  rotate_left
  · simp only [Act.put, List.setIfInBounds_toArray, List.set_cons_zero, List.set_cons_succ, i64_w, i32_w]
    rfl
  refine pure_ (i := 8) (N := some 28) (v := ?_) (a' := ?_) #[false, true, true, false, false, true, false, true, true, false, false, false, false, false, false, false] rfl rfl (by kernel_rfl) (fun _ _ _ h => h) (Or.inl ⟨by rfl, ?_⟩) ?_ ?_
  rotate_left
  · intro w'
    go_simp
    with_reducible rfl
  rotate_left
  · simp only [Act.put, List.setIfInBounds_toArray, List.set_cons_zero, List.set_cons_succ, i64_w, i32_w]
    rfl
  refine pure_ (i := 9) (N := some 29) (v := ?_) (a' := ?_) #[false, true, true, false, false, true, false, true, true, true, false, false, false, false, false, false] rfl rfl (by kernel_rfl) (fun _ _ _ h => h) (Or.inl ⟨by rfl, ?_⟩) ?_ ?_
  rotate_left
  · intro w'
    go_simp
    with_reducible rfl
  rotate_left
  · simp only [Act.put, List.setIfInBounds_toArray, List.set_cons_zero, List.set_cons_succ, i64_w, i32_w]
    rfl
  refine take_ (i := 0) (N := some 20) (v := ?_) (a' := ?_) #[true, true, true, false, false, true, false, true, true, true, false, false, false, false, false, false] rfl rfl (by kernel_rfl) (fun _ _ _ h => h) (Or.inl ⟨by rfl, ?_⟩) hHeld ?_ ?_
  rotate_left
  · rintro w' ⟨s0, s1, s2, s3, s4, s5, s6, s7, s8, s9, s10, s11, s12, s13⟩
    go_simp
    with_reducible rfl
  rotate_left
  · simp only [Act.put, List.setIfInBounds_toArray, List.set_cons_zero, List.set_cons_succ, i64_w, i32_w]
    rfl
  refine take_ (i := 6) (N := some 26) (v := ?_) (a' := ?_) #[true, true, true, false, false, true, true, true, true, true, false, false, false, false, false, false] rfl rfl (by kernel_rfl) (fun _ _ _ h => h) (Or.inl ⟨by rfl, ?_⟩) hHeld ?_ ?_
  rotate_left
  · rintro w' ⟨s0, s1, s2, s3, s4, s5, s6, s7, s8, s9, s10, s11, s12, s13⟩
    go_simp
    with_reducible rfl
  rotate_left
  · simp only [Act.put, List.setIfInBounds_toArray, List.set_cons_zero, List.set_cons_succ, i64_w, i32_w]
    rfl
  refine join_ (σ := Nat × Nat × Array Value × Array Value × Unit) 2 #[true, true, true, true, true, true, true, true, true, true, true, true, true, true, false, false] (fun s => [(23, .agg #[.int .i64 3, .int .i64 (2 * n1), .string ⟨#[]⟩, .slice none 0 0, .slice none 0 0, .slice none 0 0]), (24, .agg s.2.2.1), (30, .agg #[.int .i64 3, .int .i64 (2 * (-1 - n1)), .string ⟨#[]⟩, .slice none 0 0, .slice none 0 0, .slice none 0 0]), (31, .agg s.2.2.2.1), (7, .pointer (some ⟨s.1, 0, none⟩)), (8, .pointer (some ⟨s.2.1, 0, none⟩))]) (fun s w' => SPR w [(V, lvc A l c, 26), (R, rc x1 B3x d3x B4x d4x B5x d5x, 30), (s.1, z7, 30), (s.2.1, z7, 30)] [(x1, rc x1 B3x d3x B4x d4x B5x d5x), (x2, s.2.2.1), (x3, s.2.2.2.1)] w') ?_ ?_
  rotate_left
  · intro hJ3_4_10_11_12_13
    refine join_ (σ := Nat × Array Value × Array Value × Unit) 3 #[true, true, true, true, true, true, true, true, true, true, true, true, true, false, false, false] (fun s => [(23, .agg #[.int .i64 3, .int .i64 (2 * n1), .string ⟨#[]⟩, .slice none 0 0, .slice none 0 0, .slice none 0 0]), (24, .agg s.2.1), (30, .agg #[.int .i64 3, .int .i64 (2 * (-1 - n1)), .string ⟨#[]⟩, .slice none 0 0, .slice none 0 0, .slice none 0 0]), (31, .agg s.2.2.1), (7, .pointer (some ⟨s.1, 0, none⟩))]) (fun s w' => SPR w [(V, lvc A l c, 26), (R, rc x1 B3x d3x B4x d4x B5x d5x, 30), (s.1, z7, 30)] [(x1, rc x1 B3x d3x B4x d4x B5x d5x), (x2, s.2.1), (x3, s.2.2.1)] w') ?_ ?_
    rotate_left
    · intro hJ3_4_10_11_12
      refine join_ (σ := Nat × Array Value × Array Value × Unit) 3 #[true, true, true, true, true, true, true, true, true, true, true, true, false, true, false, false] (fun s => [(23, .agg #[.int .i64 3, .int .i64 (2 * n1), .string ⟨#[]⟩, .slice none 0 0, .slice none 0 0, .slice none 0 0]), (24, .agg s.2.1), (30, .agg #[.int .i64 3, .int .i64 (2 * (-1 - n1)), .string ⟨#[]⟩, .slice none 0 0, .slice none 0 0, .slice none 0 0]), (31, .agg s.2.2.1), (8, .pointer (some ⟨s.1, 0, none⟩))]) (fun s w' => SPR w [(V, lvc A l c, 26), (R, rc x1 B3x d3x B4x d4x B5x d5x, 30), (s.1, z7, 30)] [(x1, rc x1 B3x d3x B4x d4x B5x d5x), (x2, s.2.1), (x3, s.2.2.1)] w') ?_ ?_
      rotate_left
      · intro hJ3_4_10_11_13
        refine join_ (σ := Nat × Nat × Array Value × Unit) 3 #[true, true, true, true, true, true, true, true, true, true, true, false, true, true, false, false] (fun s => [(23, .agg #[.int .i64 3, .int .i64 (2 * n1), .string ⟨#[]⟩, .slice none 0 0, .slice none 0 0, .slice none 0 0]), (24, .agg s.2.2.1), (30, .agg #[.int .i64 3, .int .i64 (2 * (-1 - n1)), .string ⟨#[]⟩, .slice none 0 0, .slice none 0 0, .slice none 0 0]), (7, .pointer (some ⟨s.1, 0, none⟩)), (8, .pointer (some ⟨s.2.1, 0, none⟩))]) (fun s w' => SPR w [(V, lvc A l c, 26), (R, rc x1 B3x d3x B4x d4x B5x d5x, 30), (s.1, z7, 30), (s.2.1, z7, 30)] [(x1, rc x1 B3x d3x B4x d4x B5x d5x), (x2, s.2.2.1)] w') ?_ ?_
        rotate_left
        · intro hJ3_4_10_12_13
          refine join_ (σ := Array Value × Array Value × Unit) 4 #[true, true, true, true, true, true, true, true, true, true, true, true, false, false, false, false] (fun s => [(23, .agg #[.int .i64 3, .int .i64 (2 * n1), .string ⟨#[]⟩, .slice none 0 0, .slice none 0 0, .slice none 0 0]), (24, .agg s.1), (30, .agg #[.int .i64 3, .int .i64 (2 * (-1 - n1)), .string ⟨#[]⟩, .slice none 0 0, .slice none 0 0, .slice none 0 0]), (31, .agg s.2.1)]) (fun s w' => SPR w [(V, lvc A l c, 26), (R, rc x1 B3x d3x B4x d4x B5x d5x, 30)] [(x1, rc x1 B3x d3x B4x d4x B5x d5x), (x2, s.1), (x3, s.2.1)] w') ?_ ?_
          rotate_left
          · intro hJ3_4_10_11
            refine join_ (σ := Nat × Array Value × Unit) 4 #[true, true, true, true, true, true, true, true, true, true, true, false, true, false, false, false] (fun s => [(23, .agg #[.int .i64 3, .int .i64 (2 * n1), .string ⟨#[]⟩, .slice none 0 0, .slice none 0 0, .slice none 0 0]), (24, .agg s.2.1), (30, .agg #[.int .i64 3, .int .i64 (2 * (-1 - n1)), .string ⟨#[]⟩, .slice none 0 0, .slice none 0 0, .slice none 0 0]), (7, .pointer (some ⟨s.1, 0, none⟩))]) (fun s w' => SPR w [(V, lvc A l c, 26), (R, rc x1 B3x d3x B4x d4x B5x d5x, 30), (s.1, z7, 30)] [(x1, rc x1 B3x d3x B4x d4x B5x d5x), (x2, s.2.1)] w') ?_ ?_
            rotate_left
            · intro hJ3_4_10_12
              refine join_ (σ := Nat × Array Value × Unit) 4 #[true, true, true, true, true, true, true, true, true, true, true, false, false, true, false, false] (fun s => [(23, .agg #[.int .i64 3, .int .i64 (2 * n1), .string ⟨#[]⟩, .slice none 0 0, .slice none 0 0, .slice none 0 0]), (24, .agg s.2.1), (30, .agg #[.int .i64 3, .int .i64 (2 * (-1 - n1)), .string ⟨#[]⟩, .slice none 0 0, .slice none 0 0, .slice none 0 0]), (8, .pointer (some ⟨s.1, 0, none⟩))]) (fun s w' => SPR w [(V, lvc A l c, 26), (R, rc x1 B3x d3x B4x d4x B5x d5x, 30), (s.1, z7, 30)] [(x1, rc x1 B3x d3x B4x d4x B5x d5x), (x2, s.2.1)] w') ?_ ?_
              rotate_left
              · intro hJ3_4_10_13
                refine join_ (σ := Nat × Nat × Array Value × Unit) 4 #[true, true, true, true, true, true, true, true, true, true, false, false, true, true, false, false] (fun s => [(23, .agg #[.int .i64 3, .int .i64 (2 * n1), .string ⟨#[]⟩, .slice none 0 0, .slice none 0 0, .slice none 0 0]), (24, .agg s.2.2.1), (7, .pointer (some ⟨s.1, 0, none⟩)), (8, .pointer (some ⟨s.2.1, 0, none⟩))]) (fun s w' => SPR w [(V, lvc A l c, 26), (R, rc x1 B3x d3x B4x d4x B5x d5x, 30), (s.1, z7, 30), (s.2.1, z7, 30)] [(x1, rc x1 B3x d3x B4x d4x B5x d5x), (x2, s.2.2.1)] w') ?_ ?_
                rotate_left
                · intro hJ3_4_12_13
                  refine join_ (σ := Array Value × Unit) 5 #[true, true, true, true, true, true, true, true, true, true, true, false, false, false, false, false] (fun s => [(23, .agg #[.int .i64 3, .int .i64 (2 * n1), .string ⟨#[]⟩, .slice none 0 0, .slice none 0 0, .slice none 0 0]), (24, .agg s.1), (30, .agg #[.int .i64 3, .int .i64 (2 * (-1 - n1)), .string ⟨#[]⟩, .slice none 0 0, .slice none 0 0, .slice none 0 0])]) (fun s w' => SPR w [(V, lvc A l c, 26), (R, rc x1 B3x d3x B4x d4x B5x d5x, 30)] [(x1, rc x1 B3x d3x B4x d4x B5x d5x), (x2, s.1)] w') ?_ ?_
                  rotate_left
                  · intro hJ3_4_10
                    refine join_ (σ := Nat × Array Value × Unit) 5 #[true, true, true, true, true, true, true, true, true, true, false, false, true, false, false, false] (fun s => [(23, .agg #[.int .i64 3, .int .i64 (2 * n1), .string ⟨#[]⟩, .slice none 0 0, .slice none 0 0, .slice none 0 0]), (24, .agg s.2.1), (7, .pointer (some ⟨s.1, 0, none⟩))]) (fun s w' => SPR w [(V, lvc A l c, 26), (R, rc x1 B3x d3x B4x d4x B5x d5x, 30), (s.1, z7, 30)] [(x1, rc x1 B3x d3x B4x d4x B5x d5x), (x2, s.2.1)] w') ?_ ?_
                    rotate_left
                    · intro hJ3_4_12
                      refine join_ (σ := Nat × Array Value × Unit) 5 #[true, true, true, true, true, true, true, true, true, true, false, false, false, true, false, false] (fun s => [(23, .agg #[.int .i64 3, .int .i64 (2 * n1), .string ⟨#[]⟩, .slice none 0 0, .slice none 0 0, .slice none 0 0]), (24, .agg s.2.1), (8, .pointer (some ⟨s.1, 0, none⟩))]) (fun s w' => SPR w [(V, lvc A l c, 26), (R, rc x1 B3x d3x B4x d4x B5x d5x, 30), (s.1, z7, 30)] [(x1, rc x1 B3x d3x B4x d4x B5x d5x), (x2, s.2.1)] w') ?_ ?_
                      rotate_left
                      · intro hJ3_4_13
                        refine join_ (σ := Nat × Nat × Unit) 5 #[true, true, true, true, false, true, true, true, true, true, false, false, true, true, false, false] (fun s => [(23, .agg #[.int .i64 3, .int .i64 (2 * n1), .string ⟨#[]⟩, .slice none 0 0, .slice none 0 0, .slice none 0 0]), (7, .pointer (some ⟨s.1, 0, none⟩)), (8, .pointer (some ⟨s.2.1, 0, none⟩))]) (fun s w' => SPR w [(V, lvc A l c, 26), (R, rc x1 B3x d3x B4x d4x B5x d5x, 30), (s.1, z7, 30), (s.2.1, z7, 30)] [(x1, rc x1 B3x d3x B4x d4x B5x d5x)] w') ?_ ?_
                        rotate_left
                        · intro hJ3_12_13
                          refine join_ (σ := Array Value × Unit) 6 #[true, true, true, true, true, true, true, true, true, true, false, false, false, false, false, false] (fun s => [(23, .agg #[.int .i64 3, .int .i64 (2 * n1), .string ⟨#[]⟩, .slice none 0 0, .slice none 0 0, .slice none 0 0]), (24, .agg s.1)]) (fun s w' => SPR w [(V, lvc A l c, 26), (R, rc x1 B3x d3x B4x d4x B5x d5x, 30)] [(x1, rc x1 B3x d3x B4x d4x B5x d5x), (x2, s.1)] w') ?_ ?_
                          rotate_left
                          · intro hJ3_4
                            refine join_ (σ := Nat × Unit) 6 #[true, true, true, true, false, true, true, true, true, true, false, false, true, false, false, false] (fun s => [(23, .agg #[.int .i64 3, .int .i64 (2 * n1), .string ⟨#[]⟩, .slice none 0 0, .slice none 0 0, .slice none 0 0]), (7, .pointer (some ⟨s.1, 0, none⟩))]) (fun s w' => SPR w [(V, lvc A l c, 26), (R, rc x1 B3x d3x B4x d4x B5x d5x, 30), (s.1, z7, 30)] [(x1, rc x1 B3x d3x B4x d4x B5x d5x)] w') ?_ ?_
                            rotate_left
                            · intro hJ3_12
                              refine join_ (σ := Nat × Unit) 6 #[true, true, true, true, false, true, true, true, true, true, false, false, false, true, false, false] (fun s => [(23, .agg #[.int .i64 3, .int .i64 (2 * n1), .string ⟨#[]⟩, .slice none 0 0, .slice none 0 0, .slice none 0 0]), (8, .pointer (some ⟨s.1, 0, none⟩))]) (fun s w' => SPR w [(V, lvc A l c, 26), (R, rc x1 B3x d3x B4x d4x B5x d5x, 30), (s.1, z7, 30)] [(x1, rc x1 B3x d3x B4x d4x B5x d5x)] w') ?_ ?_
                              rotate_left
                              · intro hJ3_13
                                refine join_ (σ := Nat × Nat × Unit) 6 #[true, true, true, false, false, true, true, true, true, true, false, false, true, true, false, false] (fun s => [(7, .pointer (some ⟨s.1, 0, none⟩)), (8, .pointer (some ⟨s.2.1, 0, none⟩))]) (fun s w' => SPR w [(V, lvc A l c, 26), (R, rc x1 B3x d3x B4x d4x B5x d5x, 30), (s.1, z7, 30), (s.2.1, z7, 30)] [(x1, rc x1 B3x d3x B4x d4x B5x d5x)] w') ?_ ?_
                                rotate_left
                                · intro hJ12_13
                                  refine join_ (σ := Unit) 7 #[true, true, true, true, false, true, true, true, true, true, false, false, false, false, false, false] (fun s => [(23, .agg #[.int .i64 3, .int .i64 (2 * n1), .string ⟨#[]⟩, .slice none 0 0, .slice none 0 0, .slice none 0 0])]) (fun s w' => SPR w [(V, lvc A l c, 26), (R, rc x1 B3x d3x B4x d4x B5x d5x, 30)] [(x1, rc x1 B3x d3x B4x d4x B5x d5x)] w') ?_ ?_
                                  rotate_left
                                  · intro hJ3
                                    refine join_ (σ := Nat × Unit) 7 #[true, true, true, false, false, true, true, true, true, true, false, false, true, false, false, false] (fun s => [(7, .pointer (some ⟨s.1, 0, none⟩))]) (fun s w' => SPR w [(V, lvc A l c, 26), (R, rc x1 B3x d3x B4x d4x B5x d5x, 30), (s.1, z7, 30)] [(x1, rc x1 B3x d3x B4x d4x B5x d5x)] w') ?_ ?_
                                    rotate_left
                                    · intro hJ12
                                      refine join_ (σ := Nat × Unit) 7 #[true, true, true, false, false, true, true, true, true, true, false, false, false, true, false, false] (fun s => [(8, .pointer (some ⟨s.1, 0, none⟩))]) (fun s w' => SPR w [(V, lvc A l c, 26), (R, rc x1 B3x d3x B4x d4x B5x d5x, 30), (s.1, z7, 30)] [(x1, rc x1 B3x d3x B4x d4x B5x d5x)] w') ?_ ?_
                                      rotate_left
                                      · intro hJ13
                                        refine three_ (i := 3) (j := 12) (k := 13) (Ni := some 23) (Nj := some 7) (Nk := some 8) #[true, true, true, true, false, true, true, true, true, true, false, false, false, false, false, false] #[true, true, true, false, false, true, true, true, true, true, false, false, true, false, false, false] #[true, true, true, false, false, true, true, true, true, true, false, false, false, true, false, false] rfl rfl rfl rfl rfl rfl (by kernel_rfl) (by decide) (by decide) (by decide) (fun K hK => ?_) (fun K hK => ?_) (fun K hK => ?_)
                                        · skip
                                          refine goes_ Tryz.func34 (by kernel_rfl) rfl #[.int .i64 (wrap64 n1)] (by rfl) rfl rfl (by simp only [List.map_toArray, List.map_cons, List.map_nil]; rfl) ?_
                                          with_reducible refine ((HN1.out _)).mono ?_
                                          rintro e wz ⟨rfl, hb⟩
                                          refine ⟨_, rfl, ?_⟩
                                          have hz := SPR.below (hHeld.2.2.2.2.2.2.2.2.2.2.2.2.2) hb
                                          have hzb : SPR w [(V, lvc A l c, 26), (R, rc x1 B3x d3x B4x d4x B5x d5x, 30)] [(x1, rc x1 B3x d3x B4x d4x B5x d5x)] wz := SPR.tk 2 1 hz
                                          refine hK.out _ _ (HS _ hzb) (fun hHeld => ?_)
                                          clear hK K
                                          refine norm_ (a' := ?_) ?_ ?_
                                          rotate_left
                                          · show Act.put _ (some 23) _ = _
                                            simp only [Act.put, List.setIfInBounds_toArray, List.set_cons_zero, List.set_cons_succ, i64_w, i32_w]
                                            rfl
                                          exact norm_ (by first | (simp only [putAll, Act.put, List.setIfInBounds_toArray, List.set_cons_zero, List.set_cons_succ]; done) | (simp only [putAll, Act.put, List.setIfInBounds_toArray, List.set_cons_zero, List.set_cons_succ]; rfl)) (hJ3 (()) _ hz)
                                        · skip
                                          refine freshR_ (c := #[.int .i64 0, .int .i64 0, .string ⟨#[]⟩, .slice none 0 0, .slice none 0 0, .slice none 0 0, .int .i64 0]) (t := 30) (hHeld.2.2.2.2.2.2.2.2.2.2.2.2.2) (by rfl) rfl ?_ ?_
                                          · first | (go_simp; done) | (go_simp; rfl)
                                          intro R12 wz hz
                                          have hzb : SPR w [(V, lvc A l c, 26), (R, rc x1 B3x d3x B4x d4x B5x d5x, 30)] [(x1, rc x1 B3x d3x B4x d4x B5x d5x)] wz := SPR.tk 2 1 hz
                                          refine hK.out _ _ (HS _ hzb) (fun hHeld => ?_)
                                          clear hK K
                                          refine norm_ (a' := ?_) ?_ ?_
                                          rotate_left
                                          · show Act.put _ (some 7) _ = _
                                            simp only [Act.put, List.setIfInBounds_toArray, List.set_cons_zero, List.set_cons_succ, i64_w, i32_w]
                                            rfl
                                          exact norm_ (by first | (simp only [putAll, Act.put, List.setIfInBounds_toArray, List.set_cons_zero, List.set_cons_succ]; done) | (simp only [putAll, Act.put, List.setIfInBounds_toArray, List.set_cons_zero, List.set_cons_succ]; rfl)) (hJ12 (R12, ()) _ hz)
                                        · skip
                                          refine freshR_ (c := #[.int .i64 0, .int .i64 0, .string ⟨#[]⟩, .slice none 0 0, .slice none 0 0, .slice none 0 0, .int .i64 0]) (t := 30) (hHeld.2.2.2.2.2.2.2.2.2.2.2.2.2) (by rfl) rfl ?_ ?_
                                          · first | (go_simp; done) | (go_simp; rfl)
                                          intro R13 wz hz
                                          have hzb : SPR w [(V, lvc A l c, 26), (R, rc x1 B3x d3x B4x d4x B5x d5x, 30)] [(x1, rc x1 B3x d3x B4x d4x B5x d5x)] wz := SPR.tk 2 1 hz
                                          refine hK.out _ _ (HS _ hzb) (fun hHeld => ?_)
                                          clear hK K
                                          refine norm_ (a' := ?_) ?_ ?_
                                          rotate_left
                                          · show Act.put _ (some 8) _ = _
                                            simp only [Act.put, List.setIfInBounds_toArray, List.set_cons_zero, List.set_cons_succ, i64_w, i32_w]
                                            rfl
                                          exact norm_ (by first | (simp only [putAll, Act.put, List.setIfInBounds_toArray, List.set_cons_zero, List.set_cons_succ]; done) | (simp only [putAll, Act.put, List.setIfInBounds_toArray, List.set_cons_zero, List.set_cons_succ]; rfl)) (hJ13 (R13, ()) _ hz)
                                      · skip
                                        rintro ⟨R13, _⟩ w' hF
                                        change SPR w [(V, lvc A l c, 26), (R, rc x1 B3x d3x B4x d4x B5x d5x, 30), (R13, z7, 30)] [(x1, rc x1 B3x d3x B4x d4x B5x d5x)] w' at hF
                                        have hFb : SPR w [(V, lvc A l c, 26), (R, rc x1 B3x d3x B4x d4x B5x d5x, 30)] [(x1, rc x1 B3x d3x B4x d4x B5x d5x)] w' := SPR.tk 2 1 hF
                                        have hHeld : w'.cell? ⟨V, 0, none⟩ = some (.int .i64 5) ∧ w'.cell? ⟨V, 1, none⟩ = some (.int .i64 0) ∧ w'.cell? ⟨V, 2, none⟩ = some (.string ⟨#[]⟩) ∧ w'.cell? ⟨V, 3, none⟩ = some (.slice A l.length c) ∧ w'.cell? ⟨V, 4, none⟩ = some (.slice none 0 0) ∧ w'.cell? ⟨V, 5, none⟩ = some (.slice none 0 0) ∧ w'.cell? ⟨R, 0, none⟩ = some (.int .i64 x1.f0) ∧ w'.cell? ⟨R, 1, none⟩ = some (.int .i64 x1.f1) ∧ w'.cell? ⟨R, 2, none⟩ = some (.string x1.f2) ∧ w'.cell? ⟨R, 3, none⟩ = some (.slice B3x x1.f3.length d3x) ∧ w'.cell? ⟨R, 4, none⟩ = some (.slice B4x x1.f4.length d4x) ∧ w'.cell? ⟨R, 5, none⟩ = some (.slice B5x x1.f5.length d5x) ∧ w'.cell? ⟨R, 6, none⟩ = some (.int .i64 0) ∧ SPR w [(V, lvc A l c, 26), (R, rc x1 B3x d3x B4x d4x B5x d5x, 30)] [(x1, rc x1 B3x d3x B4x d4x B5x d5x)] w' := (HS _ hFb)
                                        clear hFb
                                        refine norm_ (a' := ?_) ?_ ?_
                                        rotate_left
                                        · simp only [putAll, Act.put, List.setIfInBounds_toArray, List.set_cons_zero, List.set_cons_succ]
                                          rfl
                                        refine two_ (i := 3) (j := 12) (Ni := some 23) (Nj := some 7) #[true, true, true, true, false, true, true, true, true, true, false, false, false, true, false, false] #[true, true, true, false, false, true, true, true, true, true, false, false, true, true, false, false] rfl rfl rfl rfl (by kernel_rfl) (by decide) (by decide) (fun K hK => ?_) (fun K hK => ?_)
                                        · skip
                                          refine goes_ Tryz.func34 (by kernel_rfl) rfl #[.int .i64 (wrap64 n1)] (by rfl) rfl rfl (by simp only [List.map_toArray, List.map_cons, List.map_nil]; rfl) ?_
                                          with_reducible refine ((HN1.out _)).mono ?_
                                          rintro e wz ⟨rfl, hb⟩
                                          refine ⟨_, rfl, ?_⟩
                                          have hz := SPR.below (hF) hb
                                          have hzb : SPR w [(V, lvc A l c, 26), (R, rc x1 B3x d3x B4x d4x B5x d5x, 30)] [(x1, rc x1 B3x d3x B4x d4x B5x d5x)] wz := SPR.tk 2 1 hz
                                          refine hK.out _ _ (HS _ hzb) (fun hHeld => ?_)
                                          clear hK K
                                          refine norm_ (a' := ?_) ?_ ?_
                                          rotate_left
                                          · show Act.put _ (some 23) _ = _
                                            simp only [Act.put, List.setIfInBounds_toArray, List.set_cons_zero, List.set_cons_succ, i64_w, i32_w]
                                            rfl
                                          exact norm_ (by first | (simp only [putAll, Act.put, List.setIfInBounds_toArray, List.set_cons_zero, List.set_cons_succ]; done) | (simp only [putAll, Act.put, List.setIfInBounds_toArray, List.set_cons_zero, List.set_cons_succ]; rfl)) (hJ3_13 (R13, ()) _ hz)
                                        · skip
                                          refine freshR_ (c := #[.int .i64 0, .int .i64 0, .string ⟨#[]⟩, .slice none 0 0, .slice none 0 0, .slice none 0 0, .int .i64 0]) (t := 30) (hF) (by rfl) rfl ?_ ?_
                                          · first | (go_simp; done) | (go_simp; rfl)
                                          intro R12 wz hz
                                          have hzb : SPR w [(V, lvc A l c, 26), (R, rc x1 B3x d3x B4x d4x B5x d5x, 30)] [(x1, rc x1 B3x d3x B4x d4x B5x d5x)] wz := SPR.tk 2 1 hz
                                          refine hK.out _ _ (HS _ hzb) (fun hHeld => ?_)
                                          clear hK K
                                          refine norm_ (a' := ?_) ?_ ?_
                                          rotate_left
                                          · show Act.put _ (some 7) _ = _
                                            simp only [Act.put, List.setIfInBounds_toArray, List.set_cons_zero, List.set_cons_succ, i64_w, i32_w]
                                            rfl
                                          exact norm_ (by first | (simp only [putAll, Act.put, List.setIfInBounds_toArray, List.set_cons_zero, List.set_cons_succ]; done) | (simp only [putAll, Act.put, List.setIfInBounds_toArray, List.set_cons_zero, List.set_cons_succ]; rfl)) (hJ12_13 (R12, R13, ()) _ (SPR.prm hz (.cons _ (.cons _ (.swap _ _ _)))))
                                    · skip
                                      rintro ⟨R12, _⟩ w' hF
                                      change SPR w [(V, lvc A l c, 26), (R, rc x1 B3x d3x B4x d4x B5x d5x, 30), (R12, z7, 30)] [(x1, rc x1 B3x d3x B4x d4x B5x d5x)] w' at hF
                                      have hFb : SPR w [(V, lvc A l c, 26), (R, rc x1 B3x d3x B4x d4x B5x d5x, 30)] [(x1, rc x1 B3x d3x B4x d4x B5x d5x)] w' := SPR.tk 2 1 hF
                                      have hHeld : w'.cell? ⟨V, 0, none⟩ = some (.int .i64 5) ∧ w'.cell? ⟨V, 1, none⟩ = some (.int .i64 0) ∧ w'.cell? ⟨V, 2, none⟩ = some (.string ⟨#[]⟩) ∧ w'.cell? ⟨V, 3, none⟩ = some (.slice A l.length c) ∧ w'.cell? ⟨V, 4, none⟩ = some (.slice none 0 0) ∧ w'.cell? ⟨V, 5, none⟩ = some (.slice none 0 0) ∧ w'.cell? ⟨R, 0, none⟩ = some (.int .i64 x1.f0) ∧ w'.cell? ⟨R, 1, none⟩ = some (.int .i64 x1.f1) ∧ w'.cell? ⟨R, 2, none⟩ = some (.string x1.f2) ∧ w'.cell? ⟨R, 3, none⟩ = some (.slice B3x x1.f3.length d3x) ∧ w'.cell? ⟨R, 4, none⟩ = some (.slice B4x x1.f4.length d4x) ∧ w'.cell? ⟨R, 5, none⟩ = some (.slice B5x x1.f5.length d5x) ∧ w'.cell? ⟨R, 6, none⟩ = some (.int .i64 0) ∧ SPR w [(V, lvc A l c, 26), (R, rc x1 B3x d3x B4x d4x B5x d5x, 30)] [(x1, rc x1 B3x d3x B4x d4x B5x d5x)] w' := (HS _ hFb)
                                      clear hFb
                                      refine norm_ (a' := ?_) ?_ ?_
                                      rotate_left
                                      · simp only [putAll, Act.put, List.setIfInBounds_toArray, List.set_cons_zero, List.set_cons_succ]
                                        rfl
                                      refine two_ (i := 3) (j := 13) (Ni := some 23) (Nj := some 8) #[true, true, true, true, false, true, true, true, true, true, false, false, true, false, false, false] #[true, true, true, false, false, true, true, true, true, true, false, false, true, true, false, false] rfl rfl rfl rfl (by kernel_rfl) (by decide) (by decide) (fun K hK => ?_) (fun K hK => ?_)
                                      · skip
                                        refine goes_ Tryz.func34 (by kernel_rfl) rfl #[.int .i64 (wrap64 n1)] (by rfl) rfl rfl (by simp only [List.map_toArray, List.map_cons, List.map_nil]; rfl) ?_
                                        with_reducible refine ((HN1.out _)).mono ?_
                                        rintro e wz ⟨rfl, hb⟩
                                        refine ⟨_, rfl, ?_⟩
                                        have hz := SPR.below (hF) hb
                                        have hzb : SPR w [(V, lvc A l c, 26), (R, rc x1 B3x d3x B4x d4x B5x d5x, 30)] [(x1, rc x1 B3x d3x B4x d4x B5x d5x)] wz := SPR.tk 2 1 hz
                                        refine hK.out _ _ (HS _ hzb) (fun hHeld => ?_)
                                        clear hK K
                                        refine norm_ (a' := ?_) ?_ ?_
                                        rotate_left
                                        · show Act.put _ (some 23) _ = _
                                          simp only [Act.put, List.setIfInBounds_toArray, List.set_cons_zero, List.set_cons_succ, i64_w, i32_w]
                                          rfl
                                        exact norm_ (by first | (simp only [putAll, Act.put, List.setIfInBounds_toArray, List.set_cons_zero, List.set_cons_succ]; done) | (simp only [putAll, Act.put, List.setIfInBounds_toArray, List.set_cons_zero, List.set_cons_succ]; rfl)) (hJ3_12 (R12, ()) _ hz)
                                      · skip
                                        refine freshR_ (c := #[.int .i64 0, .int .i64 0, .string ⟨#[]⟩, .slice none 0 0, .slice none 0 0, .slice none 0 0, .int .i64 0]) (t := 30) (hF) (by rfl) rfl ?_ ?_
                                        · first | (go_simp; done) | (go_simp; rfl)
                                        intro R13 wz hz
                                        have hzb : SPR w [(V, lvc A l c, 26), (R, rc x1 B3x d3x B4x d4x B5x d5x, 30)] [(x1, rc x1 B3x d3x B4x d4x B5x d5x)] wz := SPR.tk 2 1 hz
                                        refine hK.out _ _ (HS _ hzb) (fun hHeld => ?_)
                                        clear hK K
                                        refine norm_ (a' := ?_) ?_ ?_
                                        rotate_left
                                        · show Act.put _ (some 8) _ = _
                                          simp only [Act.put, List.setIfInBounds_toArray, List.set_cons_zero, List.set_cons_succ, i64_w, i32_w]
                                          rfl
                                        exact norm_ (by first | (simp only [putAll, Act.put, List.setIfInBounds_toArray, List.set_cons_zero, List.set_cons_succ]; done) | (simp only [putAll, Act.put, List.setIfInBounds_toArray, List.set_cons_zero, List.set_cons_succ]; rfl)) (hJ12_13 (R12, R13, ()) _ hz)
                                  · skip
                                    rintro ⟨_⟩ w' hF
                                    change SPR w [(V, lvc A l c, 26), (R, rc x1 B3x d3x B4x d4x B5x d5x, 30)] [(x1, rc x1 B3x d3x B4x d4x B5x d5x)] w' at hF
                                    have hFb : SPR w [(V, lvc A l c, 26), (R, rc x1 B3x d3x B4x d4x B5x d5x, 30)] [(x1, rc x1 B3x d3x B4x d4x B5x d5x)] w' := SPR.tk 2 1 hF
                                    have hHeld : w'.cell? ⟨V, 0, none⟩ = some (.int .i64 5) ∧ w'.cell? ⟨V, 1, none⟩ = some (.int .i64 0) ∧ w'.cell? ⟨V, 2, none⟩ = some (.string ⟨#[]⟩) ∧ w'.cell? ⟨V, 3, none⟩ = some (.slice A l.length c) ∧ w'.cell? ⟨V, 4, none⟩ = some (.slice none 0 0) ∧ w'.cell? ⟨V, 5, none⟩ = some (.slice none 0 0) ∧ w'.cell? ⟨R, 0, none⟩ = some (.int .i64 x1.f0) ∧ w'.cell? ⟨R, 1, none⟩ = some (.int .i64 x1.f1) ∧ w'.cell? ⟨R, 2, none⟩ = some (.string x1.f2) ∧ w'.cell? ⟨R, 3, none⟩ = some (.slice B3x x1.f3.length d3x) ∧ w'.cell? ⟨R, 4, none⟩ = some (.slice B4x x1.f4.length d4x) ∧ w'.cell? ⟨R, 5, none⟩ = some (.slice B5x x1.f5.length d5x) ∧ w'.cell? ⟨R, 6, none⟩ = some (.int .i64 0) ∧ SPR w [(V, lvc A l c, 26), (R, rc x1 B3x d3x B4x d4x B5x d5x, 30)] [(x1, rc x1 B3x d3x B4x d4x B5x d5x)] w' := (HS _ hFb)
                                    clear hFb
                                    refine norm_ (a' := ?_) ?_ ?_
                                    rotate_left
                                    · simp only [putAll, Act.put, List.setIfInBounds_toArray, List.set_cons_zero, List.set_cons_succ]
                                      rfl
                                    refine three_ (i := 4) (j := 12) (k := 13) (Ni := some 24) (Nj := some 7) (Nk := some 8) #[true, true, true, true, true, true, true, true, true, true, false, false, false, false, false, false] #[true, true, true, true, false, true, true, true, true, true, false, false, true, false, false, false] #[true, true, true, true, false, true, true, true, true, true, false, false, false, true, false, false] rfl rfl rfl rfl rfl rfl (by kernel_rfl) (by decide) (by decide) (by decide) (fun K hK => ?_) (fun K hK => ?_) (fun K hK => ?_)
                                    · skip
                                      refine goes_ Tryz.func38 (by kernel_rfl) rfl #[.agg #[.int .i64 5, .int .i64 0, .string ⟨#[]⟩, .slice A l.length c, .slice none 0 0, .slice none 0 0], .agg #[.int .i64 3, .int .i64 (2 * n1), .string ⟨#[]⟩, .slice none 0 0, .slice none 0 0, .slice none 0 0]] (by rfl) rfl rfl (by simp only [List.map_toArray, List.map_cons, List.map_nil]; rfl) ?_
                                      with_reducible refine ((HIX.out _ _ _ (hF))).mono ?_
                                      rintro e wz ⟨u4, rfl, hz⟩
                                      refine ⟨_, rfl, ?_⟩
                                      have hzb : SPR w [(V, lvc A l c, 26), (R, rc x1 B3x d3x B4x d4x B5x d5x, 30)] [(x1, rc x1 B3x d3x B4x d4x B5x d5x)] wz := SPR.tk 2 1 hz
                                      refine hK.out _ _ (HS _ hzb) (fun hHeld => ?_)
                                      clear hK K
                                      refine norm_ (a' := ?_) ?_ ?_
                                      rotate_left
                                      · show Act.put _ (some 24) _ = _
                                        simp only [Act.put, List.setIfInBounds_toArray, List.set_cons_zero, List.set_cons_succ, i64_w, i32_w]
                                        rfl
                                      exact norm_ (by first | (simp only [putAll, Act.put, List.setIfInBounds_toArray, List.set_cons_zero, List.set_cons_succ]; done) | (simp only [putAll, Act.put, List.setIfInBounds_toArray, List.set_cons_zero, List.set_cons_succ]; rfl)) (hJ3_4 (u4, ()) _ hz)
                                    · skip
                                      refine freshR_ (c := #[.int .i64 0, .int .i64 0, .string ⟨#[]⟩, .slice none 0 0, .slice none 0 0, .slice none 0 0, .int .i64 0]) (t := 30) (hF) (by rfl) rfl ?_ ?_
                                      · first | (go_simp; done) | (go_simp; rfl)
                                      intro R12 wz hz
                                      have hzb : SPR w [(V, lvc A l c, 26), (R, rc x1 B3x d3x B4x d4x B5x d5x, 30)] [(x1, rc x1 B3x d3x B4x d4x B5x d5x)] wz := SPR.tk 2 1 hz
                                      refine hK.out _ _ (HS _ hzb) (fun hHeld => ?_)
                                      clear hK K
                                      refine norm_ (a' := ?_) ?_ ?_
                                      rotate_left
                                      · show Act.put _ (some 7) _ = _
                                        simp only [Act.put, List.setIfInBounds_toArray, List.set_cons_zero, List.set_cons_succ, i64_w, i32_w]
                                        rfl
                                      exact norm_ (by first | (simp only [putAll, Act.put, List.setIfInBounds_toArray, List.set_cons_zero, List.set_cons_succ]; done) | (simp only [putAll, Act.put, List.setIfInBounds_toArray, List.set_cons_zero, List.set_cons_succ]; rfl)) (hJ3_12 (R12, ()) _ hz)
                                    · skip
                                      refine freshR_ (c := #[.int .i64 0, .int .i64 0, .string ⟨#[]⟩, .slice none 0 0, .slice none 0 0, .slice none 0 0, .int .i64 0]) (t := 30) (hF) (by rfl) rfl ?_ ?_
                                      · first | (go_simp; done) | (go_simp; rfl)
                                      intro R13 wz hz
                                      have hzb : SPR w [(V, lvc A l c, 26), (R, rc x1 B3x d3x B4x d4x B5x d5x, 30)] [(x1, rc x1 B3x d3x B4x d4x B5x d5x)] wz := SPR.tk 2 1 hz
                                      refine hK.out _ _ (HS _ hzb) (fun hHeld => ?_)
                                      clear hK K
                                      refine norm_ (a' := ?_) ?_ ?_
                                      rotate_left
                                      · show Act.put _ (some 8) _ = _
                                        simp only [Act.put, List.setIfInBounds_toArray, List.set_cons_zero, List.set_cons_succ, i64_w, i32_w]
                                        rfl
                                      exact norm_ (by first | (simp only [putAll, Act.put, List.setIfInBounds_toArray, List.set_cons_zero, List.set_cons_succ]; done) | (simp only [putAll, Act.put, List.setIfInBounds_toArray, List.set_cons_zero, List.set_cons_succ]; rfl)) (hJ3_13 (R13, ()) _ hz)
                                · skip
                                  rintro ⟨R12, R13, _⟩ w' hF
                                  change SPR w [(V, lvc A l c, 26), (R, rc x1 B3x d3x B4x d4x B5x d5x, 30), (R12, z7, 30), (R13, z7, 30)] [(x1, rc x1 B3x d3x B4x d4x B5x d5x)] w' at hF
                                  have hFb : SPR w [(V, lvc A l c, 26), (R, rc x1 B3x d3x B4x d4x B5x d5x, 30)] [(x1, rc x1 B3x d3x B4x d4x B5x d5x)] w' := SPR.tk 2 1 hF
                                  have hHeld : w'.cell? ⟨V, 0, none⟩ = some (.int .i64 5) ∧ w'.cell? ⟨V, 1, none⟩ = some (.int .i64 0) ∧ w'.cell? ⟨V, 2, none⟩ = some (.string ⟨#[]⟩) ∧ w'.cell? ⟨V, 3, none⟩ = some (.slice A l.length c) ∧ w'.cell? ⟨V, 4, none⟩ = some (.slice none 0 0) ∧ w'.cell? ⟨V, 5, none⟩ = some (.slice none 0 0) ∧ w'.cell? ⟨R, 0, none⟩ = some (.int .i64 x1.f0) ∧ w'.cell? ⟨R, 1, none⟩ = some (.int .i64 x1.f1) ∧ w'.cell? ⟨R, 2, none⟩ = some (.string x1.f2) ∧ w'.cell? ⟨R, 3, none⟩ = some (.slice B3x x1.f3.length d3x) ∧ w'.cell? ⟨R, 4, none⟩ = some (.slice B4x x1.f4.length d4x) ∧ w'.cell? ⟨R, 5, none⟩ = some (.slice B5x x1.f5.length d5x) ∧ w'.cell? ⟨R, 6, none⟩ = some (.int .i64 0) ∧ SPR w [(V, lvc A l c, 26), (R, rc x1 B3x d3x B4x d4x B5x d5x, 30)] [(x1, rc x1 B3x d3x B4x d4x B5x d5x)] w' := (HS _ hFb)
                                  clear hFb
                                  refine norm_ (a' := ?_) ?_ ?_
                                  rotate_left
                                  · simp only [putAll, Act.put, List.setIfInBounds_toArray, List.set_cons_zero, List.set_cons_succ]
                                    rfl
                                  refine one_ (i := 3) (N := some 23) #[true, true, true, true, false, true, true, true, true, true, false, false, true, true, false, false] rfl rfl (by kernel_rfl) (by decide) (fun K hK => ?_)
                                  refine goes_ Tryz.func34 (by kernel_rfl) rfl #[.int .i64 (wrap64 n1)] (by rfl) rfl rfl (by simp only [List.map_toArray, List.map_cons, List.map_nil]; rfl) ?_
                                  with_reducible refine ((HN1.out _)).mono ?_
                                  rintro e wz ⟨rfl, hb⟩
                                  refine ⟨_, rfl, ?_⟩
                                  have hz := SPR.below (hF) hb
                                  have hzb : SPR w [(V, lvc A l c, 26), (R, rc x1 B3x d3x B4x d4x B5x d5x, 30)] [(x1, rc x1 B3x d3x B4x d4x B5x d5x)] wz := SPR.tk 2 1 hz
                                  refine hK.out _ _ (HS _ hzb) (fun hHeld => ?_)
                                  clear hK K
                                  refine norm_ (a' := ?_) ?_ ?_
                                  rotate_left
                                  · show Act.put _ (some 23) _ = _
                                    simp only [Act.put, List.setIfInBounds_toArray, List.set_cons_zero, List.set_cons_succ, i64_w, i32_w]
                                    rfl
                                  exact norm_ (by first | (simp only [putAll, Act.put, List.setIfInBounds_toArray, List.set_cons_zero, List.set_cons_succ]; done) | (simp only [putAll, Act.put, List.setIfInBounds_toArray, List.set_cons_zero, List.set_cons_succ]; rfl)) (hJ3_12_13 (R12, R13, ()) _ hz)
                              · skip
                                rintro ⟨R13, _⟩ w' hF
                                change SPR w [(V, lvc A l c, 26), (R, rc x1 B3x d3x B4x d4x B5x d5x, 30), (R13, z7, 30)] [(x1, rc x1 B3x d3x B4x d4x B5x d5x)] w' at hF
                                have hFb : SPR w [(V, lvc A l c, 26), (R, rc x1 B3x d3x B4x d4x B5x d5x, 30)] [(x1, rc x1 B3x d3x B4x d4x B5x d5x)] w' := SPR.tk 2 1 hF
                                have hHeld : w'.cell? ⟨V, 0, none⟩ = some (.int .i64 5) ∧ w'.cell? ⟨V, 1, none⟩ = some (.int .i64 0) ∧ w'.cell? ⟨V, 2, none⟩ = some (.string ⟨#[]⟩) ∧ w'.cell? ⟨V, 3, none⟩ = some (.slice A l.length c) ∧ w'.cell? ⟨V, 4, none⟩ = some (.slice none 0 0) ∧ w'.cell? ⟨V, 5, none⟩ = some (.slice none 0 0) ∧ w'.cell? ⟨R, 0, none⟩ = some (.int .i64 x1.f0) ∧ w'.cell? ⟨R, 1, none⟩ = some (.int .i64 x1.f1) ∧ w'.cell? ⟨R, 2, none⟩ = some (.string x1.f2) ∧ w'.cell? ⟨R, 3, none⟩ = some (.slice B3x x1.f3.length d3x) ∧ w'.cell? ⟨R, 4, none⟩ = some (.slice B4x x1.f4.length d4x) ∧ w'.cell? ⟨R, 5, none⟩ = some (.slice B5x x1.f5.length d5x) ∧ w'.cell? ⟨R, 6, none⟩ = some (.int .i64 0) ∧ SPR w [(V, lvc A l c, 26), (R, rc x1 B3x d3x B4x d4x B5x d5x, 30)] [(x1, rc x1 B3x d3x B4x d4x B5x d5x)] w' := (HS _ hFb)
                                clear hFb
                                refine norm_ (a' := ?_) ?_ ?_
                                rotate_left
                                · simp only [putAll, Act.put, List.setIfInBounds_toArray, List.set_cons_zero, List.set_cons_succ]
                                  rfl
                                refine two_ (i := 4) (j := 12) (Ni := some 24) (Nj := some 7) #[true, true, true, true, true, true, true, true, true, true, false, false, false, true, false, false] #[true, true, true, true, false, true, true, true, true, true, false, false, true, true, false, false] rfl rfl rfl rfl (by kernel_rfl) (by decide) (by decide) (fun K hK => ?_) (fun K hK => ?_)
                                · skip
                                  refine goes_ Tryz.func38 (by kernel_rfl) rfl #[.agg #[.int .i64 5, .int .i64 0, .string ⟨#[]⟩, .slice A l.length c, .slice none 0 0, .slice none 0 0], .agg #[.int .i64 3, .int .i64 (2 * n1), .string ⟨#[]⟩, .slice none 0 0, .slice none 0 0, .slice none 0 0]] (by rfl) rfl rfl (by simp only [List.map_toArray, List.map_cons, List.map_nil]; rfl) ?_
                                  with_reducible refine ((HIX.out _ _ _ (hF))).mono ?_
                                  rintro e wz ⟨u4, rfl, hz⟩
                                  refine ⟨_, rfl, ?_⟩
                                  have hzb : SPR w [(V, lvc A l c, 26), (R, rc x1 B3x d3x B4x d4x B5x d5x, 30)] [(x1, rc x1 B3x d3x B4x d4x B5x d5x)] wz := SPR.tk 2 1 hz
                                  refine hK.out _ _ (HS _ hzb) (fun hHeld => ?_)
                                  clear hK K
                                  refine norm_ (a' := ?_) ?_ ?_
                                  rotate_left
                                  · show Act.put _ (some 24) _ = _
                                    simp only [Act.put, List.setIfInBounds_toArray, List.set_cons_zero, List.set_cons_succ, i64_w, i32_w]
                                    rfl
                                  exact norm_ (by first | (simp only [putAll, Act.put, List.setIfInBounds_toArray, List.set_cons_zero, List.set_cons_succ]; done) | (simp only [putAll, Act.put, List.setIfInBounds_toArray, List.set_cons_zero, List.set_cons_succ]; rfl)) (hJ3_4_13 (R13, u4, ()) _ hz)
                                · skip
                                  refine freshR_ (c := #[.int .i64 0, .int .i64 0, .string ⟨#[]⟩, .slice none 0 0, .slice none 0 0, .slice none 0 0, .int .i64 0]) (t := 30) (hF) (by rfl) rfl ?_ ?_
                                  · first | (go_simp; done) | (go_simp; rfl)
                                  intro R12 wz hz
                                  have hzb : SPR w [(V, lvc A l c, 26), (R, rc x1 B3x d3x B4x d4x B5x d5x, 30)] [(x1, rc x1 B3x d3x B4x d4x B5x d5x)] wz := SPR.tk 2 1 hz
                                  refine hK.out _ _ (HS _ hzb) (fun hHeld => ?_)
                                  clear hK K
                                  refine norm_ (a' := ?_) ?_ ?_
                                  rotate_left
                                  · show Act.put _ (some 7) _ = _
                                    simp only [Act.put, List.setIfInBounds_toArray, List.set_cons_zero, List.set_cons_succ, i64_w, i32_w]
                                    rfl
                                  exact norm_ (by first | (simp only [putAll, Act.put, List.setIfInBounds_toArray, List.set_cons_zero, List.set_cons_succ]; done) | (simp only [putAll, Act.put, List.setIfInBounds_toArray, List.set_cons_zero, List.set_cons_succ]; rfl)) (hJ3_12_13 (R12, R13, ()) _ (SPR.prm hz (.cons _ (.cons _ (.swap _ _ _)))))
                            · skip
                              rintro ⟨R12, _⟩ w' hF
                              change SPR w [(V, lvc A l c, 26), (R, rc x1 B3x d3x B4x d4x B5x d5x, 30), (R12, z7, 30)] [(x1, rc x1 B3x d3x B4x d4x B5x d5x)] w' at hF
                              have hFb : SPR w [(V, lvc A l c, 26), (R, rc x1 B3x d3x B4x d4x B5x d5x, 30)] [(x1, rc x1 B3x d3x B4x d4x B5x d5x)] w' := SPR.tk 2 1 hF
                              have hHeld : w'.cell? ⟨V, 0, none⟩ = some (.int .i64 5) ∧ w'.cell? ⟨V, 1, none⟩ = some (.int .i64 0) ∧ w'.cell? ⟨V, 2, none⟩ = some (.string ⟨#[]⟩) ∧ w'.cell? ⟨V, 3, none⟩ = some (.slice A l.length c) ∧ w'.cell? ⟨V, 4, none⟩ = some (.slice none 0 0) ∧ w'.cell? ⟨V, 5, none⟩ = some (.slice none 0 0) ∧ w'.cell? ⟨R, 0, none⟩ = some (.int .i64 x1.f0) ∧ w'.cell? ⟨R, 1, none⟩ = some (.int .i64 x1.f1) ∧ w'.cell? ⟨R, 2, none⟩ = some (.string x1.f2) ∧ w'.cell? ⟨R, 3, none⟩ = some (.slice B3x x1.f3.length d3x) ∧ w'.cell? ⟨R, 4, none⟩ = some (.slice B4x x1.f4.length d4x) ∧ w'.cell? ⟨R, 5, none⟩ = some (.slice B5x x1.f5.length d5x) ∧ w'.cell? ⟨R, 6, none⟩ = some (.int .i64 0) ∧ SPR w [(V, lvc A l c, 26), (R, rc x1 B3x d3x B4x d4x B5x d5x, 30)] [(x1, rc x1 B3x d3x B4x d4x B5x d5x)] w' := (HS _ hFb)
                              clear hFb
                              refine norm_ (a' := ?_) ?_ ?_
                              rotate_left
                              · simp only [putAll, Act.put, List.setIfInBounds_toArray, List.set_cons_zero, List.set_cons_succ]
                                rfl
                              refine two_ (i := 4) (j := 13) (Ni := some 24) (Nj := some 8) #[true, true, true, true, true, true, true, true, true, true, false, false, true, false, false, false] #[true, true, true, true, false, true, true, true, true, true, false, false, true, true, false, false] rfl rfl rfl rfl (by kernel_rfl) (by decide) (by decide) (fun K hK => ?_) (fun K hK => ?_)
                              · skip
                                refine goes_ Tryz.func38 (by kernel_rfl) rfl #[.agg #[.int .i64 5, .int .i64 0, .string ⟨#[]⟩, .slice A l.length c, .slice none 0 0, .slice none 0 0], .agg #[.int .i64 3, .int .i64 (2 * n1), .string ⟨#[]⟩, .slice none 0 0, .slice none 0 0, .slice none 0 0]] (by rfl) rfl rfl (by simp only [List.map_toArray, List.map_cons, List.map_nil]; rfl) ?_
                                with_reducible refine ((HIX.out _ _ _ (hF))).mono ?_
                                rintro e wz ⟨u4, rfl, hz⟩
                                refine ⟨_, rfl, ?_⟩
                                have hzb : SPR w [(V, lvc A l c, 26), (R, rc x1 B3x d3x B4x d4x B5x d5x, 30)] [(x1, rc x1 B3x d3x B4x d4x B5x d5x)] wz := SPR.tk 2 1 hz
                                refine hK.out _ _ (HS _ hzb) (fun hHeld => ?_)
                                clear hK K
                                refine norm_ (a' := ?_) ?_ ?_
                                rotate_left
                                · show Act.put _ (some 24) _ = _
                                  simp only [Act.put, List.setIfInBounds_toArray, List.set_cons_zero, List.set_cons_succ, i64_w, i32_w]
                                  rfl
                                exact norm_ (by first | (simp only [putAll, Act.put, List.setIfInBounds_toArray, List.set_cons_zero, List.set_cons_succ]; done) | (simp only [putAll, Act.put, List.setIfInBounds_toArray, List.set_cons_zero, List.set_cons_succ]; rfl)) (hJ3_4_12 (R12, u4, ()) _ hz)
                              · skip
                                refine freshR_ (c := #[.int .i64 0, .int .i64 0, .string ⟨#[]⟩, .slice none 0 0, .slice none 0 0, .slice none 0 0, .int .i64 0]) (t := 30) (hF) (by rfl) rfl ?_ ?_
                                · first | (go_simp; done) | (go_simp; rfl)
                                intro R13 wz hz
                                have hzb : SPR w [(V, lvc A l c, 26), (R, rc x1 B3x d3x B4x d4x B5x d5x, 30)] [(x1, rc x1 B3x d3x B4x d4x B5x d5x)] wz := SPR.tk 2 1 hz
                                refine hK.out _ _ (HS _ hzb) (fun hHeld => ?_)
                                clear hK K
                                refine norm_ (a' := ?_) ?_ ?_
                                rotate_left
                                · show Act.put _ (some 8) _ = _
                                  simp only [Act.put, List.setIfInBounds_toArray, List.set_cons_zero, List.set_cons_succ, i64_w, i32_w]
                                  rfl
                                exact norm_ (by first | (simp only [putAll, Act.put, List.setIfInBounds_toArray, List.set_cons_zero, List.set_cons_succ]; done) | (simp only [putAll, Act.put, List.setIfInBounds_toArray, List.set_cons_zero, List.set_cons_succ]; rfl)) (hJ3_12_13 (R12, R13, ()) _ hz)
                          · skip
                            rintro ⟨c4, _⟩ w' hF
                            change SPR w [(V, lvc A l c, 26), (R, rc x1 B3x d3x B4x d4x B5x d5x, 30)] [(x1, rc x1 B3x d3x B4x d4x B5x d5x), (x2, c4)] w' at hF
                            obtain ⟨B3y, d3y, B4y, d4y, B5y, d5y, rfl⟩ := hF.cells 1 rfl
                            have hFb : SPR w [(V, lvc A l c, 26), (R, rc x1 B3x d3x B4x d4x B5x d5x, 30)] [(x1, rc x1 B3x d3x B4x d4x B5x d5x)] w' := SPR.tk 2 1 hF
                            have hHeld : w'.cell? ⟨V, 0, none⟩ = some (.int .i64 5) ∧ w'.cell? ⟨V, 1, none⟩ = some (.int .i64 0) ∧ w'.cell? ⟨V, 2, none⟩ = some (.string ⟨#[]⟩) ∧ w'.cell? ⟨V, 3, none⟩ = some (.slice A l.length c) ∧ w'.cell? ⟨V, 4, none⟩ = some (.slice none 0 0) ∧ w'.cell? ⟨V, 5, none⟩ = some (.slice none 0 0) ∧ w'.cell? ⟨R, 0, none⟩ = some (.int .i64 x1.f0) ∧ w'.cell? ⟨R, 1, none⟩ = some (.int .i64 x1.f1) ∧ w'.cell? ⟨R, 2, none⟩ = some (.string x1.f2) ∧ w'.cell? ⟨R, 3, none⟩ = some (.slice B3x x1.f3.length d3x) ∧ w'.cell? ⟨R, 4, none⟩ = some (.slice B4x x1.f4.length d4x) ∧ w'.cell? ⟨R, 5, none⟩ = some (.slice B5x x1.f5.length d5x) ∧ w'.cell? ⟨R, 6, none⟩ = some (.int .i64 0) ∧ SPR w [(V, lvc A l c, 26), (R, rc x1 B3x d3x B4x d4x B5x d5x, 30)] [(x1, rc x1 B3x d3x B4x d4x B5x d5x)] w' := (HS _ hFb)
                            clear hFb
                            refine norm_ (a' := ?_) ?_ ?_
                            rotate_left
                            · simp only [putAll, Act.put, List.setIfInBounds_toArray, List.set_cons_zero, List.set_cons_succ]
                              rfl
                            refine three_ (i := 10) (j := 12) (k := 13) (Ni := some 30) (Nj := some 7) (Nk := some 8) #[true, true, true, true, true, true, true, true, true, true, true, false, false, false, false, false] #[true, true, true, true, true, true, true, true, true, true, false, false, true, false, false, false] #[true, true, true, true, true, true, true, true, true, true, false, false, false, true, false, false] rfl rfl rfl rfl rfl rfl (by kernel_rfl) (by decide) (by decide) (by decide) (fun K hK => ?_) (fun K hK => ?_) (fun K hK => ?_)
                            · skip
                              refine goes_ Tryz.func34 (by kernel_rfl) rfl #[.int .i64 (wrap64 (-1 - wrap64 n1))] (by rfl) rfl rfl (by simp only [List.map_toArray, List.map_cons, List.map_nil]; rfl) ?_
                              with_reducible refine ((HN2.out _)).mono ?_
                              rintro e wz ⟨rfl, hb⟩
                              refine ⟨_, rfl, ?_⟩
                              have hz := SPR.below (hF) hb
                              have hzb : SPR w [(V, lvc A l c, 26), (R, rc x1 B3x d3x B4x d4x B5x d5x, 30)] [(x1, rc x1 B3x d3x B4x d4x B5x d5x)] wz := SPR.tk 2 1 hz
                              refine hK.out _ _ (HS _ hzb) (fun hHeld => ?_)
                              clear hK K
                              refine norm_ (a' := ?_) ?_ ?_
                              rotate_left
                              · show Act.put _ (some 30) _ = _
                                simp only [Act.put, List.setIfInBounds_toArray, List.set_cons_zero, List.set_cons_succ, i64_w, i32_w]
                                rfl
                              exact norm_ (by first | (simp only [putAll, Act.put, List.setIfInBounds_toArray, List.set_cons_zero, List.set_cons_succ]; done) | (simp only [putAll, Act.put, List.setIfInBounds_toArray, List.set_cons_zero, List.set_cons_succ]; rfl)) (hJ3_4_10 (#[.int .i64 x2.f0, .int .i64 x2.f1, .string x2.f2, .slice B3y x2.f3.length d3y, .slice B4y x2.f4.length d4y, .slice B5y x2.f5.length d5y, .int .i64 0], ()) _ hz)
                            · skip
                              refine freshR_ (c := #[.int .i64 0, .int .i64 0, .string ⟨#[]⟩, .slice none 0 0, .slice none 0 0, .slice none 0 0, .int .i64 0]) (t := 30) (hF) (by rfl) rfl ?_ ?_
                              · first | (go_simp; done) | (go_simp; rfl)
                              intro R12 wz hz
                              have hzb : SPR w [(V, lvc A l c, 26), (R, rc x1 B3x d3x B4x d4x B5x d5x, 30)] [(x1, rc x1 B3x d3x B4x d4x B5x d5x)] wz := SPR.tk 2 1 hz
                              refine hK.out _ _ (HS _ hzb) (fun hHeld => ?_)
                              clear hK K
                              refine norm_ (a' := ?_) ?_ ?_
                              rotate_left
                              · show Act.put _ (some 7) _ = _
                                simp only [Act.put, List.setIfInBounds_toArray, List.set_cons_zero, List.set_cons_succ, i64_w, i32_w]
                                rfl
                              exact norm_ (by first | (simp only [putAll, Act.put, List.setIfInBounds_toArray, List.set_cons_zero, List.set_cons_succ]; done) | (simp only [putAll, Act.put, List.setIfInBounds_toArray, List.set_cons_zero, List.set_cons_succ]; rfl)) (hJ3_4_12 (R12, #[.int .i64 x2.f0, .int .i64 x2.f1, .string x2.f2, .slice B3y x2.f3.length d3y, .slice B4y x2.f4.length d4y, .slice B5y x2.f5.length d5y, .int .i64 0], ()) _ hz)
                            · skip
                              refine freshR_ (c := #[.int .i64 0, .int .i64 0, .string ⟨#[]⟩, .slice none 0 0, .slice none 0 0, .slice none 0 0, .int .i64 0]) (t := 30) (hF) (by rfl) rfl ?_ ?_
                              · first | (go_simp; done) | (go_simp; rfl)
                              intro R13 wz hz
                              have hzb : SPR w [(V, lvc A l c, 26), (R, rc x1 B3x d3x B4x d4x B5x d5x, 30)] [(x1, rc x1 B3x d3x B4x d4x B5x d5x)] wz := SPR.tk 2 1 hz
                              refine hK.out _ _ (HS _ hzb) (fun hHeld => ?_)
                              clear hK K
                              refine norm_ (a' := ?_) ?_ ?_
                              rotate_left
                              · show Act.put _ (some 8) _ = _
                                simp only [Act.put, List.setIfInBounds_toArray, List.set_cons_zero, List.set_cons_succ, i64_w, i32_w]
                                rfl
                              exact norm_ (by first | (simp only [putAll, Act.put, List.setIfInBounds_toArray, List.set_cons_zero, List.set_cons_succ]; done) | (simp only [putAll, Act.put, List.setIfInBounds_toArray, List.set_cons_zero, List.set_cons_succ]; rfl)) (hJ3_4_13 (R13, #[.int .i64 x2.f0, .int .i64 x2.f1, .string x2.f2, .slice B3y x2.f3.length d3y, .slice B4y x2.f4.length d4y, .slice B5y x2.f5.length d5y, .int .i64 0], ()) _ hz)
                        · skip
                          rintro ⟨R12, R13, _⟩ w' hF
                          change SPR w [(V, lvc A l c, 26), (R, rc x1 B3x d3x B4x d4x B5x d5x, 30), (R12, z7, 30), (R13, z7, 30)] [(x1, rc x1 B3x d3x B4x d4x B5x d5x)] w' at hF
                          have hFb : SPR w [(V, lvc A l c, 26), (R, rc x1 B3x d3x B4x d4x B5x d5x, 30)] [(x1, rc x1 B3x d3x B4x d4x B5x d5x)] w' := SPR.tk 2 1 hF
                          have hHeld : w'.cell? ⟨V, 0, none⟩ = some (.int .i64 5) ∧ w'.cell? ⟨V, 1, none⟩ = some (.int .i64 0) ∧ w'.cell? ⟨V, 2, none⟩ = some (.string ⟨#[]⟩) ∧ w'.cell? ⟨V, 3, none⟩ = some (.slice A l.length c) ∧ w'.cell? ⟨V, 4, none⟩ = some (.slice none 0 0) ∧ w'.cell? ⟨V, 5, none⟩ = some (.slice none 0 0) ∧ w'.cell? ⟨R, 0, none⟩ = some (.int .i64 x1.f0) ∧ w'.cell? ⟨R, 1, none⟩ = some (.int .i64 x1.f1) ∧ w'.cell? ⟨R, 2, none⟩ = some (.string x1.f2) ∧ w'.cell? ⟨R, 3, none⟩ = some (.slice B3x x1.f3.length d3x) ∧ w'.cell? ⟨R, 4, none⟩ = some (.slice B4x x1.f4.length d4x) ∧ w'.cell? ⟨R, 5, none⟩ = some (.slice B5x x1.f5.length d5x) ∧ w'.cell? ⟨R, 6, none⟩ = some (.int .i64 0) ∧ SPR w [(V, lvc A l c, 26), (R, rc x1 B3x d3x B4x d4x B5x d5x, 30)] [(x1, rc x1 B3x d3x B4x d4x B5x d5x)] w' := (HS _ hFb)
                          clear hFb
                          refine norm_ (a' := ?_) ?_ ?_
                          rotate_left
                          · simp only [putAll, Act.put, List.setIfInBounds_toArray, List.set_cons_zero, List.set_cons_succ]
                            rfl
                          refine one_ (i := 4) (N := some 24) #[true, true, true, true, true, true, true, true, true, true, false, false, true, true, false, false] rfl rfl (by kernel_rfl) (by decide) (fun K hK => ?_)
                          refine goes_ Tryz.func38 (by kernel_rfl) rfl #[.agg #[.int .i64 5, .int .i64 0, .string ⟨#[]⟩, .slice A l.length c, .slice none 0 0, .slice none 0 0], .agg #[.int .i64 3, .int .i64 (2 * n1), .string ⟨#[]⟩, .slice none 0 0, .slice none 0 0, .slice none 0 0]] (by rfl) rfl rfl (by simp only [List.map_toArray, List.map_cons, List.map_nil]; rfl) ?_
                          with_reducible refine ((HIX.out _ _ _ (hF))).mono ?_
                          rintro e wz ⟨u4, rfl, hz⟩
                          refine ⟨_, rfl, ?_⟩
                          have hzb : SPR w [(V, lvc A l c, 26), (R, rc x1 B3x d3x B4x d4x B5x d5x, 30)] [(x1, rc x1 B3x d3x B4x d4x B5x d5x)] wz := SPR.tk 2 1 hz
                          refine hK.out _ _ (HS _ hzb) (fun hHeld => ?_)
                          clear hK K
                          refine norm_ (a' := ?_) ?_ ?_
                          rotate_left
                          · show Act.put _ (some 24) _ = _
                            simp only [Act.put, List.setIfInBounds_toArray, List.set_cons_zero, List.set_cons_succ, i64_w, i32_w]
                            rfl
                          exact norm_ (by first | (simp only [putAll, Act.put, List.setIfInBounds_toArray, List.set_cons_zero, List.set_cons_succ]; done) | (simp only [putAll, Act.put, List.setIfInBounds_toArray, List.set_cons_zero, List.set_cons_succ]; rfl)) (hJ3_4_12_13 (R12, R13, u4, ()) _ hz)
                      · skip
                        rintro ⟨R13, c4, _⟩ w' hF
                        change SPR w [(V, lvc A l c, 26), (R, rc x1 B3x d3x B4x d4x B5x d5x, 30), (R13, z7, 30)] [(x1, rc x1 B3x d3x B4x d4x B5x d5x), (x2, c4)] w' at hF
                        obtain ⟨B3y, d3y, B4y, d4y, B5y, d5y, rfl⟩ := hF.cells 1 rfl
                        have hFb : SPR w [(V, lvc A l c, 26), (R, rc x1 B3x d3x B4x d4x B5x d5x, 30)] [(x1, rc x1 B3x d3x B4x d4x B5x d5x)] w' := SPR.tk 2 1 hF
                        have hHeld : w'.cell? ⟨V, 0, none⟩ = some (.int .i64 5) ∧ w'.cell? ⟨V, 1, none⟩ = some (.int .i64 0) ∧ w'.cell? ⟨V, 2, none⟩ = some (.string ⟨#[]⟩) ∧ w'.cell? ⟨V, 3, none⟩ = some (.slice A l.length c) ∧ w'.cell? ⟨V, 4, none⟩ = some (.slice none 0 0) ∧ w'.cell? ⟨V, 5, none⟩ = some (.slice none 0 0) ∧ w'.cell? ⟨R, 0, none⟩ = some (.int .i64 x1.f0) ∧ w'.cell? ⟨R, 1, none⟩ = some (.int .i64 x1.f1) ∧ w'.cell? ⟨R, 2, none⟩ = some (.string x1.f2) ∧ w'.cell? ⟨R, 3, none⟩ = some (.slice B3x x1.f3.length d3x) ∧ w'.cell? ⟨R, 4, none⟩ = some (.slice B4x x1.f4.length d4x) ∧ w'.cell? ⟨R, 5, none⟩ = some (.slice B5x x1.f5.length d5x) ∧ w'.cell? ⟨R, 6, none⟩ = some (.int .i64 0) ∧ SPR w [(V, lvc A l c, 26), (R, rc x1 B3x d3x B4x d4x B5x d5x, 30)] [(x1, rc x1 B3x d3x B4x d4x B5x d5x)] w' := (HS _ hFb)
                        clear hFb
                        refine norm_ (a' := ?_) ?_ ?_
                        rotate_left
                        · simp only [putAll, Act.put, List.setIfInBounds_toArray, List.set_cons_zero, List.set_cons_succ]
                          rfl
                        refine two_ (i := 10) (j := 12) (Ni := some 30) (Nj := some 7) #[true, true, true, true, true, true, true, true, true, true, true, false, false, true, false, false] #[true, true, true, true, true, true, true, true, true, true, false, false, true, true, false, false] rfl rfl rfl rfl (by kernel_rfl) (by decide) (by decide) (fun K hK => ?_) (fun K hK => ?_)
                        · skip
                          refine goes_ Tryz.func34 (by kernel_rfl) rfl #[.int .i64 (wrap64 (-1 - wrap64 n1))] (by rfl) rfl rfl (by simp only [List.map_toArray, List.map_cons, List.map_nil]; rfl) ?_
                          with_reducible refine ((HN2.out _)).mono ?_
                          rintro e wz ⟨rfl, hb⟩
                          refine ⟨_, rfl, ?_⟩
                          have hz := SPR.below (hF) hb
                          have hzb : SPR w [(V, lvc A l c, 26), (R, rc x1 B3x d3x B4x d4x B5x d5x, 30)] [(x1, rc x1 B3x d3x B4x d4x B5x d5x)] wz := SPR.tk 2 1 hz
                          refine hK.out _ _ (HS _ hzb) (fun hHeld => ?_)
                          clear hK K
                          refine norm_ (a' := ?_) ?_ ?_
                          rotate_left
                          · show Act.put _ (some 30) _ = _
                            simp only [Act.put, List.setIfInBounds_toArray, List.set_cons_zero, List.set_cons_succ, i64_w, i32_w]
                            rfl
                          exact norm_ (by first | (simp only [putAll, Act.put, List.setIfInBounds_toArray, List.set_cons_zero, List.set_cons_succ]; done) | (simp only [putAll, Act.put, List.setIfInBounds_toArray, List.set_cons_zero, List.set_cons_succ]; rfl)) (hJ3_4_10_13 (R13, #[.int .i64 x2.f0, .int .i64 x2.f1, .string x2.f2, .slice B3y x2.f3.length d3y, .slice B4y x2.f4.length d4y, .slice B5y x2.f5.length d5y, .int .i64 0], ()) _ hz)
                        · skip
                          refine freshR_ (c := #[.int .i64 0, .int .i64 0, .string ⟨#[]⟩, .slice none 0 0, .slice none 0 0, .slice none 0 0, .int .i64 0]) (t := 30) (hF) (by rfl) rfl ?_ ?_
                          · first | (go_simp; done) | (go_simp; rfl)
                          intro R12 wz hz
                          have hzb : SPR w [(V, lvc A l c, 26), (R, rc x1 B3x d3x B4x d4x B5x d5x, 30)] [(x1, rc x1 B3x d3x B4x d4x B5x d5x)] wz := SPR.tk 2 1 hz
                          refine hK.out _ _ (HS _ hzb) (fun hHeld => ?_)
                          clear hK K
                          refine norm_ (a' := ?_) ?_ ?_
                          rotate_left
                          · show Act.put _ (some 7) _ = _
                            simp only [Act.put, List.setIfInBounds_toArray, List.set_cons_zero, List.set_cons_succ, i64_w, i32_w]
                            rfl
                          exact norm_ (by first | (simp only [putAll, Act.put, List.setIfInBounds_toArray, List.set_cons_zero, List.set_cons_succ]; done) | (simp only [putAll, Act.put, List.setIfInBounds_toArray, List.set_cons_zero, List.set_cons_succ]; rfl)) (hJ3_4_12_13 (R12, R13, #[.int .i64 x2.f0, .int .i64 x2.f1, .string x2.f2, .slice B3y x2.f3.length d3y, .slice B4y x2.f4.length d4y, .slice B5y x2.f5.length d5y, .int .i64 0], ()) _ (SPR.prm hz (.cons _ (.cons _ (.swap _ _ _)))))
                    · skip
                      rintro ⟨R12, c4, _⟩ w' hF
                      change SPR w [(V, lvc A l c, 26), (R, rc x1 B3x d3x B4x d4x B5x d5x, 30), (R12, z7, 30)] [(x1, rc x1 B3x d3x B4x d4x B5x d5x), (x2, c4)] w' at hF
                      obtain ⟨B3y, d3y, B4y, d4y, B5y, d5y, rfl⟩ := hF.cells 1 rfl
                      have hFb : SPR w [(V, lvc A l c, 26), (R, rc x1 B3x d3x B4x d4x B5x d5x, 30)] [(x1, rc x1 B3x d3x B4x d4x B5x d5x)] w' := SPR.tk 2 1 hF
                      have hHeld : w'.cell? ⟨V, 0, none⟩ = some (.int .i64 5) ∧ w'.cell? ⟨V, 1, none⟩ = some (.int .i64 0) ∧ w'.cell? ⟨V, 2, none⟩ = some (.string ⟨#[]⟩) ∧ w'.cell? ⟨V, 3, none⟩ = some (.slice A l.length c) ∧ w'.cell? ⟨V, 4, none⟩ = some (.slice none 0 0) ∧ w'.cell? ⟨V, 5, none⟩ = some (.slice none 0 0) ∧ w'.cell? ⟨R, 0, none⟩ = some (.int .i64 x1.f0) ∧ w'.cell? ⟨R, 1, none⟩ = some (.int .i64 x1.f1) ∧ w'.cell? ⟨R, 2, none⟩ = some (.string x1.f2) ∧ w'.cell? ⟨R, 3, none⟩ = some (.slice B3x x1.f3.length d3x) ∧ w'.cell? ⟨R, 4, none⟩ = some (.slice B4x x1.f4.length d4x) ∧ w'.cell? ⟨R, 5, none⟩ = some (.slice B5x x1.f5.length d5x) ∧ w'.cell? ⟨R, 6, none⟩ = some (.int .i64 0) ∧ SPR w [(V, lvc A l c, 26), (R, rc x1 B3x d3x B4x d4x B5x d5x, 30)] [(x1, rc x1 B3x d3x B4x d4x B5x d5x)] w' := (HS _ hFb)
                      clear hFb
                      refine norm_ (a' := ?_) ?_ ?_
                      rotate_left
                      · simp only [putAll, Act.put, List.setIfInBounds_toArray, List.set_cons_zero, List.set_cons_succ]
                        rfl
                      refine two_ (i := 10) (j := 13) (Ni := some 30) (Nj := some 8) #[true, true, true, true, true, true, true, true, true, true, true, false, true, false, false, false] #[true, true, true, true, true, true, true, true, true, true, false, false, true, true, false, false] rfl rfl rfl rfl (by kernel_rfl) (by decide) (by decide) (fun K hK => ?_) (fun K hK => ?_)
                      · skip
                        refine goes_ Tryz.func34 (by kernel_rfl) rfl #[.int .i64 (wrap64 (-1 - wrap64 n1))] (by rfl) rfl rfl (by simp only [List.map_toArray, List.map_cons, List.map_nil]; rfl) ?_
                        with_reducible refine ((HN2.out _)).mono ?_
                        rintro e wz ⟨rfl, hb⟩
                        refine ⟨_, rfl, ?_⟩
                        have hz := SPR.below (hF) hb
                        have hzb : SPR w [(V, lvc A l c, 26), (R, rc x1 B3x d3x B4x d4x B5x d5x, 30)] [(x1, rc x1 B3x d3x B4x d4x B5x d5x)] wz := SPR.tk 2 1 hz
                        refine hK.out _ _ (HS _ hzb) (fun hHeld => ?_)
                        clear hK K
                        refine norm_ (a' := ?_) ?_ ?_
                        rotate_left
                        · show Act.put _ (some 30) _ = _
                          simp only [Act.put, List.setIfInBounds_toArray, List.set_cons_zero, List.set_cons_succ, i64_w, i32_w]
                          rfl
                        exact norm_ (by first | (simp only [putAll, Act.put, List.setIfInBounds_toArray, List.set_cons_zero, List.set_cons_succ]; done) | (simp only [putAll, Act.put, List.setIfInBounds_toArray, List.set_cons_zero, List.set_cons_succ]; rfl)) (hJ3_4_10_12 (R12, #[.int .i64 x2.f0, .int .i64 x2.f1, .string x2.f2, .slice B3y x2.f3.length d3y, .slice B4y x2.f4.length d4y, .slice B5y x2.f5.length d5y, .int .i64 0], ()) _ hz)
                      · skip
                        refine freshR_ (c := #[.int .i64 0, .int .i64 0, .string ⟨#[]⟩, .slice none 0 0, .slice none 0 0, .slice none 0 0, .int .i64 0]) (t := 30) (hF) (by rfl) rfl ?_ ?_
                        · first | (go_simp; done) | (go_simp; rfl)
                        intro R13 wz hz
                        have hzb : SPR w [(V, lvc A l c, 26), (R, rc x1 B3x d3x B4x d4x B5x d5x, 30)] [(x1, rc x1 B3x d3x B4x d4x B5x d5x)] wz := SPR.tk 2 1 hz
                        refine hK.out _ _ (HS _ hzb) (fun hHeld => ?_)
                        clear hK K
                        refine norm_ (a' := ?_) ?_ ?_
                        rotate_left
                        · show Act.put _ (some 8) _ = _
                          simp only [Act.put, List.setIfInBounds_toArray, List.set_cons_zero, List.set_cons_succ, i64_w, i32_w]
                          rfl
                        exact norm_ (by first | (simp only [putAll, Act.put, List.setIfInBounds_toArray, List.set_cons_zero, List.set_cons_succ]; done) | (simp only [putAll, Act.put, List.setIfInBounds_toArray, List.set_cons_zero, List.set_cons_succ]; rfl)) (hJ3_4_12_13 (R12, R13, #[.int .i64 x2.f0, .int .i64 x2.f1, .string x2.f2, .slice B3y x2.f3.length d3y, .slice B4y x2.f4.length d4y, .slice B5y x2.f5.length d5y, .int .i64 0], ()) _ hz)
                  · skip
                    rintro ⟨c4, _⟩ w' hF
                    change SPR w [(V, lvc A l c, 26), (R, rc x1 B3x d3x B4x d4x B5x d5x, 30)] [(x1, rc x1 B3x d3x B4x d4x B5x d5x), (x2, c4)] w' at hF
                    obtain ⟨B3y, d3y, B4y, d4y, B5y, d5y, rfl⟩ := hF.cells 1 rfl
                    have hFb : SPR w [(V, lvc A l c, 26), (R, rc x1 B3x d3x B4x d4x B5x d5x, 30)] [(x1, rc x1 B3x d3x B4x d4x B5x d5x)] w' := SPR.tk 2 1 hF
                    have hHeld : w'.cell? ⟨V, 0, none⟩ = some (.int .i64 5) ∧ w'.cell? ⟨V, 1, none⟩ = some (.int .i64 0) ∧ w'.cell? ⟨V, 2, none⟩ = some (.string ⟨#[]⟩) ∧ w'.cell? ⟨V, 3, none⟩ = some (.slice A l.length c) ∧ w'.cell? ⟨V, 4, none⟩ = some (.slice none 0 0) ∧ w'.cell? ⟨V, 5, none⟩ = some (.slice none 0 0) ∧ w'.cell? ⟨R, 0, none⟩ = some (.int .i64 x1.f0) ∧ w'.cell? ⟨R, 1, none⟩ = some (.int .i64 x1.f1) ∧ w'.cell? ⟨R, 2, none⟩ = some (.string x1.f2) ∧ w'.cell? ⟨R, 3, none⟩ = some (.slice B3x x1.f3.length d3x) ∧ w'.cell? ⟨R, 4, none⟩ = some (.slice B4x x1.f4.length d4x) ∧ w'.cell? ⟨R, 5, none⟩ = some (.slice B5x x1.f5.length d5x) ∧ w'.cell? ⟨R, 6, none⟩ = some (.int .i64 0) ∧ SPR w [(V, lvc A l c, 26), (R, rc x1 B3x d3x B4x d4x B5x d5x, 30)] [(x1, rc x1 B3x d3x B4x d4x B5x d5x)] w' := (HS _ hFb)
                    clear hFb
                    refine norm_ (a' := ?_) ?_ ?_
                    rotate_left
                    · simp only [putAll, Act.put, List.setIfInBounds_toArray, List.set_cons_zero, List.set_cons_succ]
                      rfl
                    refine three_ (i := 11) (j := 12) (k := 13) (Ni := some 31) (Nj := some 7) (Nk := some 8) #[true, true, true, true, true, true, true, true, true, true, true, true, false, false, false, false] #[true, true, true, true, true, true, true, true, true, true, true, false, true, false, false, false] #[true, true, true, true, true, true, true, true, true, true, true, false, false, true, false, false] rfl rfl rfl rfl rfl rfl (by kernel_rfl) (by decide) (by decide) (by decide) (fun K hK => ?_) (fun K hK => ?_) (fun K hK => ?_)
                    · skip
                      refine goes_ Tryz.func38 (by kernel_rfl) rfl #[.agg #[.int .i64 x1.f0, .int .i64 x1.f1, .string x1.f2, .slice B3x x1.f3.length d3x, .slice B4x x1.f4.length d4x, .slice B5x x1.f5.length d5x], .agg #[.int .i64 3, .int .i64 (2 * (-1 - n1)), .string ⟨#[]⟩, .slice none 0 0, .slice none 0 0, .slice none 0 0]] (by rfl) rfl rfl (by simp only [List.map_toArray, List.map_cons, List.map_nil]; rfl) ?_
                      with_reducible refine ((HIY.out _ _ _ (hF) 0 rfl)).mono ?_
                      rintro e wz ⟨u11, rfl, hz⟩
                      refine ⟨_, rfl, ?_⟩
                      have hzb : SPR w [(V, lvc A l c, 26), (R, rc x1 B3x d3x B4x d4x B5x d5x, 30)] [(x1, rc x1 B3x d3x B4x d4x B5x d5x)] wz := SPR.tk 2 1 hz
                      refine hK.out _ _ (HS _ hzb) (fun hHeld => ?_)
                      clear hK K
                      refine norm_ (a' := ?_) ?_ ?_
                      rotate_left
                      · show Act.put _ (some 31) _ = _
                        simp only [Act.put, List.setIfInBounds_toArray, List.set_cons_zero, List.set_cons_succ, i64_w, i32_w]
                        rfl
                      exact norm_ (by first | (simp only [putAll, Act.put, List.setIfInBounds_toArray, List.set_cons_zero, List.set_cons_succ]; done) | (simp only [putAll, Act.put, List.setIfInBounds_toArray, List.set_cons_zero, List.set_cons_succ]; rfl)) (hJ3_4_10_11 (#[.int .i64 x2.f0, .int .i64 x2.f1, .string x2.f2, .slice B3y x2.f3.length d3y, .slice B4y x2.f4.length d4y, .slice B5y x2.f5.length d5y, .int .i64 0], u11, ()) _ hz)
                    · skip
                      refine freshR_ (c := #[.int .i64 0, .int .i64 0, .string ⟨#[]⟩, .slice none 0 0, .slice none 0 0, .slice none 0 0, .int .i64 0]) (t := 30) (hF) (by rfl) rfl ?_ ?_
                      · first | (go_simp; done) | (go_simp; rfl)
                      intro R12 wz hz
                      have hzb : SPR w [(V, lvc A l c, 26), (R, rc x1 B3x d3x B4x d4x B5x d5x, 30)] [(x1, rc x1 B3x d3x B4x d4x B5x d5x)] wz := SPR.tk 2 1 hz
                      refine hK.out _ _ (HS _ hzb) (fun hHeld => ?_)
                      clear hK K
                      refine norm_ (a' := ?_) ?_ ?_
                      rotate_left
                      · show Act.put _ (some 7) _ = _
                        simp only [Act.put, List.setIfInBounds_toArray, List.set_cons_zero, List.set_cons_succ, i64_w, i32_w]
                        rfl
                      exact norm_ (by first | (simp only [putAll, Act.put, List.setIfInBounds_toArray, List.set_cons_zero, List.set_cons_succ]; done) | (simp only [putAll, Act.put, List.setIfInBounds_toArray, List.set_cons_zero, List.set_cons_succ]; rfl)) (hJ3_4_10_12 (R12, #[.int .i64 x2.f0, .int .i64 x2.f1, .string x2.f2, .slice B3y x2.f3.length d3y, .slice B4y x2.f4.length d4y, .slice B5y x2.f5.length d5y, .int .i64 0], ()) _ hz)
                    · skip
                      refine freshR_ (c := #[.int .i64 0, .int .i64 0, .string ⟨#[]⟩, .slice none 0 0, .slice none 0 0, .slice none 0 0, .int .i64 0]) (t := 30) (hF) (by rfl) rfl ?_ ?_
                      · first | (go_simp; done) | (go_simp; rfl)
                      intro R13 wz hz
                      have hzb : SPR w [(V, lvc A l c, 26), (R, rc x1 B3x d3x B4x d4x B5x d5x, 30)] [(x1, rc x1 B3x d3x B4x d4x B5x d5x)] wz := SPR.tk 2 1 hz
                      refine hK.out _ _ (HS _ hzb) (fun hHeld => ?_)
                      clear hK K
                      refine norm_ (a' := ?_) ?_ ?_
                      rotate_left
                      · show Act.put _ (some 8) _ = _
                        simp only [Act.put, List.setIfInBounds_toArray, List.set_cons_zero, List.set_cons_succ, i64_w, i32_w]
                        rfl
                      exact norm_ (by first | (simp only [putAll, Act.put, List.setIfInBounds_toArray, List.set_cons_zero, List.set_cons_succ]; done) | (simp only [putAll, Act.put, List.setIfInBounds_toArray, List.set_cons_zero, List.set_cons_succ]; rfl)) (hJ3_4_10_13 (R13, #[.int .i64 x2.f0, .int .i64 x2.f1, .string x2.f2, .slice B3y x2.f3.length d3y, .slice B4y x2.f4.length d4y, .slice B5y x2.f5.length d5y, .int .i64 0], ()) _ hz)
                · skip
                  rintro ⟨R12, R13, c4, _⟩ w' hF
                  change SPR w [(V, lvc A l c, 26), (R, rc x1 B3x d3x B4x d4x B5x d5x, 30), (R12, z7, 30), (R13, z7, 30)] [(x1, rc x1 B3x d3x B4x d4x B5x d5x), (x2, c4)] w' at hF
                  obtain ⟨B3y, d3y, B4y, d4y, B5y, d5y, rfl⟩ := hF.cells 1 rfl
                  have hFb : SPR w [(V, lvc A l c, 26), (R, rc x1 B3x d3x B4x d4x B5x d5x, 30)] [(x1, rc x1 B3x d3x B4x d4x B5x d5x)] w' := SPR.tk 2 1 hF
                  have hHeld : w'.cell? ⟨V, 0, none⟩ = some (.int .i64 5) ∧ w'.cell? ⟨V, 1, none⟩ = some (.int .i64 0) ∧ w'.cell? ⟨V, 2, none⟩ = some (.string ⟨#[]⟩) ∧ w'.cell? ⟨V, 3, none⟩ = some (.slice A l.length c) ∧ w'.cell? ⟨V, 4, none⟩ = some (.slice none 0 0) ∧ w'.cell? ⟨V, 5, none⟩ = some (.slice none 0 0) ∧ w'.cell? ⟨R, 0, none⟩ = some (.int .i64 x1.f0) ∧ w'.cell? ⟨R, 1, none⟩ = some (.int .i64 x1.f1) ∧ w'.cell? ⟨R, 2, none⟩ = some (.string x1.f2) ∧ w'.cell? ⟨R, 3, none⟩ = some (.slice B3x x1.f3.length d3x) ∧ w'.cell? ⟨R, 4, none⟩ = some (.slice B4x x1.f4.length d4x) ∧ w'.cell? ⟨R, 5, none⟩ = some (.slice B5x x1.f5.length d5x) ∧ w'.cell? ⟨R, 6, none⟩ = some (.int .i64 0) ∧ SPR w [(V, lvc A l c, 26), (R, rc x1 B3x d3x B4x d4x B5x d5x, 30)] [(x1, rc x1 B3x d3x B4x d4x B5x d5x)] w' := (HS _ hFb)
                  clear hFb
                  refine norm_ (a' := ?_) ?_ ?_
                  rotate_left
                  · simp only [putAll, Act.put, List.setIfInBounds_toArray, List.set_cons_zero, List.set_cons_succ]
                    rfl
                  refine one_ (i := 10) (N := some 30) #[true, true, true, true, true, true, true, true, true, true, true, false, true, true, false, false] rfl rfl (by kernel_rfl) (by decide) (fun K hK => ?_)
                  refine goes_ Tryz.func34 (by kernel_rfl) rfl #[.int .i64 (wrap64 (-1 - wrap64 n1))] (by rfl) rfl rfl (by simp only [List.map_toArray, List.map_cons, List.map_nil]; rfl) ?_
                  with_reducible refine ((HN2.out _)).mono ?_
                  rintro e wz ⟨rfl, hb⟩
                  refine ⟨_, rfl, ?_⟩
                  have hz := SPR.below (hF) hb
                  have hzb : SPR w [(V, lvc A l c, 26), (R, rc x1 B3x d3x B4x d4x B5x d5x, 30)] [(x1, rc x1 B3x d3x B4x d4x B5x d5x)] wz := SPR.tk 2 1 hz
                  refine hK.out _ _ (HS _ hzb) (fun hHeld => ?_)
                  clear hK K
                  refine norm_ (a' := ?_) ?_ ?_
                  rotate_left
                  · show Act.put _ (some 30) _ = _
                    simp only [Act.put, List.setIfInBounds_toArray, List.set_cons_zero, List.set_cons_succ, i64_w, i32_w]
                    rfl
                  exact norm_ (by first | (simp only [putAll, Act.put, List.setIfInBounds_toArray, List.set_cons_zero, List.set_cons_succ]; done) | (simp only [putAll, Act.put, List.setIfInBounds_toArray, List.set_cons_zero, List.set_cons_succ]; rfl)) (hJ3_4_10_12_13 (R12, R13, #[.int .i64 x2.f0, .int .i64 x2.f1, .string x2.f2, .slice B3y x2.f3.length d3y, .slice B4y x2.f4.length d4y, .slice B5y x2.f5.length d5y, .int .i64 0], ()) _ hz)
              · skip
                rintro ⟨R13, c4, _⟩ w' hF
                change SPR w [(V, lvc A l c, 26), (R, rc x1 B3x d3x B4x d4x B5x d5x, 30), (R13, z7, 30)] [(x1, rc x1 B3x d3x B4x d4x B5x d5x), (x2, c4)] w' at hF
                obtain ⟨B3y, d3y, B4y, d4y, B5y, d5y, rfl⟩ := hF.cells 1 rfl
                have hFb : SPR w [(V, lvc A l c, 26), (R, rc x1 B3x d3x B4x d4x B5x d5x, 30)] [(x1, rc x1 B3x d3x B4x d4x B5x d5x)] w' := SPR.tk 2 1 hF
                have hHeld : w'.cell? ⟨V, 0, none⟩ = some (.int .i64 5) ∧ w'.cell? ⟨V, 1, none⟩ = some (.int .i64 0) ∧ w'.cell? ⟨V, 2, none⟩ = some (.string ⟨#[]⟩) ∧ w'.cell? ⟨V, 3, none⟩ = some (.slice A l.length c) ∧ w'.cell? ⟨V, 4, none⟩ = some (.slice none 0 0) ∧ w'.cell? ⟨V, 5, none⟩ = some (.slice none 0 0) ∧ w'.cell? ⟨R, 0, none⟩ = some (.int .i64 x1.f0) ∧ w'.cell? ⟨R, 1, none⟩ = some (.int .i64 x1.f1) ∧ w'.cell? ⟨R, 2, none⟩ = some (.string x1.f2) ∧ w'.cell? ⟨R, 3, none⟩ = some (.slice B3x x1.f3.length d3x) ∧ w'.cell? ⟨R, 4, none⟩ = some (.slice B4x x1.f4.length d4x) ∧ w'.cell? ⟨R, 5, none⟩ = some (.slice B5x x1.f5.length d5x) ∧ w'.cell? ⟨R, 6, none⟩ = some (.int .i64 0) ∧ SPR w [(V, lvc A l c, 26), (R, rc x1 B3x d3x B4x d4x B5x d5x, 30)] [(x1, rc x1 B3x d3x B4x d4x B5x d5x)] w' := (HS _ hFb)
                clear hFb
                refine norm_ (a' := ?_) ?_ ?_
                rotate_left
                · simp only [putAll, Act.put, List.setIfInBounds_toArray, List.set_cons_zero, List.set_cons_succ]
                  rfl
                refine two_ (i := 11) (j := 12) (Ni := some 31) (Nj := some 7) #[true, true, true, true, true, true, true, true, true, true, true, true, false, true, false, false] #[true, true, true, true, true, true, true, true, true, true, true, false, true, true, false, false] rfl rfl rfl rfl (by kernel_rfl) (by decide) (by decide) (fun K hK => ?_) (fun K hK => ?_)
                · skip
                  refine goes_ Tryz.func38 (by kernel_rfl) rfl #[.agg #[.int .i64 x1.f0, .int .i64 x1.f1, .string x1.f2, .slice B3x x1.f3.length d3x, .slice B4x x1.f4.length d4x, .slice B5x x1.f5.length d5x], .agg #[.int .i64 3, .int .i64 (2 * (-1 - n1)), .string ⟨#[]⟩, .slice none 0 0, .slice none 0 0, .slice none 0 0]] (by rfl) rfl rfl (by simp only [List.map_toArray, List.map_cons, List.map_nil]; rfl) ?_
                  with_reducible refine ((HIY.out _ _ _ (hF) 0 rfl)).mono ?_
                  rintro e wz ⟨u11, rfl, hz⟩
                  refine ⟨_, rfl, ?_⟩
                  have hzb : SPR w [(V, lvc A l c, 26), (R, rc x1 B3x d3x B4x d4x B5x d5x, 30)] [(x1, rc x1 B3x d3x B4x d4x B5x d5x)] wz := SPR.tk 2 1 hz
                  refine hK.out _ _ (HS _ hzb) (fun hHeld => ?_)
                  clear hK K
                  refine norm_ (a' := ?_) ?_ ?_
                  rotate_left
                  · show Act.put _ (some 31) _ = _
                    simp only [Act.put, List.setIfInBounds_toArray, List.set_cons_zero, List.set_cons_succ, i64_w, i32_w]
                    rfl
                  exact norm_ (by first | (simp only [putAll, Act.put, List.setIfInBounds_toArray, List.set_cons_zero, List.set_cons_succ]; done) | (simp only [putAll, Act.put, List.setIfInBounds_toArray, List.set_cons_zero, List.set_cons_succ]; rfl)) (hJ3_4_10_11_13 (R13, #[.int .i64 x2.f0, .int .i64 x2.f1, .string x2.f2, .slice B3y x2.f3.length d3y, .slice B4y x2.f4.length d4y, .slice B5y x2.f5.length d5y, .int .i64 0], u11, ()) _ hz)
                · skip
                  refine freshR_ (c := #[.int .i64 0, .int .i64 0, .string ⟨#[]⟩, .slice none 0 0, .slice none 0 0, .slice none 0 0, .int .i64 0]) (t := 30) (hF) (by rfl) rfl ?_ ?_
                  · first | (go_simp; done) | (go_simp; rfl)
                  intro R12 wz hz
                  have hzb : SPR w [(V, lvc A l c, 26), (R, rc x1 B3x d3x B4x d4x B5x d5x, 30)] [(x1, rc x1 B3x d3x B4x d4x B5x d5x)] wz := SPR.tk 2 1 hz
                  refine hK.out _ _ (HS _ hzb) (fun hHeld => ?_)
                  clear hK K
                  refine norm_ (a' := ?_) ?_ ?_
                  rotate_left
                  · show Act.put _ (some 7) _ = _
                    simp only [Act.put, List.setIfInBounds_toArray, List.set_cons_zero, List.set_cons_succ, i64_w, i32_w]
                    rfl
                  exact norm_ (by first | (simp only [putAll, Act.put, List.setIfInBounds_toArray, List.set_cons_zero, List.set_cons_succ]; done) | (simp only [putAll, Act.put, List.setIfInBounds_toArray, List.set_cons_zero, List.set_cons_succ]; rfl)) (hJ3_4_10_12_13 (R12, R13, #[.int .i64 x2.f0, .int .i64 x2.f1, .string x2.f2, .slice B3y x2.f3.length d3y, .slice B4y x2.f4.length d4y, .slice B5y x2.f5.length d5y, .int .i64 0], ()) _ (SPR.prm hz (.cons _ (.cons _ (.swap _ _ _)))))
            · skip
              rintro ⟨R12, c4, _⟩ w' hF
              change SPR w [(V, lvc A l c, 26), (R, rc x1 B3x d3x B4x d4x B5x d5x, 30), (R12, z7, 30)] [(x1, rc x1 B3x d3x B4x d4x B5x d5x), (x2, c4)] w' at hF
              obtain ⟨B3y, d3y, B4y, d4y, B5y, d5y, rfl⟩ := hF.cells 1 rfl
              have hFb : SPR w [(V, lvc A l c, 26), (R, rc x1 B3x d3x B4x d4x B5x d5x, 30)] [(x1, rc x1 B3x d3x B4x d4x B5x d5x)] w' := SPR.tk 2 1 hF
              have hHeld : w'.cell? ⟨V, 0, none⟩ = some (.int .i64 5) ∧ w'.cell? ⟨V, 1, none⟩ = some (.int .i64 0) ∧ w'.cell? ⟨V, 2, none⟩ = some (.string ⟨#[]⟩) ∧ w'.cell? ⟨V, 3, none⟩ = some (.slice A l.length c) ∧ w'.cell? ⟨V, 4, none⟩ = some (.slice none 0 0) ∧ w'.cell? ⟨V, 5, none⟩ = some (.slice none 0 0) ∧ w'.cell? ⟨R, 0, none⟩ = some (.int .i64 x1.f0) ∧ w'.cell? ⟨R, 1, none⟩ = some (.int .i64 x1.f1) ∧ w'.cell? ⟨R, 2, none⟩ = some (.string x1.f2) ∧ w'.cell? ⟨R, 3, none⟩ = some (.slice B3x x1.f3.length d3x) ∧ w'.cell? ⟨R, 4, none⟩ = some (.slice B4x x1.f4.length d4x) ∧ w'.cell? ⟨R, 5, none⟩ = some (.slice B5x x1.f5.length d5x) ∧ w'.cell? ⟨R, 6, none⟩ = some (.int .i64 0) ∧ SPR w [(V, lvc A l c, 26), (R, rc x1 B3x d3x B4x d4x B5x d5x, 30)] [(x1, rc x1 B3x d3x B4x d4x B5x d5x)] w' := (HS _ hFb)
              clear hFb
              refine norm_ (a' := ?_) ?_ ?_
              rotate_left
              · simp only [putAll, Act.put, List.setIfInBounds_toArray, List.set_cons_zero, List.set_cons_succ]
                rfl
              refine two_ (i := 11) (j := 13) (Ni := some 31) (Nj := some 8) #[true, true, true, true, true, true, true, true, true, true, true, true, true, false, false, false] #[true, true, true, true, true, true, true, true, true, true, true, false, true, true, false, false] rfl rfl rfl rfl (by kernel_rfl) (by decide) (by decide) (fun K hK => ?_) (fun K hK => ?_)
              · skip
                refine goes_ Tryz.func38 (by kernel_rfl) rfl #[.agg #[.int .i64 x1.f0, .int .i64 x1.f1, .string x1.f2, .slice B3x x1.f3.length d3x, .slice B4x x1.f4.length d4x, .slice B5x x1.f5.length d5x], .agg #[.int .i64 3, .int .i64 (2 * (-1 - n1)), .string ⟨#[]⟩, .slice none 0 0, .slice none 0 0, .slice none 0 0]] (by rfl) rfl rfl (by simp only [List.map_toArray, List.map_cons, List.map_nil]; rfl) ?_
                with_reducible refine ((HIY.out _ _ _ (hF) 0 rfl)).mono ?_
                rintro e wz ⟨u11, rfl, hz⟩
                refine ⟨_, rfl, ?_⟩
                have hzb : SPR w [(V, lvc A l c, 26), (R, rc x1 B3x d3x B4x d4x B5x d5x, 30)] [(x1, rc x1 B3x d3x B4x d4x B5x d5x)] wz := SPR.tk 2 1 hz
                refine hK.out _ _ (HS _ hzb) (fun hHeld => ?_)
                clear hK K
                refine norm_ (a' := ?_) ?_ ?_
                rotate_left
                · show Act.put _ (some 31) _ = _
                  simp only [Act.put, List.setIfInBounds_toArray, List.set_cons_zero, List.set_cons_succ, i64_w, i32_w]
                  rfl
                exact norm_ (by first | (simp only [putAll, Act.put, List.setIfInBounds_toArray, List.set_cons_zero, List.set_cons_succ]; done) | (simp only [putAll, Act.put, List.setIfInBounds_toArray, List.set_cons_zero, List.set_cons_succ]; rfl)) (hJ3_4_10_11_12 (R12, #[.int .i64 x2.f0, .int .i64 x2.f1, .string x2.f2, .slice B3y x2.f3.length d3y, .slice B4y x2.f4.length d4y, .slice B5y x2.f5.length d5y, .int .i64 0], u11, ()) _ hz)
              · skip
                refine freshR_ (c := #[.int .i64 0, .int .i64 0, .string ⟨#[]⟩, .slice none 0 0, .slice none 0 0, .slice none 0 0, .int .i64 0]) (t := 30) (hF) (by rfl) rfl ?_ ?_
                · first | (go_simp; done) | (go_simp; rfl)
                intro R13 wz hz
                have hzb : SPR w [(V, lvc A l c, 26), (R, rc x1 B3x d3x B4x d4x B5x d5x, 30)] [(x1, rc x1 B3x d3x B4x d4x B5x d5x)] wz := SPR.tk 2 1 hz
                refine hK.out _ _ (HS _ hzb) (fun hHeld => ?_)
                clear hK K
                refine norm_ (a' := ?_) ?_ ?_
                rotate_left
                · show Act.put _ (some 8) _ = _
                  simp only [Act.put, List.setIfInBounds_toArray, List.set_cons_zero, List.set_cons_succ, i64_w, i32_w]
                  rfl
                exact norm_ (by first | (simp only [putAll, Act.put, List.setIfInBounds_toArray, List.set_cons_zero, List.set_cons_succ]; done) | (simp only [putAll, Act.put, List.setIfInBounds_toArray, List.set_cons_zero, List.set_cons_succ]; rfl)) (hJ3_4_10_12_13 (R12, R13, #[.int .i64 x2.f0, .int .i64 x2.f1, .string x2.f2, .slice B3y x2.f3.length d3y, .slice B4y x2.f4.length d4y, .slice B5y x2.f5.length d5y, .int .i64 0], ()) _ hz)
          · skip
            rintro ⟨c4, c11, _⟩ w' hF
            change SPR w [(V, lvc A l c, 26), (R, rc x1 B3x d3x B4x d4x B5x d5x, 30)] [(x1, rc x1 B3x d3x B4x d4x B5x d5x), (x2, c4), (x3, c11)] w' at hF
            obtain ⟨B3y, d3y, B4y, d4y, B5y, d5y, rfl⟩ := hF.cells 1 rfl
            obtain ⟨B3z, d3z, B4z, d4z, B5z, d5z, rfl⟩ := hF.cells 2 rfl
            have hFb : SPR w [(V, lvc A l c, 26), (R, rc x1 B3x d3x B4x d4x B5x d5x, 30)] [(x1, rc x1 B3x d3x B4x d4x B5x d5x)] w' := SPR.tk 2 1 hF
            have hHeld : w'.cell? ⟨V, 0, none⟩ = some (.int .i64 5) ∧ w'.cell? ⟨V, 1, none⟩ = some (.int .i64 0) ∧ w'.cell? ⟨V, 2, none⟩ = some (.string ⟨#[]⟩) ∧ w'.cell? ⟨V, 3, none⟩ = some (.slice A l.length c) ∧ w'.cell? ⟨V, 4, none⟩ = some (.slice none 0 0) ∧ w'.cell? ⟨V, 5, none⟩ = some (.slice none 0 0) ∧ w'.cell? ⟨R, 0, none⟩ = some (.int .i64 x1.f0) ∧ w'.cell? ⟨R, 1, none⟩ = some (.int .i64 x1.f1) ∧ w'.cell? ⟨R, 2, none⟩ = some (.string x1.f2) ∧ w'.cell? ⟨R, 3, none⟩ = some (.slice B3x x1.f3.length d3x) ∧ w'.cell? ⟨R, 4, none⟩ = some (.slice B4x x1.f4.length d4x) ∧ w'.cell? ⟨R, 5, none⟩ = some (.slice B5x x1.f5.length d5x) ∧ w'.cell? ⟨R, 6, none⟩ = some (.int .i64 0) ∧ SPR w [(V, lvc A l c, 26), (R, rc x1 B3x d3x B4x d4x B5x d5x, 30)] [(x1, rc x1 B3x d3x B4x d4x B5x d5x)] w' := (HS _ hFb)
            clear hFb
            refine norm_ (a' := ?_) ?_ ?_
            rotate_left
            · simp only [putAll, Act.put, List.setIfInBounds_toArray, List.set_cons_zero, List.set_cons_succ]
              rfl
            refine two_ (i := 12) (j := 13) (Ni := some 7) (Nj := some 8) #[true, true, true, true, true, true, true, true, true, true, true, true, true, false, false, false] #[true, true, true, true, true, true, true, true, true, true, true, true, false, true, false, false] rfl rfl rfl rfl (by kernel_rfl) (by decide) (by decide) (fun K hK => ?_) (fun K hK => ?_)
            · skip
              refine freshR_ (c := #[.int .i64 0, .int .i64 0, .string ⟨#[]⟩, .slice none 0 0, .slice none 0 0, .slice none 0 0, .int .i64 0]) (t := 30) (hF) (by rfl) rfl ?_ ?_
              · first | (go_simp; done) | (go_simp; rfl)
              intro R12 wz hz
              have hzb : SPR w [(V, lvc A l c, 26), (R, rc x1 B3x d3x B4x d4x B5x d5x, 30)] [(x1, rc x1 B3x d3x B4x d4x B5x d5x)] wz := SPR.tk 2 1 hz
              refine hK.out _ _ (HS _ hzb) (fun hHeld => ?_)
              clear hK K
              refine norm_ (a' := ?_) ?_ ?_
              rotate_left
              · show Act.put _ (some 7) _ = _
                simp only [Act.put, List.setIfInBounds_toArray, List.set_cons_zero, List.set_cons_succ, i64_w, i32_w]
                rfl
              exact norm_ (by first | (simp only [putAll, Act.put, List.setIfInBounds_toArray, List.set_cons_zero, List.set_cons_succ]; done) | (simp only [putAll, Act.put, List.setIfInBounds_toArray, List.set_cons_zero, List.set_cons_succ]; rfl)) (hJ3_4_10_11_12 (R12, #[.int .i64 x2.f0, .int .i64 x2.f1, .string x2.f2, .slice B3y x2.f3.length d3y, .slice B4y x2.f4.length d4y, .slice B5y x2.f5.length d5y, .int .i64 0], #[.int .i64 x3.f0, .int .i64 x3.f1, .string x3.f2, .slice B3z x3.f3.length d3z, .slice B4z x3.f4.length d4z, .slice B5z x3.f5.length d5z, .int .i64 0], ()) _ hz)
            · skip
              refine freshR_ (c := #[.int .i64 0, .int .i64 0, .string ⟨#[]⟩, .slice none 0 0, .slice none 0 0, .slice none 0 0, .int .i64 0]) (t := 30) (hF) (by rfl) rfl ?_ ?_
              · first | (go_simp; done) | (go_simp; rfl)
              intro R13 wz hz
              have hzb : SPR w [(V, lvc A l c, 26), (R, rc x1 B3x d3x B4x d4x B5x d5x, 30)] [(x1, rc x1 B3x d3x B4x d4x B5x d5x)] wz := SPR.tk 2 1 hz
              refine hK.out _ _ (HS _ hzb) (fun hHeld => ?_)
              clear hK K
              refine norm_ (a' := ?_) ?_ ?_
              rotate_left
              · show Act.put _ (some 8) _ = _
                simp only [Act.put, List.setIfInBounds_toArray, List.set_cons_zero, List.set_cons_succ, i64_w, i32_w]
                rfl
              exact norm_ (by first | (simp only [putAll, Act.put, List.setIfInBounds_toArray, List.set_cons_zero, List.set_cons_succ]; done) | (simp only [putAll, Act.put, List.setIfInBounds_toArray, List.set_cons_zero, List.set_cons_succ]; rfl)) (hJ3_4_10_11_13 (R13, #[.int .i64 x2.f0, .int .i64 x2.f1, .string x2.f2, .slice B3y x2.f3.length d3y, .slice B4y x2.f4.length d4y, .slice B5y x2.f5.length d5y, .int .i64 0], #[.int .i64 x3.f0, .int .i64 x3.f1, .string x3.f2, .slice B3z x3.f3.length d3z, .slice B4z x3.f4.length d4z, .slice B5z x3.f5.length d5z, .int .i64 0], ()) _ hz)
        · skip
          rintro ⟨R12, R13, c4, _⟩ w' hF
          change SPR w [(V, lvc A l c, 26), (R, rc x1 B3x d3x B4x d4x B5x d5x, 30), (R12, z7, 30), (R13, z7, 30)] [(x1, rc x1 B3x d3x B4x d4x B5x d5x), (x2, c4)] w' at hF
          obtain ⟨B3y, d3y, B4y, d4y, B5y, d5y, rfl⟩ := hF.cells 1 rfl
          have hFb : SPR w [(V, lvc A l c, 26), (R, rc x1 B3x d3x B4x d4x B5x d5x, 30)] [(x1, rc x1 B3x d3x B4x d4x B5x d5x)] w' := SPR.tk 2 1 hF
          have hHeld : w'.cell? ⟨V, 0, none⟩ = some (.int .i64 5) ∧ w'.cell? ⟨V, 1, none⟩ = some (.int .i64 0) ∧ w'.cell? ⟨V, 2, none⟩ = some (.string ⟨#[]⟩) ∧ w'.cell? ⟨V, 3, none⟩ = some (.slice A l.length c) ∧ w'.cell? ⟨V, 4, none⟩ = some (.slice none 0 0) ∧ w'.cell? ⟨V, 5, none⟩ = some (.slice none 0 0) ∧ w'.cell? ⟨R, 0, none⟩ = some (.int .i64 x1.f0) ∧ w'.cell? ⟨R, 1, none⟩ = some (.int .i64 x1.f1) ∧ w'.cell? ⟨R, 2, none⟩ = some (.string x1.f2) ∧ w'.cell? ⟨R, 3, none⟩ = some (.slice B3x x1.f3.length d3x) ∧ w'.cell? ⟨R, 4, none⟩ = some (.slice B4x x1.f4.length d4x) ∧ w'.cell? ⟨R, 5, none⟩ = some (.slice B5x x1.f5.length d5x) ∧ w'.cell? ⟨R, 6, none⟩ = some (.int .i64 0) ∧ SPR w [(V, lvc A l c, 26), (R, rc x1 B3x d3x B4x d4x B5x d5x, 30)] [(x1, rc x1 B3x d3x B4x d4x B5x d5x)] w' := (HS _ hFb)
          clear hFb
          refine norm_ (a' := ?_) ?_ ?_
          rotate_left
          · simp only [putAll, Act.put, List.setIfInBounds_toArray, List.set_cons_zero, List.set_cons_succ]
            rfl
          refine one_ (i := 11) (N := some 31) #[true, true, true, true, true, true, true, true, true, true, true, true, true, true, false, false] rfl rfl (by kernel_rfl) (by decide) (fun K hK => ?_)
          refine goes_ Tryz.func38 (by kernel_rfl) rfl #[.agg #[.int .i64 x1.f0, .int .i64 x1.f1, .string x1.f2, .slice B3x x1.f3.length d3x, .slice B4x x1.f4.length d4x, .slice B5x x1.f5.length d5x], .agg #[.int .i64 3, .int .i64 (2 * (-1 - n1)), .string ⟨#[]⟩, .slice none 0 0, .slice none 0 0, .slice none 0 0]] (by rfl) rfl rfl (by simp only [List.map_toArray, List.map_cons, List.map_nil]; rfl) ?_
          with_reducible refine ((HIY.out _ _ _ (hF) 0 rfl)).mono ?_
          rintro e wz ⟨u11, rfl, hz⟩
          refine ⟨_, rfl, ?_⟩
          have hzb : SPR w [(V, lvc A l c, 26), (R, rc x1 B3x d3x B4x d4x B5x d5x, 30)] [(x1, rc x1 B3x d3x B4x d4x B5x d5x)] wz := SPR.tk 2 1 hz
          refine hK.out _ _ (HS _ hzb) (fun hHeld => ?_)
          clear hK K
          refine norm_ (a' := ?_) ?_ ?_
          rotate_left
          · show Act.put _ (some 31) _ = _
            simp only [Act.put, List.setIfInBounds_toArray, List.set_cons_zero, List.set_cons_succ, i64_w, i32_w]
            rfl
          exact norm_ (by first | (simp only [putAll, Act.put, List.setIfInBounds_toArray, List.set_cons_zero, List.set_cons_succ]; done) | (simp only [putAll, Act.put, List.setIfInBounds_toArray, List.set_cons_zero, List.set_cons_succ]; rfl)) (hJ3_4_10_11_12_13 (R12, R13, #[.int .i64 x2.f0, .int .i64 x2.f1, .string x2.f2, .slice B3y x2.f3.length d3y, .slice B4y x2.f4.length d4y, .slice B5y x2.f5.length d5y, .int .i64 0], u11, ()) _ hz)
      · skip
        rintro ⟨R13, c4, c11, _⟩ w' hF
        change SPR w [(V, lvc A l c, 26), (R, rc x1 B3x d3x B4x d4x B5x d5x, 30), (R13, z7, 30)] [(x1, rc x1 B3x d3x B4x d4x B5x d5x), (x2, c4), (x3, c11)] w' at hF
        obtain ⟨B3y, d3y, B4y, d4y, B5y, d5y, rfl⟩ := hF.cells 1 rfl
        obtain ⟨B3z, d3z, B4z, d4z, B5z, d5z, rfl⟩ := hF.cells 2 rfl
        have hFb : SPR w [(V, lvc A l c, 26), (R, rc x1 B3x d3x B4x d4x B5x d5x, 30)] [(x1, rc x1 B3x d3x B4x d4x B5x d5x)] w' := SPR.tk 2 1 hF
        have hHeld : w'.cell? ⟨V, 0, none⟩ = some (.int .i64 5) ∧ w'.cell? ⟨V, 1, none⟩ = some (.int .i64 0) ∧ w'.cell? ⟨V, 2, none⟩ = some (.string ⟨#[]⟩) ∧ w'.cell? ⟨V, 3, none⟩ = some (.slice A l.length c) ∧ w'.cell? ⟨V, 4, none⟩ = some (.slice none 0 0) ∧ w'.cell? ⟨V, 5, none⟩ = some (.slice none 0 0) ∧ w'.cell? ⟨R, 0, none⟩ = some (.int .i64 x1.f0) ∧ w'.cell? ⟨R, 1, none⟩ = some (.int .i64 x1.f1) ∧ w'.cell? ⟨R, 2, none⟩ = some (.string x1.f2) ∧ w'.cell? ⟨R, 3, none⟩ = some (.slice B3x x1.f3.length d3x) ∧ w'.cell? ⟨R, 4, none⟩ = some (.slice B4x x1.f4.length d4x) ∧ w'.cell? ⟨R, 5, none⟩ = some (.slice B5x x1.f5.length d5x) ∧ w'.cell? ⟨R, 6, none⟩ = some (.int .i64 0) ∧ SPR w [(V, lvc A l c, 26), (R, rc x1 B3x d3x B4x d4x B5x d5x, 30)] [(x1, rc x1 B3x d3x B4x d4x B5x d5x)] w' := (HS _ hFb)
        clear hFb
        refine norm_ (a' := ?_) ?_ ?_
        rotate_left
        · simp only [putAll, Act.put, List.setIfInBounds_toArray, List.set_cons_zero, List.set_cons_succ]
          rfl
        refine one_ (i := 12) (N := some 7) #[true, true, true, true, true, true, true, true, true, true, true, true, true, true, false, false] rfl rfl (by kernel_rfl) (by decide) (fun K hK => ?_)
        refine freshR_ (c := #[.int .i64 0, .int .i64 0, .string ⟨#[]⟩, .slice none 0 0, .slice none 0 0, .slice none 0 0, .int .i64 0]) (t := 30) (hF) (by rfl) rfl ?_ ?_
        · first | (go_simp; done) | (go_simp; rfl)
        intro R12 wz hz
        have hzb : SPR w [(V, lvc A l c, 26), (R, rc x1 B3x d3x B4x d4x B5x d5x, 30)] [(x1, rc x1 B3x d3x B4x d4x B5x d5x)] wz := SPR.tk 2 1 hz
        refine hK.out _ _ (HS _ hzb) (fun hHeld => ?_)
        clear hK K
        refine norm_ (a' := ?_) ?_ ?_
        rotate_left
        · show Act.put _ (some 7) _ = _
          simp only [Act.put, List.setIfInBounds_toArray, List.set_cons_zero, List.set_cons_succ, i64_w, i32_w]
          rfl
        exact norm_ (by first | (simp only [putAll, Act.put, List.setIfInBounds_toArray, List.set_cons_zero, List.set_cons_succ]; done) | (simp only [putAll, Act.put, List.setIfInBounds_toArray, List.set_cons_zero, List.set_cons_succ]; rfl)) (hJ3_4_10_11_12_13 (R12, R13, #[.int .i64 x2.f0, .int .i64 x2.f1, .string x2.f2, .slice B3y x2.f3.length d3y, .slice B4y x2.f4.length d4y, .slice B5y x2.f5.length d5y, .int .i64 0], #[.int .i64 x3.f0, .int .i64 x3.f1, .string x3.f2, .slice B3z x3.f3.length d3z, .slice B4z x3.f4.length d4z, .slice B5z x3.f5.length d5z, .int .i64 0], ()) _ (SPR.prm hz (.cons _ (.cons _ (.swap _ _ _)))))
    · skip
      rintro ⟨R12, c4, c11, _⟩ w' hF
      change SPR w [(V, lvc A l c, 26), (R, rc x1 B3x d3x B4x d4x B5x d5x, 30), (R12, z7, 30)] [(x1, rc x1 B3x d3x B4x d4x B5x d5x), (x2, c4), (x3, c11)] w' at hF
      obtain ⟨B3y, d3y, B4y, d4y, B5y, d5y, rfl⟩ := hF.cells 1 rfl
      obtain ⟨B3z, d3z, B4z, d4z, B5z, d5z, rfl⟩ := hF.cells 2 rfl
      have hFb : SPR w [(V, lvc A l c, 26), (R, rc x1 B3x d3x B4x d4x B5x d5x, 30)] [(x1, rc x1 B3x d3x B4x d4x B5x d5x)] w' := SPR.tk 2 1 hF
      have hHeld : w'.cell? ⟨V, 0, none⟩ = some (.int .i64 5) ∧ w'.cell? ⟨V, 1, none⟩ = some (.int .i64 0) ∧ w'.cell? ⟨V, 2, none⟩ = some (.string ⟨#[]⟩) ∧ w'.cell? ⟨V, 3, none⟩ = some (.slice A l.length c) ∧ w'.cell? ⟨V, 4, none⟩ = some (.slice none 0 0) ∧ w'.cell? ⟨V, 5, none⟩ = some (.slice none 0 0) ∧ w'.cell? ⟨R, 0, none⟩ = some (.int .i64 x1.f0) ∧ w'.cell? ⟨R, 1, none⟩ = some (.int .i64 x1.f1) ∧ w'.cell? ⟨R, 2, none⟩ = some (.string x1.f2) ∧ w'.cell? ⟨R, 3, none⟩ = some (.slice B3x x1.f3.length d3x) ∧ w'.cell? ⟨R, 4, none⟩ = some (.slice B4x x1.f4.length d4x) ∧ w'.cell? ⟨R, 5, none⟩ = some (.slice B5x x1.f5.length d5x) ∧ w'.cell? ⟨R, 6, none⟩ = some (.int .i64 0) ∧ SPR w [(V, lvc A l c, 26), (R, rc x1 B3x d3x B4x d4x B5x d5x, 30)] [(x1, rc x1 B3x d3x B4x d4x B5x d5x)] w' := (HS _ hFb)
      clear hFb
      refine norm_ (a' := ?_) ?_ ?_
      rotate_left
      · simp only [putAll, Act.put, List.setIfInBounds_toArray, List.set_cons_zero, List.set_cons_succ]
        rfl
      refine one_ (i := 13) (N := some 8) #[true, true, true, true, true, true, true, true, true, true, true, true, true, true, false, false] rfl rfl (by kernel_rfl) (by decide) (fun K hK => ?_)
      refine freshR_ (c := #[.int .i64 0, .int .i64 0, .string ⟨#[]⟩, .slice none 0 0, .slice none 0 0, .slice none 0 0, .int .i64 0]) (t := 30) (hF) (by rfl) rfl ?_ ?_
      · first | (go_simp; done) | (go_simp; rfl)
      intro R13 wz hz
      have hzb : SPR w [(V, lvc A l c, 26), (R, rc x1 B3x d3x B4x d4x B5x d5x, 30)] [(x1, rc x1 B3x d3x B4x d4x B5x d5x)] wz := SPR.tk 2 1 hz
      refine hK.out _ _ (HS _ hzb) (fun hHeld => ?_)
      clear hK K
      refine norm_ (a' := ?_) ?_ ?_
      rotate_left
      · show Act.put _ (some 8) _ = _
        simp only [Act.put, List.setIfInBounds_toArray, List.set_cons_zero, List.set_cons_succ, i64_w, i32_w]
        rfl
      exact norm_ (by first | (simp only [putAll, Act.put, List.setIfInBounds_toArray, List.set_cons_zero, List.set_cons_succ]; done) | (simp only [putAll, Act.put, List.setIfInBounds_toArray, List.set_cons_zero, List.set_cons_succ]; rfl)) (hJ3_4_10_11_12_13 (R12, R13, #[.int .i64 x2.f0, .int .i64 x2.f1, .string x2.f2, .slice B3y x2.f3.length d3y, .slice B4y x2.f4.length d4y, .slice B5y x2.f5.length d5y, .int .i64 0], #[.int .i64 x3.f0, .int .i64 x3.f1, .string x3.f2, .slice B3z x3.f3.length d3z, .slice B4z x3.f4.length d4z, .slice B5z x3.f5.length d5z, .int .i64 0], ()) _ hz)
  rintro ⟨R12, R13, c4, c11, _⟩ w' hF
  change SPR w [(V, lvc A l c, 26), (R, rc x1 B3x d3x B4x d4x B5x d5x, 30), (R12, z7, 30), (R13, z7, 30)] [(x1, rc x1 B3x d3x B4x d4x B5x d5x), (x2, c4), (x3, c11)] w' at hF
  obtain ⟨B3y, d3y, B4y, d4y, B5y, d5y, rfl⟩ := hF.cells 1 rfl
  obtain ⟨B3z, d3z, B4z, d4z, B5z, d5z, rfl⟩ := hF.cells 2 rfl
  have hFb : SPR w [(V, lvc A l c, 26), (R, rc x1 B3x d3x B4x d4x B5x d5x, 30)] [(x1, rc x1 B3x d3x B4x d4x B5x d5x)] w' := SPR.tk 2 1 hF
  have hHeld : w'.cell? ⟨V, 0, none⟩ = some (.int .i64 5) ∧ w'.cell? ⟨V, 1, none⟩ = some (.int .i64 0) ∧ w'.cell? ⟨V, 2, none⟩ = some (.string ⟨#[]⟩) ∧ w'.cell? ⟨V, 3, none⟩ = some (.slice A l.length c) ∧ w'.cell? ⟨V, 4, none⟩ = some (.slice none 0 0) ∧ w'.cell? ⟨V, 5, none⟩ = some (.slice none 0 0) ∧ w'.cell? ⟨R, 0, none⟩ = some (.int .i64 x1.f0) ∧ w'.cell? ⟨R, 1, none⟩ = some (.int .i64 x1.f1) ∧ w'.cell? ⟨R, 2, none⟩ = some (.string x1.f2) ∧ w'.cell? ⟨R, 3, none⟩ = some (.slice B3x x1.f3.length d3x) ∧ w'.cell? ⟨R, 4, none⟩ = some (.slice B4x x1.f4.length d4x) ∧ w'.cell? ⟨R, 5, none⟩ = some (.slice B5x x1.f5.length d5x) ∧ w'.cell? ⟨R, 6, none⟩ = some (.int .i64 0) ∧ SPR w [(V, lvc A l c, 26), (R, rc x1 B3x d3x B4x d4x B5x d5x, 30)] [(x1, rc x1 B3x d3x B4x d4x B5x d5x)] w' := (HS _ hFb)
  clear hFb
  refine norm_ (a' := ?_) ?_ ?_
  rotate_left
  · simp only [putAll, Act.put, List.setIfInBounds_toArray, List.set_cons_zero, List.set_cons_succ]
    rfl
  refine one_ (i := 14) (N := none) #[true, true, true, true, true, true, true, true, true, true, true, true, true, true, true, false] rfl rfl (by kernel_rfl) (by decide) (fun K hK => ?_)
  obtain ⟨y0, y1, y2, y3, y4, y5, y6, f0, f1, f2, f3, f4, f5, f6⟩ := sev_cells (SPR.get hF 2 rfl)
  refine put7R_ (v0 := .int .i64 x2.f0) (v1 := .int .i64 x2.f1) (v2 := .string x2.f2) (v3 := .slice B3y x2.f3.length d3y) (v4 := .slice B4y x2.f4.length d4y) (v5 := .slice B5y x2.f5.length d5y) (v6 := .int .i64 0) hF 2 rfl (by rfl) rfl ?_ ?_
  · first | (go_simp; done) | (go_simp; rfl)
  clear y0 y1 y2 y3 y4 y5 y6 f0 f1 f2 f3 f4 f5 f6
  intro ws0 hs0
  change SPR w [(V, lvc A l c, 26), (R, rc x1 B3x d3x B4x d4x B5x d5x, 30), (R12, rc x2 B3y d3y B4y d4y B5y d5y, 30), (R13, z7, 30)] [(x1, rc x1 B3x d3x B4x d4x B5x d5x), (x2, rc x2 B3y d3y B4y d4y B5y d5y), (x3, rc x3 B3z d3z B4z d4z B5z d5z)] ws0 at hs0
  have hzb : SPR w [(V, lvc A l c, 26), (R, rc x1 B3x d3x B4x d4x B5x d5x, 30)] [(x1, rc x1 B3x d3x B4x d4x B5x d5x)] ws0 := SPR.tk 2 1 hs0
  refine hK.out _ _ (HS _ hzb) (fun hHeld => ?_)
  clear hK K
  refine one_ (i := 15) (N := none) #[true, true, true, true, true, true, true, true, true, true, true, true, true, true, true, true] rfl rfl (by kernel_rfl) (by decide) (fun K hK => ?_)
  obtain ⟨y0, y1, y2, y3, y4, y5, y6, f0, f1, f2, f3, f4, f5, f6⟩ := sev_cells (SPR.get hs0 3 rfl)
  refine put7R_ (v0 := .int .i64 x3.f0) (v1 := .int .i64 x3.f1) (v2 := .string x3.f2) (v3 := .slice B3z x3.f3.length d3z) (v4 := .slice B4z x3.f4.length d4z) (v5 := .slice B5z x3.f5.length d5z) (v6 := .int .i64 0) hs0 3 rfl (by rfl) rfl ?_ ?_
  · first | (go_simp; done) | (go_simp; rfl)
  clear y0 y1 y2 y3 y4 y5 y6 f0 f1 f2 f3 f4 f5 f6
  intro ws1 hs1
  change SPR w [(V, lvc A l c, 26), (R, rc x1 B3x d3x B4x d4x B5x d5x, 30), (R12, rc x2 B3y d3y B4y d4y B5y d5y, 30), (R13, rc x3 B3z d3z B4z d4z B5z d5z, 30)] [(x1, rc x1 B3x d3x B4x d4x B5x d5x), (x2, rc x2 B3y d3y B4y d4y B5y d5y), (x3, rc x3 B3z d3z B4z d4z B5z d5z)] ws1 at hs1
  have hzb : SPR w [(V, lvc A l c, 26), (R, rc x1 B3x d3x B4x d4x B5x d5x, 30)] [(x1, rc x1 B3x d3x B4x d4x B5x d5x)] ws1 := SPR.tk 2 1 hs1
  refine hK.out _ _ (HS _ hzb) (fun hHeld => ?_)
  clear hK K
  refine done_ (by kernel_rfl) ?_
  have HQ := Lib.hid hs1
  clear hs0 hs1 hF hHeld
  have HG1 : Hid (∀ w1 {B3 B4 B5 : Option Addr} {d3 d4 d5 : Nat}, SPR w [(V, lvc A l c, 26), (R, rc x1 B3x d3x B4x d4x B5x d5x, 30), (R12, rc x2 B3y d3y B4y d4y B5y d5y, 30), (R13, rc x3 B3z d3z B4z d4z B5z d5z, 30)] ([(x1, rc x1 B3x d3x B4x d4x B5x d5x), (x2, rc x2 B3y d3y B4y d4y B5y d5y), (x3, rc x3 B3z d3z B4z d4z B5z d5z)] ++ [(x4, #[.int .i64 x4.f0, .int .i64 x4.f1, .string x4.f2, .slice B3 x4.f3.length d3, .slice B4 x4.f4.length d4, .slice B5 x4.f5.length d5, .int .i64 0])]) w1 → Calls Tryz.prog 19 #[.agg #[.int .i64 x4.f0, .int .i64 x4.f1, .string x4.f2, .slice B3 x4.f3.length d3, .slice B4 x4.f4.length d4, .slice B5 x4.f5.length d5, .int .i64 0], .agg #[.int .i64 5, .int .i64 0, .string ⟨#[]⟩, .slice A l.length c, .slice none 0 0, .slice none 0 0]] w1 fun e w' => e = .returned (.bool true) ∧ Below w1.heap.size w1 w') := Lib.hid (by
    intro w1 B3 B4 B5 d3 d4 d5 h
    have h1 := given_any w1 x4 (lV l) (by rw [HX4.out]; exact loose HW.out) (loose HW.out) (h.held 3 rfl) (K_below HKW.out h.bel) w1 (Below.refl _ _)
    simp only [vl, rv] at h1
    rw [show (cmpV x4 (lV l) == 0) = true by rw [HX4.out, cmpV_self]; rfl] at h1
    exact h1)
  have HG2 : Hid (∀ w1, SPR w [(V, lvc A l c, 26), (R, rc x1 B3x d3x B4x d4x B5x d5x, 30), (R12, rc x2 B3y d3y B4y d4y B5y d5y, 30), (R13, rc x3 B3z d3z B4z d4z B5z d5z, 30)] [(x1, rc x1 B3x d3x B4x d4x B5x d5x), (x2, rc x2 B3y d3y B4y d4y B5y d5y), (x3, rc x3 B3z d3z B4z d4z B5z d5z)] w1 → Calls Tryz.prog 19 #[.agg #[.int .i64 x3.f0, .int .i64 x3.f1, .string x3.f2, .slice B3z x3.f3.length d3z, .slice B4z x3.f4.length d4z, .slice B5z x3.f5.length d5z, .int .i64 0], .agg #[.int .i64 x2.f0, .int .i64 x2.f1, .string x2.f2, .slice B3y x2.f3.length d3y, .slice B4y x2.f4.length d4y, .slice B5y x2.f5.length d5y]] w1 fun e w' => e = .returned (.bool true) ∧ Below w1.heap.size w1 w') := Lib.hid (by
    intro w1 h
    have h1 := given_any w1 x3 x2 (by rw [HX3.out]; exact HX2.out.1) HX2.out.1 (h.held 2 rfl) (h.held 1 rfl) w1 (Below.refl _ _)
    simp only [vl, rv] at h1
    rw [show (cmpV x3 x2 == 0) = true by rw [HX3.out, cmpV_self]; rfl] at h1
    exact h1)
  go_wp2_with fail
  refine start_ (n := 28) (S := fun w' => w'.cell? ⟨V, 0, none⟩ = some (.int .i64 5) ∧ w'.cell? ⟨V, 1, none⟩ = some (.int .i64 0) ∧ w'.cell? ⟨V, 2, none⟩ = some (.string ⟨#[]⟩) ∧ w'.cell? ⟨V, 3, none⟩ = some (.slice A l.length c) ∧ w'.cell? ⟨V, 4, none⟩ = some (.slice none 0 0) ∧ w'.cell? ⟨V, 5, none⟩ = some (.slice none 0 0) ∧ w'.cell? ⟨R, 0, none⟩ = some (.int .i64 x1.f0) ∧ w'.cell? ⟨R, 1, none⟩ = some (.int .i64 x1.f1) ∧ w'.cell? ⟨R, 2, none⟩ = some (.string x1.f2) ∧ w'.cell? ⟨R, 3, none⟩ = some (.slice B3x x1.f3.length d3x) ∧ w'.cell? ⟨R, 4, none⟩ = some (.slice B4x x1.f4.length d4x) ∧ w'.cell? ⟨R, 5, none⟩ = some (.slice B5x x1.f5.length d5x) ∧ w'.cell? ⟨R, 6, none⟩ = some (.int .i64 0) ∧ w'.cell? ⟨R12, 0, none⟩ = some (.int .i64 x2.f0) ∧ w'.cell? ⟨R12, 1, none⟩ = some (.int .i64 x2.f1) ∧ w'.cell? ⟨R12, 2, none⟩ = some (.string x2.f2) ∧ w'.cell? ⟨R12, 3, none⟩ = some (.slice B3y x2.f3.length d3y) ∧ w'.cell? ⟨R12, 4, none⟩ = some (.slice B4y x2.f4.length d4y) ∧ w'.cell? ⟨R12, 5, none⟩ = some (.slice B5y x2.f5.length d5y) ∧ w'.cell? ⟨R12, 6, none⟩ = some (.int .i64 0) ∧ w'.cell? ⟨R13, 0, none⟩ = some (.int .i64 x3.f0) ∧ w'.cell? ⟨R13, 1, none⟩ = some (.int .i64 x3.f1) ∧ w'.cell? ⟨R13, 2, none⟩ = some (.string x3.f2) ∧ w'.cell? ⟨R13, 3, none⟩ = some (.slice B3z x3.f3.length d3z) ∧ w'.cell? ⟨R13, 4, none⟩ = some (.slice B4z x3.f4.length d4z) ∧ w'.cell? ⟨R13, 5, none⟩ = some (.slice B5z x3.f5.length d5z) ∧ w'.cell? ⟨R13, 6, none⟩ = some (.int .i64 0) ∧ SPR w [(V, lvc A l c, 26), (R, rc x1 B3x d3x B4x d4x B5x d5x, 30), (R12, rc x2 B3y d3y B4y d4y B5y d5y, 30), (R13, rc x3 B3z d3z B4z d4z B5z d5z, 30)] [(x1, rc x1 B3x d3x B4x d4x B5x d5x), (x2, rc x2 B3y d3y B4y d4y B5y d5y), (x3, rc x3 B3z d3z B4z d4z B5z d5z)] w') (ds := []) #[false, false, false, false, false, false, false, false, false, false, false, false, false, false, false, false, false, false, false, false, false, false, false, false, false, false, false, false] (by kernel_rfl) rfl rfl ⟨((six_cells ((SPR.spl (SPR.drew HQ.out)).get 0 rfl)).1), ((six_cells ((SPR.spl (SPR.drew HQ.out)).get 0 rfl)).2.1), ((six_cells ((SPR.spl (SPR.drew HQ.out)).get 0 rfl)).2.2.1), ((six_cells ((SPR.spl (SPR.drew HQ.out)).get 0 rfl)).2.2.2.1), ((six_cells ((SPR.spl (SPR.drew HQ.out)).get 0 rfl)).2.2.2.2.1), ((six_cells ((SPR.spl (SPR.drew HQ.out)).get 0 rfl)).2.2.2.2.2.1), ((sev_cells ((SPR.spl (SPR.drew HQ.out)).get 1 rfl)).1), ((sev_cells ((SPR.spl (SPR.drew HQ.out)).get 1 rfl)).2.1), ((sev_cells ((SPR.spl (SPR.drew HQ.out)).get 1 rfl)).2.2.1), ((sev_cells ((SPR.spl (SPR.drew HQ.out)).get 1 rfl)).2.2.2.1), ((sev_cells ((SPR.spl (SPR.drew HQ.out)).get 1 rfl)).2.2.2.2.1), ((sev_cells ((SPR.spl (SPR.drew HQ.out)).get 1 rfl)).2.2.2.2.2.1), ((sev_cells ((SPR.spl (SPR.drew HQ.out)).get 1 rfl)).2.2.2.2.2.2.1), ((sev_cells ((SPR.spl (SPR.drew HQ.out)).get 2 rfl)).1), ((sev_cells ((SPR.spl (SPR.drew HQ.out)).get 2 rfl)).2.1), ((sev_cells ((SPR.spl (SPR.drew HQ.out)).get 2 rfl)).2.2.1), ((sev_cells ((SPR.spl (SPR.drew HQ.out)).get 2 rfl)).2.2.2.1), ((sev_cells ((SPR.spl (SPR.drew HQ.out)).get 2 rfl)).2.2.2.2.1), ((sev_cells ((SPR.spl (SPR.drew HQ.out)).get 2 rfl)).2.2.2.2.2.1), ((sev_cells ((SPR.spl (SPR.drew HQ.out)).get 2 rfl)).2.2.2.2.2.2.1), ((sev_cells ((SPR.spl (SPR.drew HQ.out)).get 3 rfl)).1), ((sev_cells ((SPR.spl (SPR.drew HQ.out)).get 3 rfl)).2.1), ((sev_cells ((SPR.spl (SPR.drew HQ.out)).get 3 rfl)).2.2.1), ((sev_cells ((SPR.spl (SPR.drew HQ.out)).get 3 rfl)).2.2.2.1), ((sev_cells ((SPR.spl (SPR.drew HQ.out)).get 3 rfl)).2.2.2.2.1), ((sev_cells ((SPR.spl (SPR.drew HQ.out)).get 3 rfl)).2.2.2.2.2.1), ((sev_cells ((SPR.spl (SPR.drew HQ.out)).get 3 rfl)).2.2.2.2.2.2.1), (SPR.drew HQ.out)⟩ (fun hHeld => ?_)
  refine pure_ (i := 0) (N := some 32) (v := ?_) (a' := ?_) #[true, false, false, false, false, false, false, false, false, false, false, false, false, false, false, false, false, false, false, false, false, false, false, false, false, false, false, false] rfl rfl (by kernel_rfl) (fun _ _ _ h => h) (Or.inl ⟨by rfl, ?_⟩) ?_ ?_
  rotate_left
  · intro w'
    go_simp
    with_reducible rfl
  rotate_left
  · simp only [Act.put, List.setIfInBounds_toArray, List.set_cons_zero, List.set_cons_succ, i64_w, i32_w]
    rfl
  refine take_ (i := 1) (N := some 33) (v := ?_) (a' := ?_) #[true, true, false, false, false, false, false, false, false, false, false, false, false, false, false, false, false, false, false, false, false, false, false, false, false, false, false, false] rfl rfl (by kernel_rfl) (fun _ _ _ h => h) (Or.inl ⟨by rfl, ?_⟩) hHeld ?_ ?_
  rotate_left
  · rintro w' ⟨s0, s1, s2, s3, s4, s5, s6, s7, s8, s9, s10, s11, s12, s13, s14, s15, s16, s17, s18, s19, s20, s21, s22, s23, s24, s25, s26, s27⟩
    go_simp
    with_reducible rfl
  rotate_left
  · simp only [Act.put, List.setIfInBounds_toArray, List.set_cons_zero, List.set_cons_succ, i64_w, i32_w]
    rfl
  refine pure_ (i := 2) (N := some 34) (v := ?_) (a' := ?_) #[true, true, true, false, false, false, false, false, false, false, false, false, false, false, false, false, false, false, false, false, false, false, false, false, false, false, false, false] rfl rfl (by kernel_rfl) (fun _ _ _ h => h) (Or.inl ⟨by rfl, ?_⟩) ?_ ?_
  rotate_left
  · intro w'
    go_simp
    with_reducible rfl
  rotate_left
  · simp only [Act.put, List.setIfInBounds_toArray, List.set_cons_zero, List.set_cons_succ, i64_w, i32_w]
    rfl
  refine pure_ (i := 3) (N := some 35) (v := ?_) (a' := ?_) #[true, true, true, true, false, false, false, false, false, false, false, false, false, false, false, false, false, false, false, false, false, false, false, false, false, false, false, false] rfl rfl (by kernel_rfl) (fun _ _ _ h => h) (Or.inl ⟨by rfl, ?_⟩) ?_ ?_
  rotate_left
  · intro w'
    go_simp
    with_reducible rfl
  rotate_left
  · simp only [Act.put, List.setIfInBounds_toArray, List.set_cons_zero, List.set_cons_succ, i64_w, i32_w]
    rfl
  refine pure_ (i := 4) (N := some 36) (v := ?_) (a' := ?_) #[true, true, true, true, true, false, false, false, false, false, false, false, false, false, false, false, false, false, false, false, false, false, false, false, false, false, false, false] rfl rfl (by kernel_rfl) (fun _ _ _ h => h) (Or.inl ⟨by rfl, ?_⟩) ?_ ?_
  rotate_left
  · intro w'
    go_simp
    with_reducible rfl
  rotate_left
  · simp only [Act.put, List.setIfInBounds_toArray, List.set_cons_zero, List.set_cons_succ, i64_w, i32_w]
    rfl
  refine pure_ (i := 5) (N := some 37) (v := ?_) (a' := ?_) #[true, true, true, true, true, true, false, false, false, false, false, false, false, false, false, false, false, false, false, false, false, false, false, false, false, false, false, false] rfl rfl (by kernel_rfl) (fun _ _ _ h => h) (Or.inl ⟨by rfl, ?_⟩) ?_ ?_
  rotate_left
  · intro w'
    go_simp
    with_reducible rfl
  rotate_left
  · simp only [Act.put, List.setIfInBounds_toArray, List.set_cons_zero, List.set_cons_succ, i64_w, i32_w]
    rfl
  refine take_ (i := 6) (N := some 38) (v := ?_) (a' := ?_) #[true, true, true, true, true, true, true, false, false, false, false, false, false, false, false, false, false, false, false, false, false, false, false, false, false, false, false, false] rfl rfl (by kernel_rfl) (fun _ _ _ h => h) (Or.inl ⟨by rfl, ?_⟩) hHeld ?_ ?_
  rotate_left
  · rintro w' ⟨s0, s1, s2, s3, s4, s5, s6, s7, s8, s9, s10, s11, s12, s13, s14, s15, s16, s17, s18, s19, s20, s21, s22, s23, s24, s25, s26, s27⟩
    go_simp
    with_reducible rfl
  rotate_left
  · simp only [Act.put, List.setIfInBounds_toArray, List.set_cons_zero, List.set_cons_succ, i64_w, i32_w]
    rfl
  refine pure_ (i := 7) (N := some 39) (v := ?_) (a' := ?_) #[true, true, true, true, true, true, true, true, false, false, false, false, false, false, false, false, false, false, false, false, false, false, false, false, false, false, false, false] rfl rfl (by kernel_rfl) (fun _ _ _ h => h) (Or.inl ⟨by rfl, ?_⟩) ?_ ?_
  rotate_left
  · intro w'
    go_simp
    with_reducible rfl
  rotate_left
  · simp only [Act.put, List.setIfInBounds_toArray, List.set_cons_zero, List.set_cons_succ, i64_w, i32_w]
    rfl
  refine pure_ (i := 8) (N := some 40) (v := ?_) (a' := ?_) #[true, true, true, true, true, true, true, true, true, false, false, false, false, false, false, false, false, false, false, false, false, false, false, false, false, false, false, false] rfl rfl (by kernel_rfl) (fun _ _ _ h => h) (Or.inl ⟨by rfl, ?_⟩) ?_ ?_
  rotate_left
  · intro w'
    go_simp
    with_reducible rfl
  rotate_left
  · simp only [Act.put, List.setIfInBounds_toArray, List.set_cons_zero, List.set_cons_succ, i64_w, i32_w]
    rfl
  refine pure_ (i := 9) (N := some 41) (v := ?_) (a' := ?_) #[true, true, true, true, true, true, true, true, true, true, false, false, false, false, false, false, false, false, false, false, false, false, false, false, false, false, false, false] rfl rfl (by kernel_rfl) (fun _ _ _ h => h) (Or.inl ⟨by rfl, ?_⟩) ?_ ?_
  rotate_left
  · intro w'
    go_simp
    with_reducible rfl
  rotate_left
  · simp only [Act.put, List.setIfInBounds_toArray, List.set_cons_zero, List.set_cons_succ, i64_w, i32_w]
    rfl
  refine pure_ (i := 10) (N := some 42) (v := ?_) (a' := ?_) #[true, true, true, true, true, true, true, true, true, true, true, false, false, false, false, false, false, false, false, false, false, false, false, false, false, false, false, false] rfl rfl (by kernel_rfl) (fun _ _ _ h => h) (Or.inl ⟨by rfl, ?_⟩) ?_ ?_
  rotate_left
  · intro w'
    go_simp
    with_reducible rfl
  rotate_left
  · simp only [Act.put, List.setIfInBounds_toArray, List.set_cons_zero, List.set_cons_succ, i64_w, i32_w]
    rfl
  refine take_ (i := 11) (N := some 43) (v := ?_) (a' := ?_) #[true, true, true, true, true, true, true, true, true, true, true, true, false, false, false, false, false, false, false, false, false, false, false, false, false, false, false, false] rfl rfl (by kernel_rfl) (fun _ _ _ h => h) (Or.inl ⟨by rfl, ?_⟩) hHeld ?_ ?_
  rotate_left
  · rintro w' ⟨s0, s1, s2, s3, s4, s5, s6, s7, s8, s9, s10, s11, s12, s13, s14, s15, s16, s17, s18, s19, s20, s21, s22, s23, s24, s25, s26, s27⟩
    go_simp
    with_reducible rfl
  rotate_left
  · simp only [Act.put, List.setIfInBounds_toArray, List.set_cons_zero, List.set_cons_succ, i64_w, i32_w]
    rfl
  refine take_ (i := 13) (N := some 45) (v := ?_) (a' := ?_) #[true, true, true, true, true, true, true, true, true, true, true, true, false, true, false, false, false, false, false, false, false, false, false, false, false, false, false, false] rfl rfl (by kernel_rfl) (fun _ _ _ h => h) (Or.inl ⟨by rfl, ?_⟩) hHeld ?_ ?_
  rotate_left
  · rintro w' ⟨s0, s1, s2, s3, s4, s5, s6, s7, s8, s9, s10, s11, s12, s13, s14, s15, s16, s17, s18, s19, s20, s21, s22, s23, s24, s25, s26, s27⟩
    go_simp
    with_reducible rfl
  rotate_left
  · simp only [Act.put, List.setIfInBounds_toArray, List.set_cons_zero, List.set_cons_succ, i64_w, i32_w]
    rfl
  refine one_ (i := 12) (N := some 44) #[true, true, true, true, true, true, true, true, true, true, true, true, true, true, false, false, false, false, false, false, false, false, false, false, false, false, false, false] rfl rfl (by kernel_rfl) (by decide) (fun K hK => ?_)
  refine goes_ Tryz.func37 (by kernel_rfl) rfl #[.agg #[.int .i64 x1.f0, .int .i64 x1.f1, .string x1.f2, .slice B3x x1.f3.length d3x, .slice B4x x1.f4.length d4x, .slice B5x x1.f5.length d5x]] (by rfl) rfl rfl (by simp only [List.map_toArray, List.map_cons, List.map_nil]; rfl) ?_
  with_reducible refine ((HRW.out _ _ _ (hHeld.2.2.2.2.2.2.2.2.2.2.2.2.2.2.2.2.2.2.2.2.2.2.2.2.2.2.2) 0 rfl)).mono ?_
  rintro e w21 ⟨cs, rfl, hz2⟩
  obtain ⟨B3t, d3t, B4t, d4t, B5t, d5t, rfl⟩ := hz2.cells 3 rfl
  refine ⟨_, rfl, ?_⟩
  have hz3 := SPR.cut hz2
  refine hK.out _ _ ⟨((six_cells ((SPR.spl hz3).get 0 rfl)).1), ((six_cells ((SPR.spl hz3).get 0 rfl)).2.1), ((six_cells ((SPR.spl hz3).get 0 rfl)).2.2.1), ((six_cells ((SPR.spl hz3).get 0 rfl)).2.2.2.1), ((six_cells ((SPR.spl hz3).get 0 rfl)).2.2.2.2.1), ((six_cells ((SPR.spl hz3).get 0 rfl)).2.2.2.2.2.1), ((sev_cells ((SPR.spl hz3).get 1 rfl)).1), ((sev_cells ((SPR.spl hz3).get 1 rfl)).2.1), ((sev_cells ((SPR.spl hz3).get 1 rfl)).2.2.1), ((sev_cells ((SPR.spl hz3).get 1 rfl)).2.2.2.1), ((sev_cells ((SPR.spl hz3).get 1 rfl)).2.2.2.2.1), ((sev_cells ((SPR.spl hz3).get 1 rfl)).2.2.2.2.2.1), ((sev_cells ((SPR.spl hz3).get 1 rfl)).2.2.2.2.2.2.1), ((sev_cells ((SPR.spl hz3).get 2 rfl)).1), ((sev_cells ((SPR.spl hz3).get 2 rfl)).2.1), ((sev_cells ((SPR.spl hz3).get 2 rfl)).2.2.1), ((sev_cells ((SPR.spl hz3).get 2 rfl)).2.2.2.1), ((sev_cells ((SPR.spl hz3).get 2 rfl)).2.2.2.2.1), ((sev_cells ((SPR.spl hz3).get 2 rfl)).2.2.2.2.2.1), ((sev_cells ((SPR.spl hz3).get 2 rfl)).2.2.2.2.2.2.1), ((sev_cells ((SPR.spl hz3).get 3 rfl)).1), ((sev_cells ((SPR.spl hz3).get 3 rfl)).2.1), ((sev_cells ((SPR.spl hz3).get 3 rfl)).2.2.1), ((sev_cells ((SPR.spl hz3).get 3 rfl)).2.2.2.1), ((sev_cells ((SPR.spl hz3).get 3 rfl)).2.2.2.2.1), ((sev_cells ((SPR.spl hz3).get 3 rfl)).2.2.2.2.2.1), ((sev_cells ((SPR.spl hz3).get 3 rfl)).2.2.2.2.2.2.1), hz3⟩ (fun hHeld => ?_)
  clear hK K
  refine norm_ (a' := ?_) ?_ ?_
  rotate_left
  · show Act.put _ (some 44) _ = _
    simp only [Act.put, List.setIfInBounds_toArray, List.set_cons_zero, List.set_cons_succ, i64_w, i32_w]
    rfl
  refine one_ (i := 14) (N := some 46) #[true, true, true, true, true, true, true, true, true, true, true, true, true, true, true, false, false, false, false, false, false, false, false, false, false, false, false, false] rfl rfl (by kernel_rfl) (by decide) (fun K hK => ?_)
  refine goes_ Tryz.func19 (by kernel_rfl) rfl #[.agg #[.int .i64 x4.f0, .int .i64 x4.f1, .string x4.f2, .slice B3t x4.f3.length d3t, .slice B4t x4.f4.length d4t, .slice B5t x4.f5.length d5t, .int .i64 0], .agg #[.int .i64 5, .int .i64 0, .string ⟨#[]⟩, .slice A l.length c, .slice none 0 0, .slice none 0 0]] (by rfl) rfl rfl (by simp only [List.map_toArray, List.map_cons, List.map_nil]; rfl) ?_
  with_reducible refine ((HG1.out _ hz2)).mono ?_
  rintro e w22 ⟨rfl, hb⟩
  refine ⟨_, rfl, ?_⟩
  have hz4 := SPR.below hz3 hb
  refine hK.out _ _ ⟨((six_cells ((SPR.spl hz4).get 0 rfl)).1), ((six_cells ((SPR.spl hz4).get 0 rfl)).2.1), ((six_cells ((SPR.spl hz4).get 0 rfl)).2.2.1), ((six_cells ((SPR.spl hz4).get 0 rfl)).2.2.2.1), ((six_cells ((SPR.spl hz4).get 0 rfl)).2.2.2.2.1), ((six_cells ((SPR.spl hz4).get 0 rfl)).2.2.2.2.2.1), ((sev_cells ((SPR.spl hz4).get 1 rfl)).1), ((sev_cells ((SPR.spl hz4).get 1 rfl)).2.1), ((sev_cells ((SPR.spl hz4).get 1 rfl)).2.2.1), ((sev_cells ((SPR.spl hz4).get 1 rfl)).2.2.2.1), ((sev_cells ((SPR.spl hz4).get 1 rfl)).2.2.2.2.1), ((sev_cells ((SPR.spl hz4).get 1 rfl)).2.2.2.2.2.1), ((sev_cells ((SPR.spl hz4).get 1 rfl)).2.2.2.2.2.2.1), ((sev_cells ((SPR.spl hz4).get 2 rfl)).1), ((sev_cells ((SPR.spl hz4).get 2 rfl)).2.1), ((sev_cells ((SPR.spl hz4).get 2 rfl)).2.2.1), ((sev_cells ((SPR.spl hz4).get 2 rfl)).2.2.2.1), ((sev_cells ((SPR.spl hz4).get 2 rfl)).2.2.2.2.1), ((sev_cells ((SPR.spl hz4).get 2 rfl)).2.2.2.2.2.1), ((sev_cells ((SPR.spl hz4).get 2 rfl)).2.2.2.2.2.2.1), ((sev_cells ((SPR.spl hz4).get 3 rfl)).1), ((sev_cells ((SPR.spl hz4).get 3 rfl)).2.1), ((sev_cells ((SPR.spl hz4).get 3 rfl)).2.2.1), ((sev_cells ((SPR.spl hz4).get 3 rfl)).2.2.2.1), ((sev_cells ((SPR.spl hz4).get 3 rfl)).2.2.2.2.1), ((sev_cells ((SPR.spl hz4).get 3 rfl)).2.2.2.2.2.1), ((sev_cells ((SPR.spl hz4).get 3 rfl)).2.2.2.2.2.2.1), hz4⟩ (fun hHeld => ?_)
  clear hK K
  refine norm_ (a' := ?_) ?_ ?_
  rotate_left
  · show Act.put _ (some 46) _ = _
    simp only [Act.put, List.setIfInBounds_toArray, List.set_cons_zero, List.set_cons_succ, i64_w, i32_w]
    rfl
  refine pure_ (i := 15) (N := some 47) (v := ?_) (a' := ?_) #[true, true, true, true, true, true, true, true, true, true, true, true, true, true, true, true, false, false, false, false, false, false, false, false, false, false, false, false] rfl rfl (by kernel_rfl) (fun _ _ _ h => h) (Or.inl ⟨by rfl, ?_⟩) ?_ ?_
  rotate_left
  · intro w'
    go_simp
    with_reducible rfl
  rotate_left
  · simp only [Act.put, List.setIfInBounds_toArray, List.set_cons_zero, List.set_cons_succ, i64_w, i32_w]
    rfl
  refine pure_ (i := 16) (N := some 48) (v := ?_) (a' := ?_) #[true, true, true, true, true, true, true, true, true, true, true, true, true, true, true, true, true, false, false, false, false, false, false, false, false, false, false, false] rfl rfl (by kernel_rfl) (fun _ _ _ h => h) (Or.inl ⟨by rfl, ?_⟩) ?_ ?_
  rotate_left
  · intro w'
    go_simp
    with_reducible rfl
  rotate_left
  · simp only [Act.put, List.setIfInBounds_toArray, List.set_cons_zero, List.set_cons_succ, i64_w, i32_w]
    rfl
  refine pure_ (i := 17) (N := some 49) (v := ?_) (a' := ?_) #[true, true, true, true, true, true, true, true, true, true, true, true, true, true, true, true, true, true, false, false, false, false, false, false, false, false, false, false] rfl rfl (by kernel_rfl) (fun _ _ _ h => h) (Or.inl ⟨by rfl, ?_⟩) ?_ ?_
  rotate_left
  · intro w'
    go_simp
    with_reducible rfl
  rotate_left
  · simp only [Act.put, List.setIfInBounds_toArray, List.set_cons_zero, List.set_cons_succ, i64_w, i32_w]
    rfl
  refine take_ (i := 18) (N := some 50) (v := ?_) (a' := ?_) #[true, true, true, true, true, true, true, true, true, true, true, true, true, true, true, true, true, true, true, false, false, false, false, false, false, false, false, false] rfl rfl (by kernel_rfl) (fun _ _ _ h => h) (Or.inl ⟨by rfl, ?_⟩) hHeld ?_ ?_
  rotate_left
  · rintro w' ⟨s0, s1, s2, s3, s4, s5, s6, s7, s8, s9, s10, s11, s12, s13, s14, s15, s16, s17, s18, s19, s20, s21, s22, s23, s24, s25, s26, s27⟩
    go_simp
    with_reducible rfl
  rotate_left
  · simp only [Act.put, List.setIfInBounds_toArray, List.set_cons_zero, List.set_cons_succ, i64_w, i32_w]
    rfl
  refine pure_ (i := 19) (N := some 51) (v := ?_) (a' := ?_) #[true, true, true, true, true, true, true, true, true, true, true, true, true, true, true, true, true, true, true, true, false, false, false, false, false, false, false, false] rfl rfl (by kernel_rfl) (fun _ _ _ h => h) (Or.inl ⟨by rfl, ?_⟩) ?_ ?_
  rotate_left
  · intro w'
    go_simp
    with_reducible rfl
  rotate_left
  · simp only [Act.put, List.setIfInBounds_toArray, List.set_cons_zero, List.set_cons_succ, i64_w, i32_w]
    rfl
  refine pure_ (i := 20) (N := some 52) (v := ?_) (a' := ?_) #[true, true, true, true, true, true, true, true, true, true, true, true, true, true, true, true, true, true, true, true, true, false, false, false, false, false, false, false] rfl rfl (by kernel_rfl) (fun _ _ _ h => h) (Or.inl ⟨by rfl, ?_⟩) ?_ ?_
  rotate_left
  · intro w'
    go_simp
    with_reducible rfl
  rotate_left
  · simp only [Act.put, List.setIfInBounds_toArray, List.set_cons_zero, List.set_cons_succ, i64_w, i32_w]
    rfl
  refine pure_ (i := 21) (N := some 53) (v := ?_) (a' := ?_) #[true, true, true, true, true, true, true, true, true, true, true, true, true, true, true, true, true, true, true, true, true, true, false, false, false, false, false, false] rfl rfl (by kernel_rfl) (fun _ _ _ h => h) (Or.inl ⟨by rfl, ?_⟩) ?_ ?_
  rotate_left
  · intro w'
    go_simp
    with_reducible rfl
  rotate_left
  · simp only [Act.put, List.setIfInBounds_toArray, List.set_cons_zero, List.set_cons_succ, i64_w, i32_w]
    rfl
  refine pure_ (i := 23) (N := some 55) (v := ?_) (a' := ?_) #[true, true, true, true, true, true, true, true, true, true, true, true, true, true, true, true, true, true, true, true, true, true, false, true, false, false, false, false] rfl rfl (by kernel_rfl) (fun _ _ _ h => h) (Or.inl ⟨by rfl, ?_⟩) ?_ ?_
  rotate_left
  · intro w'
    go_simp
    with_reducible rfl
  rotate_left
  · simp only [Act.put, List.setIfInBounds_toArray, List.set_cons_zero, List.set_cons_succ, i64_w, i32_w]
    rfl
  refine take_ (i := 22) (N := some 54) (v := ?_) (a' := ?_) #[true, true, true, true, true, true, true, true, true, true, true, true, true, true, true, true, true, true, true, true, true, true, true, true, false, false, false, false] rfl rfl (by kernel_rfl) (fun _ _ _ h => h) (Or.inl ⟨by rfl, ?_⟩) hHeld ?_ ?_
  rotate_left
  · rintro w' ⟨s0, s1, s2, s3, s4, s5, s6, s7, s8, s9, s10, s11, s12, s13, s14, s15, s16, s17, s18, s19, s20, s21, s22, s23, s24, s25, s26, s27⟩
    go_simp
    with_reducible rfl
  rotate_left
  · simp only [Act.put, List.setIfInBounds_toArray, List.set_cons_zero, List.set_cons_succ, i64_w, i32_w]
    rfl
  refine take_ (i := 24) (N := some 56) (v := ?_) (a' := ?_) #[true, true, true, true, true, true, true, true, true, true, true, true, true, true, true, true, true, true, true, true, true, true, true, true, true, false, false, false] rfl rfl (by kernel_rfl) (fun _ _ _ h => h) (Or.inl ⟨by rfl, ?_⟩) hHeld ?_ ?_
  rotate_left
  · rintro w' ⟨s0, s1, s2, s3, s4, s5, s6, s7, s8, s9, s10, s11, s12, s13, s14, s15, s16, s17, s18, s19, s20, s21, s22, s23, s24, s25, s26, s27⟩
    go_simp
    with_reducible rfl
  rotate_left
  · simp only [Act.put, List.setIfInBounds_toArray, List.set_cons_zero, List.set_cons_succ, i64_w, i32_w]
    rfl
  refine one_ (i := 25) (N := some 57) #[true, true, true, true, true, true, true, true, true, true, true, true, true, true, true, true, true, true, true, true, true, true, true, true, true, true, false, false] rfl rfl (by kernel_rfl) (by decide) (fun K hK => ?_)
  refine goes_ Tryz.func19 (by kernel_rfl) rfl #[.agg #[.int .i64 x3.f0, .int .i64 x3.f1, .string x3.f2, .slice B3z x3.f3.length d3z, .slice B4z x3.f4.length d4z, .slice B5z x3.f5.length d5z, .int .i64 0], .agg #[.int .i64 x2.f0, .int .i64 x2.f1, .string x2.f2, .slice B3y x2.f3.length d3y, .slice B4y x2.f4.length d4y, .slice B5y x2.f5.length d5y]] (by rfl) rfl rfl (by simp only [List.map_toArray, List.map_cons, List.map_nil]; rfl) ?_
  with_reducible refine ((HG2.out _ hz4)).mono ?_
  rintro e w23 ⟨rfl, hb⟩
  refine ⟨_, rfl, ?_⟩
  have hz5 := SPR.below hz4 hb
  refine hK.out _ _ ⟨((six_cells ((SPR.spl hz5).get 0 rfl)).1), ((six_cells ((SPR.spl hz5).get 0 rfl)).2.1), ((six_cells ((SPR.spl hz5).get 0 rfl)).2.2.1), ((six_cells ((SPR.spl hz5).get 0 rfl)).2.2.2.1), ((six_cells ((SPR.spl hz5).get 0 rfl)).2.2.2.2.1), ((six_cells ((SPR.spl hz5).get 0 rfl)).2.2.2.2.2.1), ((sev_cells ((SPR.spl hz5).get 1 rfl)).1), ((sev_cells ((SPR.spl hz5).get 1 rfl)).2.1), ((sev_cells ((SPR.spl hz5).get 1 rfl)).2.2.1), ((sev_cells ((SPR.spl hz5).get 1 rfl)).2.2.2.1), ((sev_cells ((SPR.spl hz5).get 1 rfl)).2.2.2.2.1), ((sev_cells ((SPR.spl hz5).get 1 rfl)).2.2.2.2.2.1), ((sev_cells ((SPR.spl hz5).get 1 rfl)).2.2.2.2.2.2.1), ((sev_cells ((SPR.spl hz5).get 2 rfl)).1), ((sev_cells ((SPR.spl hz5).get 2 rfl)).2.1), ((sev_cells ((SPR.spl hz5).get 2 rfl)).2.2.1), ((sev_cells ((SPR.spl hz5).get 2 rfl)).2.2.2.1), ((sev_cells ((SPR.spl hz5).get 2 rfl)).2.2.2.2.1), ((sev_cells ((SPR.spl hz5).get 2 rfl)).2.2.2.2.2.1), ((sev_cells ((SPR.spl hz5).get 2 rfl)).2.2.2.2.2.2.1), ((sev_cells ((SPR.spl hz5).get 3 rfl)).1), ((sev_cells ((SPR.spl hz5).get 3 rfl)).2.1), ((sev_cells ((SPR.spl hz5).get 3 rfl)).2.2.1), ((sev_cells ((SPR.spl hz5).get 3 rfl)).2.2.2.1), ((sev_cells ((SPR.spl hz5).get 3 rfl)).2.2.2.2.1), ((sev_cells ((SPR.spl hz5).get 3 rfl)).2.2.2.2.2.1), ((sev_cells ((SPR.spl hz5).get 3 rfl)).2.2.2.2.2.2.1), hz5⟩ (fun hHeld => ?_)
  clear hK K
  refine norm_ (a' := ?_) ?_ ?_
  rotate_left
  · show Act.put _ (some 57) _ = _
    simp only [Act.put, List.setIfInBounds_toArray, List.set_cons_zero, List.set_cons_succ, i64_w, i32_w]
    rfl
  refine pure_ (i := 26) (N := some 58) (v := ?_) (a' := ?_) #[true, true, true, true, true, true, true, true, true, true, true, true, true, true, true, true, true, true, true, true, true, true, true, true, true, true, true, false] rfl rfl (by kernel_rfl) (fun _ _ _ h => h) (Or.inl ⟨by rfl, ?_⟩) ?_ ?_
  rotate_left
  · intro w'
    go_simp
    with_reducible rfl
  rotate_left
  · simp only [Act.put, List.setIfInBounds_toArray, List.set_cons_zero, List.set_cons_succ, i64_w, i32_w]
    rfl
  refine pure_ (i := 27) (N := some 4) (v := ?_) (a' := ?_) #[true, true, true, true, true, true, true, true, true, true, true, true, true, true, true, true, true, true, true, true, true, true, true, true, true, true, true, true] rfl rfl (by kernel_rfl) (fun _ _ _ h => h) (Or.inl ⟨by rfl, ?_⟩) ?_ ?_
  rotate_left
  · intro w'
    go_simp
    with_reducible rfl
  rotate_left
  · simp only [Act.put, List.setIfInBounds_toArray, List.set_cons_zero, List.set_cons_succ, i64_w, i32_w]
    rfl
  refine done_ (by kernel_rfl) ?_
  go_wp2_with fail
  go_ret
  exact ⟨rfl, hz5.bel⟩
end Go.Proofs.YtdaiodiafahkkaaGreatDoor.ValA
