/-
FnMinMax: min and max of an array are its first and its last element when it is sorted, null of none.
-/
import Derived.Test.YtbnfeicpjmfooaaGreatDoorM3
import Derived.Test.YtbnfeicpjmfooaaGreatDoorM2
set_option linter.unusedSimpArgs false
set_option linter.unusedVariables false
namespace Go.Proofs.YtbnfeicpjmfooaaGreatDoor.ValA
open Go.RowKit Go.Lib Go.Proofs.YtbnfeicpjmfooaaGreatDoorW.PrintWords Go.Proofs.YtbnfeicpjmfooaaGreatDoorW.PrintLast Go.Proofs.YtbnfeicpjmfooaaGreatDoorW.PrintMore Go.Proofs.YtbnfeicpjmfooaaGreatDoor.PzzFits1 Go.Proofs.YtbnfeicpjmfooaaGreatDoor.NumA
theorem run_fld3 (c0 c1 c2 c3 c4 c5 : Value) (W : World) : Sem.run Tryz.prog (Instr.field 26 (.agg #[c0, c1, c2, c3, c4, c5]) 3) W = .ok c3 W := by kernel_rfl
attribute [local go_sem] run_val run_fld3
set_option maxRecDepth 100000 in
set_option maxHeartbeats 20000000 in
theorem core_minmax (w0 : World) (hE : Env w0) (a : V) (hza : Sz a) (A3a A4a A5a : Option Addr) (a3a a4a a5a : Nat) (hKa : k26.K w0 a [.int .i64 a.f0, .int .i64 a.f1, .string a.f2, .slice A3a a.f3.length a3a, .slice A4a a.f4.length a4a, .slice A5a a.f5.length a5a]) :
    Calls Tryz.prog 6 #[.agg #[.int .i64 a.f0, .int .i64 a.f1, .string a.f2, .slice A3a a.f3.length a3a, .slice A4a a.f4.length a4a, .slice A5a a.f5.length a5a]] w0 fun e w' => e = .returned (.bool true) ∧ Below w0.heap.size w0 w' := by
  obtain ⟨w, hw⟩ : ∃ w, w = w0 := ⟨_, rfl⟩
  obtain ⟨_, _, _, _, _, _, hea, _, ga, _, _, _, _⟩ := k26_open hKa
  simp only [List.cons.injEq, Value.int.injEq, Value.string.injEq, Value.slice.injEq, true_and, and_true] at hea
  obtain ⟨⟨rfl, rfl⟩, ⟨rfl, rfl⟩, ⟨rfl, rfl⟩⟩ := hea
  have HG := Lib.hid ga
  have HFA := Lib.hid (fun w1 hb => fits1_any w0 a _ _ _ _ _ _ _ _ _ _ _ _ hKa w1 hb)
  have HFI := Lib.hid (fun w1 hb => fit_any w0 hE a hza _ _ _ _ _ _ _ _ _ _ _ _ hKa w1 hb)
  have HTA := Lib.hid (fun h => toGo_any w0 _ a (Nat.lt_succ_self _) hza h _ hKa)
  have HS := Lib.hid hza
  have HKA := Lib.hid hKa
  clear hE hza hKa ga
  subst hw
  go_enter Tryz.func6, Tryz.ntmps6
  go_wp2_with fail
  obtain ⟨A, hA⟩ : ∃ A, A = w.heap.size := ⟨_, rfl⟩
  obtain ⟨W0, hW0⟩ : ∃ W0, W0 = w.alloc (.cells #[.int .i64 a.f0, .int .i64 a.f1, .string a.f2, .slice A3a a.f3.length a3a, .slice A4a a.f4.length a4a, .slice A5a a.f5.length a5a] 26) := ⟨_, rfl⟩
  have hS : SPN w [(A, #[.int .i64 a.f0, .int .i64 a.f1, .string a.f2, .slice A3a a.f3.length a3a, .slice A4a a.f4.length a4a, .slice A5a a.f5.length a5a], 26)] W0 := by rw [hA, hW0]; exact (sp_nil w).more #[.int .i64 a.f0, .int .i64 a.f1, .string a.f2, .slice A3a a.f3.length a3a, .slice A4a a.f4.length a4a, .slice A5a a.f5.length a5a] 26
  rw [← hW0]
  try rw [← hA]
  have H0 := Lib.hid hS
  have y := six_cells (hS.1.get 0 rfl)
  clear hS hW0 hA
  try go_wp2_with fail
  refine (HFA.out W0 H0.out.1.1).mono ?_
  rintro e w1 ⟨r, rfl, hr, hb⟩
  have H1 := Lib.hid (SPN.below H0.out hb)
  clear hb hr HFA H0 y
  cases r with
  | false =>
    go_wp2_with fail
    go_ret
    exact ⟨rfl, H1.out.1.1⟩
  | true =>
  have ya := six_cells (H1.out.1.get 0 rfl)
  go_wp2_with fail
  refine (HFI.out _ H1.out.1.1).mono ?_
  rintro e w3 ⟨r, rfl, hr, hb⟩
  have H3 := Lib.hid (SPN.below H1.out hb)
  clear hb H1 HFI ya
  cases r with
  | false =>
    go_wp2_with fail
    go_ret
    exact ⟨rfl, H3.out.1.1⟩
  | true =>
  have HWA := Lib.hid (loose (hr (by trivial)))
  clear hr
  have ya := six_cells (H3.out.1.get 0 rfl)
  cases ka : (a.f0 != 5) with
  | true =>
    go_wp2_with fail
    go_ret
    exact ⟨rfl, H3.out.1.1⟩
  | false =>
  have HKF : Hid (a.f0 = 5) := Lib.hid (by simpa using ka)
  obtain ⟨s, hs⟩ : ∃ s, s = lV (sortV a.f3) := ⟨_, rfl⟩
  have HSE : Hid (s.f3 = sortV a.f3) := Lib.hid (by rw [hs]; rfl)
  have HN : Hid (a.f3.length ≤ 1000000) := Lib.hid (by cases HWA.out; assumption)
  have HNS : Hid (s.f3.length ≤ 1000000) := Lib.hid (by rw [HSE.out, sortV_len]; exact HN.out)
  have HEL : Hid (∀ y ∈ a.f3, WL y ∧ Sz y) := Lib.hid (fun y hy => ⟨HWA.out.h3 y hy, sz_h3 HS.out y hy⟩)
  have HES : Hid (∀ y ∈ s.f3, WL y ∧ Sz y) := Lib.hid (fun y hy => HEL.out y (mem_sortV.1 (by rw [← HSE.out]; exact hy)))
  have HSN : Hid (s.f3.length = a.f3.length) := Lib.hid (by rw [HSE.out, sortV_len])
  have HSU := Lib.hid (fun w1 hb => impl_Sort w a s _ _ _ _ _ _ _ _ _ _ _ _ (HTA.out HWA.out) (fun g n w hg => by rw [hs]; exact zz_sort HKF.out HWA.out HS.out hg) w1 hb)
  have HMN := Lib.hid (fun w1 hb => impl_Min w a (mmV true a.f3) _ _ _ _ _ _ _ _ _ _ _ _ (HTA.out HWA.out) (fun g n w hg => zz_Min HKF.out HWA.out HS.out hg) w1 hb)
  have HMX := Lib.hid (fun w1 hb => impl_Max w a (mmV false a.f3) _ _ _ _ _ _ _ _ _ _ _ _ (HTA.out HWA.out) (fun g n w hg => zz_Max HKF.out HWA.out HS.out hg) w1 hb)
  clear hs HTA
  go_wp2_with fail
  refine (HSU.out _ H3.out.1.1).mono ?_
  rintro e w4 ⟨R3, r3, R4, r4, R5, r5, rfl, hM, hb⟩
  have hKS := k26.K_of_M hM
  obtain ⟨_, _, _, _, _, _, hes, _, gs, _, _, _, _⟩ := k26_open hKS
  simp only [List.cons.injEq, Value.int.injEq, Value.string.injEq, Value.slice.injEq, true_and, and_true] at hes
  obtain ⟨⟨rfl, rfl⟩, ⟨rfl, rfl⟩, ⟨rfl, rfl⟩⟩ := hes
  have HGS := Lib.hid gs
  have H4 := Lib.hid (SPN.below H3.out hb)
  clear hb hM hKS gs ya HSU H3 ka
  by_cases h0 : s.f3.length = 0
  · have hn1 : decide ((s.f3.length : Int) > 0) = false := decide_eq_false (by omega)
    have hn2 : decide (0 < (s.f3.length : Int)) = false := decide_eq_false (by omega)
    have hn3 : decide (0 < s.f3.length) = false := decide_eq_false (by omega)
    have hll : ((s.f3.length : Int) == (a.f3.length : Int)) = true := by rw [HSN.out]; simp
    have ha0 : a.f3 = [] := List.eq_nil_of_length_eq_zero (by rw [← HSN.out]; exact h0)
    have HE1 : Hid (mmV true a.f3 = nullV) := Lib.hid (by unfold mmV; rw [if_pos ha0])
    have HE2 : Hid (mmV false a.f3 = nullV) := Lib.hid (by unfold mmV; rw [if_pos ha0])
    have HW1 : Hid (WL nullV) := Lib.hid wl_nullM
    have HW2 := HW1
    clear ha0 h0
    go_wp2_with fail
    obtain ⟨L, hL⟩ : ∃ L, L = w4.heap.size := ⟨_, rfl⟩
    obtain ⟨H, hH⟩ : ∃ H, H = w4.heap.size + 1 := ⟨_, rfl⟩
    obtain ⟨W5, hW5⟩ : ∃ W5, W5 = (w4.alloc (.cells #[.int .i64 0, .int .i64 0, .string ⟨#[]⟩, .slice none 0 0, .slice none 0 0, .slice none 0 0] 26)).alloc (.cells #[.int .i64 0, .int .i64 0, .string ⟨#[]⟩, .slice none 0 0, .slice none 0 0, .slice none 0 0] 26) := ⟨_, rfl⟩
    have hS5 : SPN w4 [(L, #[.int .i64 0, .int .i64 0, .string ⟨#[]⟩, .slice none 0 0, .slice none 0 0, .slice none 0 0], 26), (H, #[.int .i64 0, .int .i64 0, .string ⟨#[]⟩, .slice none 0 0, .slice none 0 0, .slice none 0 0], 26)] W5 := by
      have h := ((sp_nil w4).more #[.int .i64 0, .int .i64 0, .string ⟨#[]⟩, .slice none 0 0, .slice none 0 0, .slice none 0 0] 26).more #[.int .i64 0, .int .i64 0, .string ⟨#[]⟩, .slice none 0 0, .slice none 0 0, .slice none 0 0] 26
      rw [World.size_alloc] at h
      rw [hL, hH, hW5]
      exact h
    rw [← hW5]
    try rw [← hH]
    try rw [← hL]
    have H5 := Lib.hid hS5
    have HK1 := Lib.hid (K_null w4)
    have HK2 := HK1
    clear hS5 hW5 hL hH hn1 hn2 hn3
    refine start_ (n := 19) (S := fun w' => w'.cell? ⟨A, 0, none⟩ = some (.int .i64 a.f0) ∧ w'.cell? ⟨A, 1, none⟩ = some (.int .i64 a.f1) ∧ w'.cell? ⟨A, 2, none⟩ = some (.string a.f2) ∧ w'.cell? ⟨A, 3, none⟩ = some (.slice A3a a.f3.length a3a) ∧ w'.cell? ⟨A, 4, none⟩ = some (.slice A4a a.f4.length a4a) ∧ w'.cell? ⟨A, 5, none⟩ = some (.slice A5a a.f5.length a5a) ∧ w'.cell? ⟨L, 0, none⟩ = some (.int .i64 0) ∧ w'.cell? ⟨L, 1, none⟩ = some (.int .i64 0) ∧ w'.cell? ⟨L, 2, none⟩ = some (.string ⟨#[]⟩) ∧ w'.cell? ⟨L, 3, none⟩ = some (.slice none 0 0) ∧ w'.cell? ⟨L, 4, none⟩ = some (.slice none 0 0) ∧ w'.cell? ⟨L, 5, none⟩ = some (.slice none 0 0) ∧ w'.cell? ⟨H, 0, none⟩ = some (.int .i64 0) ∧ w'.cell? ⟨H, 1, none⟩ = some (.int .i64 0) ∧ w'.cell? ⟨H, 2, none⟩ = some (.string ⟨#[]⟩) ∧ w'.cell? ⟨H, 3, none⟩ = some (.slice none 0 0) ∧ w'.cell? ⟨H, 4, none⟩ = some (.slice none 0 0) ∧ w'.cell? ⟨H, 5, none⟩ = some (.slice none 0 0) ∧ SPN w [(A, #[.int .i64 a.f0, .int .i64 a.f1, .string a.f2, .slice A3a a.f3.length a3a, .slice A4a a.f4.length a4a, .slice A5a a.f5.length a5a], 26)] w' ∧ SPN w4 [(L, #[.int .i64 0, .int .i64 0, .string ⟨#[]⟩, .slice none 0 0, .slice none 0 0, .slice none 0 0], 26), (H, #[.int .i64 0, .int .i64 0, .string ⟨#[]⟩, .slice none 0 0, .slice none 0 0, .slice none 0 0], 26)] w') (ds := []) #[false, false, false, false, false, false, false, false, false, false, false, false, false, false, false, false, false, false, false] (by kernel_rfl) rfl rfl ⟨((six_cells (((SPN.drew (SPN.below H4.out H5.out.1.1)).1).get 0 rfl)).1), ((six_cells (((SPN.drew (SPN.below H4.out H5.out.1.1)).1).get 0 rfl)).2.1), ((six_cells (((SPN.drew (SPN.below H4.out H5.out.1.1)).1).get 0 rfl)).2.2.1), ((six_cells (((SPN.drew (SPN.below H4.out H5.out.1.1)).1).get 0 rfl)).2.2.2.1), ((six_cells (((SPN.drew (SPN.below H4.out H5.out.1.1)).1).get 0 rfl)).2.2.2.2.1), ((six_cells (((SPN.drew (SPN.below H4.out H5.out.1.1)).1).get 0 rfl)).2.2.2.2.2.1), ((six_cells (((SPN.drew H5.out).1).get 0 rfl)).1), ((six_cells (((SPN.drew H5.out).1).get 0 rfl)).2.1), ((six_cells (((SPN.drew H5.out).1).get 0 rfl)).2.2.1), ((six_cells (((SPN.drew H5.out).1).get 0 rfl)).2.2.2.1), ((six_cells (((SPN.drew H5.out).1).get 0 rfl)).2.2.2.2.1), ((six_cells (((SPN.drew H5.out).1).get 0 rfl)).2.2.2.2.2.1), ((six_cells (((SPN.drew H5.out).1).get 1 rfl)).1), ((six_cells (((SPN.drew H5.out).1).get 1 rfl)).2.1), ((six_cells (((SPN.drew H5.out).1).get 1 rfl)).2.2.1), ((six_cells (((SPN.drew H5.out).1).get 1 rfl)).2.2.2.1), ((six_cells (((SPN.drew H5.out).1).get 1 rfl)).2.2.2.2.1), ((six_cells (((SPN.drew H5.out).1).get 1 rfl)).2.2.2.2.2.1), (SPN.drew (SPN.below H4.out H5.out.1.1)), (SPN.drew H5.out)⟩ (fun hHeld => ?_)
    refine pure_ (i := 0) (N := some 34) (v := ?_) (a' := ?_) #[true, false, false, false, false, false, false, false, false, false, false, false, false, false, false, false, false, false, false] rfl rfl (by kernel_rfl) (fun _ _ _ h => h) (Or.inl ⟨by rfl, ?_⟩) ?_ ?_
    rotate_left
    · intro w'
      go_simp
      with_reducible rfl
    rotate_left
    · simp only [Act.put, List.setIfInBounds_toArray, List.set_cons_zero, List.set_cons_succ, i64_w, i32_w]
      rfl
    refine pure_ (i := 1) (N := some 35) (v := ?_) (a' := ?_) #[true, true, false, false, false, false, false, false, false, false, false, false, false, false, false, false, false, false, false] rfl rfl (by kernel_rfl) (fun _ _ _ h => h) (Or.inl ⟨by rfl, ?_⟩) ?_ ?_
    rotate_left
    · intro w'
      go_simp
      with_reducible rfl
    rotate_left
    · simp only [Act.put, List.setIfInBounds_toArray, List.set_cons_zero, List.set_cons_succ, i64_w, i32_w]
      rfl
    refine pure_ (i := 2) (N := some 36) (v := ?_) (a' := ?_) #[true, true, true, false, false, false, false, false, false, false, false, false, false, false, false, false, false, false, false] rfl rfl (by kernel_rfl) (fun _ _ _ h => h) (Or.inl ⟨by rfl, ?_⟩) ?_ ?_
    rotate_left
    · intro w'
      go_simp
      with_reducible rfl
    rotate_left
    · simp only [Act.put, List.setIfInBounds_toArray, List.set_cons_zero, List.set_cons_succ, i64_w, i32_w]
      rfl
    refine take_ (i := 3) (N := some 37) (v := ?_) (a' := ?_) #[true, true, true, true, false, false, false, false, false, false, false, false, false, false, false, false, false, false, false] rfl rfl (by kernel_rfl) (fun _ _ _ h => h) (Or.inl ⟨by rfl, ?_⟩) hHeld ?_ ?_
    rotate_left
    · rintro w' ⟨s0, s1, s2, s3, s4, s5, s6, s7, s8, s9, s10, s11, s12, s13, s14, s15, s16, s17, s18, s19⟩
      go_simp
      with_reducible rfl
    rotate_left
    · simp only [Act.put, List.setIfInBounds_toArray, List.set_cons_zero, List.set_cons_succ, i64_w, i32_w]
      rfl
    refine pure_ (i := 4) (N := some 38) (v := ?_) (a' := ?_) #[true, true, true, true, true, false, false, false, false, false, false, false, false, false, false, false, false, false, false] rfl rfl (by kernel_rfl) (fun _ _ _ h => h) (Or.inl ⟨by rfl, ?_⟩) ?_ ?_
    rotate_left
    · intro w'
      go_simp
      with_reducible rfl
    rotate_left
    · simp only [Act.put, List.setIfInBounds_toArray, List.set_cons_zero, List.set_cons_succ, i64_w, i32_w]
      rfl
    refine pure_ (i := 5) (N := some 39) (v := ?_) (a' := ?_) #[true, true, true, true, true, true, false, false, false, false, false, false, false, false, false, false, false, false, false] rfl rfl (by kernel_rfl) (fun _ _ _ h => h) (Or.inl ⟨by rfl, ?_⟩) ?_ ?_
    rotate_left
    · intro w'
      go_simp
      with_reducible rfl
    rotate_left
    · simp only [Act.put, List.setIfInBounds_toArray, List.set_cons_zero, List.set_cons_succ, i64_w, i32_w]
      rfl
    refine pure_ (i := 6) (N := some 40) (v := ?_) (a' := ?_) #[true, true, true, true, true, true, true, false, false, false, false, false, false, false, false, false, false, false, false] rfl rfl (by kernel_rfl) (fun _ _ _ h => h) (Or.inl ⟨by rfl, ?_⟩) ?_ ?_
    rotate_left
    · intro w'
      go_simp
      with_reducible rfl
    rotate_left
    · simp only [Act.put, List.setIfInBounds_toArray, List.set_cons_zero, List.set_cons_succ, i64_w, i32_w]
      rfl
    refine take_ (i := 7) (N := some 41) (v := ?_) (a' := ?_) #[true, true, true, true, true, true, true, true, false, false, false, false, false, false, false, false, false, false, false] rfl rfl (by kernel_rfl) (fun _ _ _ h => h) (Or.inl ⟨by rfl, ?_⟩) hHeld ?_ ?_
    rotate_left
    · rintro w' ⟨s0, s1, s2, s3, s4, s5, s6, s7, s8, s9, s10, s11, s12, s13, s14, s15, s16, s17, s18, s19⟩
      go_simp
      with_reducible rfl
    rotate_left
    · simp only [Act.put, List.setIfInBounds_toArray, List.set_cons_zero, List.set_cons_succ, i64_w, i32_w]
      rfl
    refine take_ (i := 9) (N := some 43) (v := ?_) (a' := ?_) #[true, true, true, true, true, true, true, true, false, true, false, false, false, false, false, false, false, false, false] rfl rfl (by kernel_rfl) (fun _ _ _ h => h) (Or.inl ⟨by rfl, ?_⟩) hHeld ?_ ?_
    rotate_left
    · rintro w' ⟨s0, s1, s2, s3, s4, s5, s6, s7, s8, s9, s10, s11, s12, s13, s14, s15, s16, s17, s18, s19⟩
      go_simp
      with_reducible rfl
    rotate_left
    · simp only [Act.put, List.setIfInBounds_toArray, List.set_cons_zero, List.set_cons_succ, i64_w, i32_w]
      rfl
    refine one_ (i := 8) (N := some 42) #[true, true, true, true, true, true, true, true, true, true, false, false, false, false, false, false, false, false, false] rfl rfl (by kernel_rfl) (by decide) (fun K hK => ?_)
    refine goes_ Tryz.func24 (by kernel_rfl) rfl #[.agg #[.int .i64 a.f0, .int .i64 a.f1, .string a.f2, .slice A3a a.f3.length a3a, .slice A4a a.f4.length a4a, .slice A5a a.f5.length a5a]] (by rfl) rfl rfl (by simp only [List.map_toArray, List.map_cons, List.map_nil]; rfl) ?_
    with_reducible refine ((HMN.out _ (SPN.bel hHeld.2.2.2.2.2.2.2.2.2.2.2.2.2.2.2.2.2.2.1))).mono ?_
    rintro e wz ⟨P3, p3, P4, p4, P5, p5, rfl, hM, hb8⟩
    refine ⟨_, rfl, ?_⟩
    have hzA8 := SPN.below hHeld.2.2.2.2.2.2.2.2.2.2.2.2.2.2.2.2.2.2.1 hb8
    have hzR8 := SPN.below hHeld.2.2.2.2.2.2.2.2.2.2.2.2.2.2.2.2.2.2.2 hb8
    have HGV8 : Hid (Calls Tryz.prog 18 #[.agg #[.int .i64 (mmV true a.f3).f0, .int .i64 (mmV true a.f3).f1, .string (mmV true a.f3).f2, .slice P3 (mmV true a.f3).f3.length p3, .slice P4 (mmV true a.f3).f4.length p4, .slice P5 (mmV true a.f3).f5.length p5, .int .i64 0], .agg #[.int .i64 0, .int .i64 0, .string ⟨#[]⟩, .slice none 0 0, .slice none 0 0, .slice none 0 0]] wz fun e w' => e = .returned (.bool (cmpV (mmV true a.f3) nullV == 0)) ∧ Below wz.heap.size wz w') := Lib.hid (given_any wz (mmV true a.f3) nullV (by rw [HE1.out]; exact HW1.out) HW1.out (k26.K_of_M hM) (k26.K_below (SPN.bel hzR8) HK1.out) wz (Below.refl _ _))
    rw [show (cmpV (mmV true a.f3) nullV == 0) = true by rw [HE1.out, cmpV_self]; rfl] at HGV8
    clear hM
    refine hK.out _ _ ⟨((six_cells ((hzA8.1).get 0 rfl)).1), ((six_cells ((hzA8.1).get 0 rfl)).2.1), ((six_cells ((hzA8.1).get 0 rfl)).2.2.1), ((six_cells ((hzA8.1).get 0 rfl)).2.2.2.1), ((six_cells ((hzA8.1).get 0 rfl)).2.2.2.2.1), ((six_cells ((hzA8.1).get 0 rfl)).2.2.2.2.2.1), ((six_cells ((hzR8.1).get 0 rfl)).1), ((six_cells ((hzR8.1).get 0 rfl)).2.1), ((six_cells ((hzR8.1).get 0 rfl)).2.2.1), ((six_cells ((hzR8.1).get 0 rfl)).2.2.2.1), ((six_cells ((hzR8.1).get 0 rfl)).2.2.2.2.1), ((six_cells ((hzR8.1).get 0 rfl)).2.2.2.2.2.1), ((six_cells ((hzR8.1).get 1 rfl)).1), ((six_cells ((hzR8.1).get 1 rfl)).2.1), ((six_cells ((hzR8.1).get 1 rfl)).2.2.1), ((six_cells ((hzR8.1).get 1 rfl)).2.2.2.1), ((six_cells ((hzR8.1).get 1 rfl)).2.2.2.2.1), ((six_cells ((hzR8.1).get 1 rfl)).2.2.2.2.2.1), hzA8, hzR8⟩ (fun hHeld => ?_)
    clear hK K
    refine norm_ (a' := ?_) ?_ ?_
    rotate_left
    · show Act.put _ (some 42) _ = _
      simp only [Act.put, List.setIfInBounds_toArray, List.set_cons_zero, List.set_cons_succ, i64_w, i32_w]
      rfl
    refine one_ (i := 10) (N := some 44) #[true, true, true, true, true, true, true, true, true, true, true, false, false, false, false, false, false, false, false] rfl rfl (by kernel_rfl) (by decide) (fun K hK => ?_)
    refine goes_ Tryz.func18 (by kernel_rfl) rfl #[.agg #[.int .i64 (mmV true a.f3).f0, .int .i64 (mmV true a.f3).f1, .string (mmV true a.f3).f2, .slice P3 (mmV true a.f3).f3.length p3, .slice P4 (mmV true a.f3).f4.length p4, .slice P5 (mmV true a.f3).f5.length p5, .int .i64 0], .agg #[.int .i64 0, .int .i64 0, .string ⟨#[]⟩, .slice none 0 0, .slice none 0 0, .slice none 0 0]] (by rfl) rfl rfl (by simp only [List.map_toArray, List.map_cons, List.map_nil]; rfl) ?_
    with_reducible refine (HGV8.out).mono ?_
    rintro e wz ⟨rfl, hb10⟩
    refine ⟨_, rfl, ?_⟩
    have hzA10 := SPN.below hHeld.2.2.2.2.2.2.2.2.2.2.2.2.2.2.2.2.2.2.1 hb10
    have hzR10 := SPN.below hHeld.2.2.2.2.2.2.2.2.2.2.2.2.2.2.2.2.2.2.2 hb10
    refine hK.out _ _ ⟨((six_cells ((hzA10.1).get 0 rfl)).1), ((six_cells ((hzA10.1).get 0 rfl)).2.1), ((six_cells ((hzA10.1).get 0 rfl)).2.2.1), ((six_cells ((hzA10.1).get 0 rfl)).2.2.2.1), ((six_cells ((hzA10.1).get 0 rfl)).2.2.2.2.1), ((six_cells ((hzA10.1).get 0 rfl)).2.2.2.2.2.1), ((six_cells ((hzR10.1).get 0 rfl)).1), ((six_cells ((hzR10.1).get 0 rfl)).2.1), ((six_cells ((hzR10.1).get 0 rfl)).2.2.1), ((six_cells ((hzR10.1).get 0 rfl)).2.2.2.1), ((six_cells ((hzR10.1).get 0 rfl)).2.2.2.2.1), ((six_cells ((hzR10.1).get 0 rfl)).2.2.2.2.2.1), ((six_cells ((hzR10.1).get 1 rfl)).1), ((six_cells ((hzR10.1).get 1 rfl)).2.1), ((six_cells ((hzR10.1).get 1 rfl)).2.2.1), ((six_cells ((hzR10.1).get 1 rfl)).2.2.2.1), ((six_cells ((hzR10.1).get 1 rfl)).2.2.2.2.1), ((six_cells ((hzR10.1).get 1 rfl)).2.2.2.2.2.1), hzA10, hzR10⟩ (fun hHeld => ?_)
    clear hK K
    refine norm_ (a' := ?_) ?_ ?_
    rotate_left
    · show Act.put _ (some 44) _ = _
      simp only [Act.put, List.setIfInBounds_toArray, List.set_cons_zero, List.set_cons_succ, i64_w, i32_w]
      rfl
    refine pure_ (i := 11) (N := some 45) (v := ?_) (a' := ?_) #[true, true, true, true, true, true, true, true, true, true, true, true, false, false, false, false, false, false, false] rfl rfl (by kernel_rfl) (fun _ _ _ h => h) (Or.inl ⟨by rfl, ?_⟩) ?_ ?_
    rotate_left
    · intro w'
      go_simp
      with_reducible rfl
    rotate_left
    · simp only [Act.put, List.setIfInBounds_toArray, List.set_cons_zero, List.set_cons_succ, i64_w, i32_w]
      rfl
    refine pure_ (i := 12) (N := some 46) (v := ?_) (a' := ?_) #[true, true, true, true, true, true, true, true, true, true, true, true, true, false, false, false, false, false, false] rfl rfl (by kernel_rfl) (fun _ _ _ h => h) (Or.inl ⟨by rfl, ?_⟩) ?_ ?_
    rotate_left
    · intro w'
      go_simp
      with_reducible rfl
    rotate_left
    · simp only [Act.put, List.setIfInBounds_toArray, List.set_cons_zero, List.set_cons_succ, i64_w, i32_w]
      rfl
    refine take_ (i := 13) (N := some 47) (v := ?_) (a' := ?_) #[true, true, true, true, true, true, true, true, true, true, true, true, true, true, false, false, false, false, false] rfl rfl (by kernel_rfl) (fun _ _ _ h => h) (Or.inl ⟨by rfl, ?_⟩) hHeld ?_ ?_
    rotate_left
    · rintro w' ⟨s0, s1, s2, s3, s4, s5, s6, s7, s8, s9, s10, s11, s12, s13, s14, s15, s16, s17, s18, s19⟩
      go_simp
      with_reducible rfl
    rotate_left
    · simp only [Act.put, List.setIfInBounds_toArray, List.set_cons_zero, List.set_cons_succ, i64_w, i32_w]
      rfl
    refine take_ (i := 15) (N := some 49) (v := ?_) (a' := ?_) #[true, true, true, true, true, true, true, true, true, true, true, true, true, true, false, true, false, false, false] rfl rfl (by kernel_rfl) (fun _ _ _ h => h) (Or.inl ⟨by rfl, ?_⟩) hHeld ?_ ?_
    rotate_left
    · rintro w' ⟨s0, s1, s2, s3, s4, s5, s6, s7, s8, s9, s10, s11, s12, s13, s14, s15, s16, s17, s18, s19⟩
      go_simp
      with_reducible rfl
    rotate_left
    · simp only [Act.put, List.setIfInBounds_toArray, List.set_cons_zero, List.set_cons_succ, i64_w, i32_w]
      rfl
    refine one_ (i := 14) (N := some 48) #[true, true, true, true, true, true, true, true, true, true, true, true, true, true, true, true, false, false, false] rfl rfl (by kernel_rfl) (by decide) (fun K hK => ?_)
    refine goes_ Tryz.func25 (by kernel_rfl) rfl #[.agg #[.int .i64 a.f0, .int .i64 a.f1, .string a.f2, .slice A3a a.f3.length a3a, .slice A4a a.f4.length a4a, .slice A5a a.f5.length a5a]] (by rfl) rfl rfl (by simp only [List.map_toArray, List.map_cons, List.map_nil]; rfl) ?_
    with_reducible refine ((HMX.out _ (SPN.bel hHeld.2.2.2.2.2.2.2.2.2.2.2.2.2.2.2.2.2.2.1))).mono ?_
    rintro e wz ⟨Q3, k3, Q4, k4, Q5, k5, rfl, hM, hb14⟩
    refine ⟨_, rfl, ?_⟩
    have hzA14 := SPN.below hHeld.2.2.2.2.2.2.2.2.2.2.2.2.2.2.2.2.2.2.1 hb14
    have hzR14 := SPN.below hHeld.2.2.2.2.2.2.2.2.2.2.2.2.2.2.2.2.2.2.2 hb14
    have HGV14 : Hid (Calls Tryz.prog 18 #[.agg #[.int .i64 (mmV false a.f3).f0, .int .i64 (mmV false a.f3).f1, .string (mmV false a.f3).f2, .slice Q3 (mmV false a.f3).f3.length k3, .slice Q4 (mmV false a.f3).f4.length k4, .slice Q5 (mmV false a.f3).f5.length k5, .int .i64 0], .agg #[.int .i64 0, .int .i64 0, .string ⟨#[]⟩, .slice none 0 0, .slice none 0 0, .slice none 0 0]] wz fun e w' => e = .returned (.bool (cmpV (mmV false a.f3) nullV == 0)) ∧ Below wz.heap.size wz w') := Lib.hid (given_any wz (mmV false a.f3) nullV (by rw [HE2.out]; exact HW2.out) HW2.out (k26.K_of_M hM) (k26.K_below (SPN.bel hzR14) HK2.out) wz (Below.refl _ _))
    rw [show (cmpV (mmV false a.f3) nullV == 0) = true by rw [HE2.out, cmpV_self]; rfl] at HGV14
    clear hM
    refine hK.out _ _ ⟨((six_cells ((hzA14.1).get 0 rfl)).1), ((six_cells ((hzA14.1).get 0 rfl)).2.1), ((six_cells ((hzA14.1).get 0 rfl)).2.2.1), ((six_cells ((hzA14.1).get 0 rfl)).2.2.2.1), ((six_cells ((hzA14.1).get 0 rfl)).2.2.2.2.1), ((six_cells ((hzA14.1).get 0 rfl)).2.2.2.2.2.1), ((six_cells ((hzR14.1).get 0 rfl)).1), ((six_cells ((hzR14.1).get 0 rfl)).2.1), ((six_cells ((hzR14.1).get 0 rfl)).2.2.1), ((six_cells ((hzR14.1).get 0 rfl)).2.2.2.1), ((six_cells ((hzR14.1).get 0 rfl)).2.2.2.2.1), ((six_cells ((hzR14.1).get 0 rfl)).2.2.2.2.2.1), ((six_cells ((hzR14.1).get 1 rfl)).1), ((six_cells ((hzR14.1).get 1 rfl)).2.1), ((six_cells ((hzR14.1).get 1 rfl)).2.2.1), ((six_cells ((hzR14.1).get 1 rfl)).2.2.2.1), ((six_cells ((hzR14.1).get 1 rfl)).2.2.2.2.1), ((six_cells ((hzR14.1).get 1 rfl)).2.2.2.2.2.1), hzA14, hzR14⟩ (fun hHeld => ?_)
    clear hK K
    refine norm_ (a' := ?_) ?_ ?_
    rotate_left
    · show Act.put _ (some 48) _ = _
      simp only [Act.put, List.setIfInBounds_toArray, List.set_cons_zero, List.set_cons_succ, i64_w, i32_w]
      rfl
    refine one_ (i := 16) (N := some 50) #[true, true, true, true, true, true, true, true, true, true, true, true, true, true, true, true, true, false, false] rfl rfl (by kernel_rfl) (by decide) (fun K hK => ?_)
    refine goes_ Tryz.func18 (by kernel_rfl) rfl #[.agg #[.int .i64 (mmV false a.f3).f0, .int .i64 (mmV false a.f3).f1, .string (mmV false a.f3).f2, .slice Q3 (mmV false a.f3).f3.length k3, .slice Q4 (mmV false a.f3).f4.length k4, .slice Q5 (mmV false a.f3).f5.length k5, .int .i64 0], .agg #[.int .i64 0, .int .i64 0, .string ⟨#[]⟩, .slice none 0 0, .slice none 0 0, .slice none 0 0]] (by rfl) rfl rfl (by simp only [List.map_toArray, List.map_cons, List.map_nil]; rfl) ?_
    with_reducible refine (HGV14.out).mono ?_
    rintro e wz ⟨rfl, hb16⟩
    refine ⟨_, rfl, ?_⟩
    have hzA16 := SPN.below hHeld.2.2.2.2.2.2.2.2.2.2.2.2.2.2.2.2.2.2.1 hb16
    have hzR16 := SPN.below hHeld.2.2.2.2.2.2.2.2.2.2.2.2.2.2.2.2.2.2.2 hb16
    refine hK.out _ _ ⟨((six_cells ((hzA16.1).get 0 rfl)).1), ((six_cells ((hzA16.1).get 0 rfl)).2.1), ((six_cells ((hzA16.1).get 0 rfl)).2.2.1), ((six_cells ((hzA16.1).get 0 rfl)).2.2.2.1), ((six_cells ((hzA16.1).get 0 rfl)).2.2.2.2.1), ((six_cells ((hzA16.1).get 0 rfl)).2.2.2.2.2.1), ((six_cells ((hzR16.1).get 0 rfl)).1), ((six_cells ((hzR16.1).get 0 rfl)).2.1), ((six_cells ((hzR16.1).get 0 rfl)).2.2.1), ((six_cells ((hzR16.1).get 0 rfl)).2.2.2.1), ((six_cells ((hzR16.1).get 0 rfl)).2.2.2.2.1), ((six_cells ((hzR16.1).get 0 rfl)).2.2.2.2.2.1), ((six_cells ((hzR16.1).get 1 rfl)).1), ((six_cells ((hzR16.1).get 1 rfl)).2.1), ((six_cells ((hzR16.1).get 1 rfl)).2.2.1), ((six_cells ((hzR16.1).get 1 rfl)).2.2.2.1), ((six_cells ((hzR16.1).get 1 rfl)).2.2.2.2.1), ((six_cells ((hzR16.1).get 1 rfl)).2.2.2.2.2.1), hzA16, hzR16⟩ (fun hHeld => ?_)
    clear hK K
    refine norm_ (a' := ?_) ?_ ?_
    rotate_left
    · show Act.put _ (some 50) _ = _
      simp only [Act.put, List.setIfInBounds_toArray, List.set_cons_zero, List.set_cons_succ, i64_w, i32_w]
      rfl
    refine pure_ (i := 17) (N := some 51) (v := ?_) (a' := ?_) #[true, true, true, true, true, true, true, true, true, true, true, true, true, true, true, true, true, true, false] rfl rfl (by kernel_rfl) (fun _ _ _ h => h) (Or.inl ⟨by rfl, ?_⟩) ?_ ?_
    rotate_left
    · intro w'
      go_simp
      with_reducible rfl
    rotate_left
    · simp only [Act.put, List.setIfInBounds_toArray, List.set_cons_zero, List.set_cons_succ, i64_w, i32_w]
      rfl
    refine pure_ (i := 18) (N := some 2) (v := ?_) (a' := ?_) #[true, true, true, true, true, true, true, true, true, true, true, true, true, true, true, true, true, true, true] rfl rfl (by kernel_rfl) (fun _ _ _ h => h) (Or.inl ⟨by rfl, ?_⟩) ?_ ?_
    rotate_left
    · intro w'
      go_simp
      with_reducible rfl
    rotate_left
    · simp only [Act.put, List.setIfInBounds_toArray, List.set_cons_zero, List.set_cons_succ, i64_w, i32_w]
      rfl
    refine done_ (by kernel_rfl) ?_
    go_wp2_with fail
    go_ret
    exact ⟨rfl, hzA16.1.1⟩
  · have hn1 : decide ((s.f3.length : Int) > 0) = true := decide_eq_true (by omega)
    have hn2 : decide (0 < (s.f3.length : Int)) = true := decide_eq_true (by omega)
    have hn3 : decide (0 < s.f3.length) = true := decide_eq_true (by omega)
    have hn4 : 0 < s.f3.length := by omega
    have hll : ((s.f3.length : Int) == (a.f3.length : Int)) = true := by rw [HSN.out]; simp
    have ha0 : a.f3 ≠ [] := fun e => h0 (by rw [HSN.out, e]; rfl)
    clear h0
    go_wp2_with fail
    obtain ⟨L, hL⟩ : ∃ L, L = w4.heap.size := ⟨_, rfl⟩
    obtain ⟨H, hH⟩ : ∃ H, H = w4.heap.size + 1 := ⟨_, rfl⟩
    obtain ⟨W5, hW5⟩ : ∃ W5, W5 = (w4.alloc (.cells #[.int .i64 0, .int .i64 0, .string ⟨#[]⟩, .slice none 0 0, .slice none 0 0, .slice none 0 0] 26)).alloc (.cells #[.int .i64 0, .int .i64 0, .string ⟨#[]⟩, .slice none 0 0, .slice none 0 0, .slice none 0 0] 26) := ⟨_, rfl⟩
    have hS5 : SPN w4 [(L, #[.int .i64 0, .int .i64 0, .string ⟨#[]⟩, .slice none 0 0, .slice none 0 0, .slice none 0 0], 26), (H, #[.int .i64 0, .int .i64 0, .string ⟨#[]⟩, .slice none 0 0, .slice none 0 0, .slice none 0 0], 26)] W5 := by
      have h := ((sp_nil w4).more #[.int .i64 0, .int .i64 0, .string ⟨#[]⟩, .slice none 0 0, .slice none 0 0, .slice none 0 0] 26).more #[.int .i64 0, .int .i64 0, .string ⟨#[]⟩, .slice none 0 0, .slice none 0 0, .slice none 0 0] 26
      rw [World.size_alloc] at h
      rw [hL, hH, hW5]
      exact h
    rw [← hW5]
    try rw [← hH]
    try rw [← hL]
    have H5 := Lib.hid hS5
    clear hS5 hW5 hL hH
    obtain ⟨ad, C3, e3, C4, e4, C5, e5, rfl, x0, x1, x2, x3, x4, x5, hKl⟩ := elem_at HGS.out (Below.refl _ w4) 0 hn4
    obtain ⟨q, hq⟩ : ∃ q, q = s.f3.length - 1 := ⟨_, rfl⟩
    have hqn : q < s.f3.length := by omega
    obtain ⟨ad2, D3, h3, D4, h4, D5, h5, he2, u0, u1, u2, u3, u4, u5, hKh⟩ := elem_at HGS.out (Below.refl _ w4) q hqn
    obtain rfl : ad = ad2 := Option.some.inj he2
    have hwq : wrap64 ((s.f3.length : Int) - 1) = (q : Int) := by have := HNS.out; unfold wrap64; omega
    obtain ⟨lo, hlo⟩ : ∃ lo, lo = rd_T26 s.f3 ((0 : Nat) : Int) := ⟨_, rfl⟩
    obtain ⟨hi, hhi⟩ : ∃ hi, hi = rd_T26 s.f3 (q : Nat) := ⟨_, rfl⟩
    rw [← hlo] at x0 x1 x2 x3 x4 x5 hKl
    have e0 : ad.add (0 * 6) = ad := by cases ad; rfl
    rw [e0] at x0 x1 x2 x3 x4 x5
    rw [← hhi] at u0 u1 u2 u3 u4 u5 hKh
    have HE1 : Hid (mmV true a.f3 = lo) := Lib.hid (by rw [mm_first ha0 (fun y hy => (HEL.out y hy).1), hlo, HSE.out])
    have HE2 : Hid (mmV false a.f3 = hi) := Lib.hid (by rw [mm_last ha0 (fun y hy => (HEL.out y hy).1), hhi, hq, HSE.out])
    have HW1 := Lib.hid (HES.out lo (by rw [hlo]; exact rd_mem s.f3 0 hn4)).1
    have HW2 := Lib.hid (HES.out hi (by rw [hhi]; exact rd_mem s.f3 q hqn)).1
    have HK1 := Lib.hid hKl
    have HK2 := Lib.hid hKh
    have HU := Lib.hid (And.intro x0 (And.intro x1 (And.intro x2 (And.intro x3 (And.intro x4 (And.intro x5 (And.intro u0 (And.intro u1 (And.intro u2 (And.intro u3 (And.intro u4 (And.intro u5 trivial))))))))))))
    have hqn2 : (q : Int) < (s.f3.length : Int) := by omega
    have hq0 : (0 : Int) ≤ (q : Int) := by omega
    have hn0 : (0 : Int) < (s.f3.length : Int) := by omega
    clear hlo hhi hq hKl hKh he2 ha0 x0 x1 x2 x3 x4 x5 u0 u1 u2 u3 u4 u5
    refine start_ (n := 10) (S := fun w' => w'.cell? ad = some (.int .i64 lo.f0) ∧ w'.cell? ⟨ad.block, ad.off + 1, none⟩ = some (.int .i64 lo.f1) ∧ w'.cell? ⟨ad.block, ad.off + 2, none⟩ = some (.string lo.f2) ∧ w'.cell? ⟨ad.block, ad.off + 3, none⟩ = some (.slice C3 lo.f3.length e3) ∧ w'.cell? ⟨ad.block, ad.off + 4, none⟩ = some (.slice C4 lo.f4.length e4) ∧ w'.cell? ⟨ad.block, ad.off + 5, none⟩ = some (.slice C5 lo.f5.length e5) ∧ w'.cell? (ad.add (q * 6)) = some (.int .i64 hi.f0) ∧ w'.cell? ⟨(ad.add (q * 6)).block, (ad.add (q * 6)).off + 1, none⟩ = some (.int .i64 hi.f1) ∧ w'.cell? ⟨(ad.add (q * 6)).block, (ad.add (q * 6)).off + 2, none⟩ = some (.string hi.f2) ∧ w'.cell? ⟨(ad.add (q * 6)).block, (ad.add (q * 6)).off + 3, none⟩ = some (.slice D3 hi.f3.length h3) ∧ w'.cell? ⟨(ad.add (q * 6)).block, (ad.add (q * 6)).off + 4, none⟩ = some (.slice D4 hi.f4.length h4) ∧ w'.cell? ⟨(ad.add (q * 6)).block, (ad.add (q * 6)).off + 5, none⟩ = some (.slice D5 hi.f5.length h5) ∧ Below w4.heap.size w4 w') (ds := []) #[false, false, false, false, false, false, false, false, false, false] (by kernel_rfl) rfl rfl ⟨(pw_cell_below (SPN.bel (SPN.drew H5.out)) HU.out.1), (pw_cell_below (SPN.bel (SPN.drew H5.out)) HU.out.2.1), (pw_cell_below (SPN.bel (SPN.drew H5.out)) HU.out.2.2.1), (pw_cell_below (SPN.bel (SPN.drew H5.out)) HU.out.2.2.2.1), (pw_cell_below (SPN.bel (SPN.drew H5.out)) HU.out.2.2.2.2.1), (pw_cell_below (SPN.bel (SPN.drew H5.out)) HU.out.2.2.2.2.2.1), (pw_cell_below (SPN.bel (SPN.drew H5.out)) HU.out.2.2.2.2.2.2.1), (pw_cell_below (SPN.bel (SPN.drew H5.out)) HU.out.2.2.2.2.2.2.2.1), (pw_cell_below (SPN.bel (SPN.drew H5.out)) HU.out.2.2.2.2.2.2.2.2.1), (pw_cell_below (SPN.bel (SPN.drew H5.out)) HU.out.2.2.2.2.2.2.2.2.2.1), (pw_cell_below (SPN.bel (SPN.drew H5.out)) HU.out.2.2.2.2.2.2.2.2.2.2.1), (pw_cell_below (SPN.bel (SPN.drew H5.out)) HU.out.2.2.2.2.2.2.2.2.2.2.2.1), (SPN.bel (SPN.drew H5.out))⟩ (fun hHeld => ?_)
    refine pure_ (i := 0) (N := some 26) (v := ?_) (a' := ?_) #[true, false, false, false, false, false, false, false, false, false] rfl rfl (by kernel_rfl) (fun _ _ _ h => h) (Or.inl ⟨by rfl, ?_⟩) ?_ ?_
    rotate_left
    · intro w'
      go_simp
      with_reducible rfl
    rotate_left
    · simp only [Act.put, List.setIfInBounds_toArray, List.set_cons_zero, List.set_cons_succ, i64_w, i32_w]
      rfl
    refine pure_ (i := 1) (N := some 27) (v := ?_) (a' := ?_) #[true, true, false, false, false, false, false, false, false, false] rfl rfl (by kernel_rfl) (fun _ _ _ h => h) (Or.inl ⟨by rfl, ?_⟩) ?_ ?_
    rotate_left
    · intro w'
      go_simp
      with_reducible rfl
    rotate_left
    · simp only [Act.put, List.setIfInBounds_toArray, List.set_cons_zero, List.set_cons_succ, i64_w, i32_w]
      rfl
    refine pure_ (i := 3) (N := some 29) (v := ?_) (a' := ?_) #[true, true, false, true, false, false, false, false, false, false] rfl rfl (by kernel_rfl) (fun _ _ _ h => h) (Or.inl ⟨by rfl, ?_⟩) ?_ ?_
    rotate_left
    · intro w'
      go_simp
      with_reducible rfl
    rotate_left
    · simp only [Act.put, List.setIfInBounds_toArray, List.set_cons_zero, List.set_cons_succ, i64_w, i32_w]
      rfl
    refine pure_ (i := 4) (N := some 30) (v := ?_) (a' := ?_) #[true, true, false, true, true, false, false, false, false, false] rfl rfl (by kernel_rfl) (fun _ _ _ h => h) (Or.inl ⟨by rfl, ?_⟩) ?_ ?_
    rotate_left
    · intro w'
      go_simp
      with_reducible rfl
    rotate_left
    · simp only [Act.put, List.setIfInBounds_toArray, List.set_cons_zero, List.set_cons_succ, i64_w, i32_w]
      rfl
    refine pure_ (i := 5) (N := some 31) (v := ?_) (a' := ?_) #[true, true, false, true, true, true, false, false, false, false] rfl rfl (by kernel_rfl) (fun _ _ _ h => h) (Or.inl ⟨by rfl, ?_⟩) ?_ ?_
    rotate_left
    · intro w'
      go_simp
      with_reducible rfl
    rotate_left
    · simp only [Act.put, List.setIfInBounds_toArray, List.set_cons_zero, List.set_cons_succ, i64_w, i32_w]
      rfl
    refine pure_ (i := 6) (N := some 32) (v := ?_) (a' := ?_) #[true, true, false, true, true, true, true, false, false, false] rfl rfl (by kernel_rfl) (fun _ _ _ h => h) (Or.inl ⟨by rfl, ?_⟩) ?_ ?_
    rotate_left
    · intro w'
      go_simp
      with_reducible rfl
    rotate_left
    · simp only [Act.put, List.setIfInBounds_toArray, List.set_cons_zero, List.set_cons_succ, i64_w, i32_w]
      rfl
    refine take_ (i := 2) (N := some 28) (v := ?_) (a' := ?_) #[true, true, true, true, true, true, true, false, false, false] rfl rfl (by kernel_rfl) (fun _ _ _ h => h) (Or.inl ⟨by rfl, ?_⟩) hHeld ?_ ?_
    rotate_left
    · rintro w' ⟨s0, s1, s2, s3, s4, s5, s6, s7, s8, s9, s10, s11, s12⟩
      go_simp
      with_reducible rfl
    rotate_left
    · simp only [Act.put, List.setIfInBounds_toArray, List.set_cons_zero, List.set_cons_succ, i64_w, i32_w]
      rfl
    refine take_ (i := 7) (N := some 33) (v := ?_) (a' := ?_) #[true, true, true, true, true, true, true, true, false, false] rfl rfl (by kernel_rfl) (fun _ _ _ h => h) (Or.inl ⟨by rfl, ?_⟩) hHeld ?_ ?_
    rotate_left
    · rintro w' ⟨s0, s1, s2, s3, s4, s5, s6, s7, s8, s9, s10, s11, s12⟩
      go_simp
      with_reducible rfl
    rotate_left
    · simp only [Act.put, List.setIfInBounds_toArray, List.set_cons_zero, List.set_cons_succ, i64_w, i32_w]
      rfl
    refine one_ (i := 8) (N := none) #[true, true, true, true, true, true, true, true, true, false] rfl rfl (by kernel_rfl) (by decide) (fun K hK => ?_)
    obtain ⟨y0, y1, y2, y3, y4, y5, f0, f1, f2, f3, f4, f5⟩ := six_cells ((H5.out).1.get 0 rfl)
    refine put6_ (v0 := .int .i64 lo.f0) (v1 := .int .i64 lo.f1) (v2 := .string lo.f2) (v3 := .slice C3 lo.f3.length e3) (v4 := .slice C4 lo.f4.length e4) (v5 := .slice C5 lo.f5.length e5) ((SPN.drew H5.out)) 0 rfl (by rfl) rfl ?_ ?_
    · first | (go_simp; done) | (go_simp; rfl)
    clear y0 y1 y2 y3 y4 y5 f0 f1 f2 f3 f4 f5
    intro ws0 hs8
    change SPN w4 [(L, #[.int .i64 lo.f0, .int .i64 lo.f1, .string lo.f2, .slice C3 lo.f3.length e3, .slice C4 lo.f4.length e4, .slice C5 lo.f5.length e5], 26), (H, #[.int .i64 0, .int .i64 0, .string ⟨#[]⟩, .slice none 0 0, .slice none 0 0, .slice none 0 0], 26)] ws0 at hs8
    refine hK.out _ _ ⟨(pw_cell_below (SPN.bel hs8) HU.out.1), (pw_cell_below (SPN.bel hs8) HU.out.2.1), (pw_cell_below (SPN.bel hs8) HU.out.2.2.1), (pw_cell_below (SPN.bel hs8) HU.out.2.2.2.1), (pw_cell_below (SPN.bel hs8) HU.out.2.2.2.2.1), (pw_cell_below (SPN.bel hs8) HU.out.2.2.2.2.2.1), (pw_cell_below (SPN.bel hs8) HU.out.2.2.2.2.2.2.1), (pw_cell_below (SPN.bel hs8) HU.out.2.2.2.2.2.2.2.1), (pw_cell_below (SPN.bel hs8) HU.out.2.2.2.2.2.2.2.2.1), (pw_cell_below (SPN.bel hs8) HU.out.2.2.2.2.2.2.2.2.2.1), (pw_cell_below (SPN.bel hs8) HU.out.2.2.2.2.2.2.2.2.2.2.1), (pw_cell_below (SPN.bel hs8) HU.out.2.2.2.2.2.2.2.2.2.2.2.1), (SPN.bel hs8)⟩ (fun hHeld => ?_)
    clear hK K
    refine one_ (i := 9) (N := none) #[true, true, true, true, true, true, true, true, true, true] rfl rfl (by kernel_rfl) (by decide) (fun K hK => ?_)
    obtain ⟨y0, y1, y2, y3, y4, y5, f0, f1, f2, f3, f4, f5⟩ := six_cells ((hs8).1.get 1 rfl)
    refine put6_ (v0 := .int .i64 hi.f0) (v1 := .int .i64 hi.f1) (v2 := .string hi.f2) (v3 := .slice D3 hi.f3.length h3) (v4 := .slice D4 hi.f4.length h4) (v5 := .slice D5 hi.f5.length h5) (hs8) 1 rfl (by rfl) rfl ?_ ?_
    · first | (go_simp; done) | (go_simp; rfl)
    clear y0 y1 y2 y3 y4 y5 f0 f1 f2 f3 f4 f5
    intro ws1 hs9
    change SPN w4 [(L, #[.int .i64 lo.f0, .int .i64 lo.f1, .string lo.f2, .slice C3 lo.f3.length e3, .slice C4 lo.f4.length e4, .slice C5 lo.f5.length e5], 26), (H, #[.int .i64 hi.f0, .int .i64 hi.f1, .string hi.f2, .slice D3 hi.f3.length h3, .slice D4 hi.f4.length h4, .slice D5 hi.f5.length h5], 26)] ws1 at hs9
    refine hK.out _ _ ⟨(pw_cell_below (SPN.bel hs9) HU.out.1), (pw_cell_below (SPN.bel hs9) HU.out.2.1), (pw_cell_below (SPN.bel hs9) HU.out.2.2.1), (pw_cell_below (SPN.bel hs9) HU.out.2.2.2.1), (pw_cell_below (SPN.bel hs9) HU.out.2.2.2.2.1), (pw_cell_below (SPN.bel hs9) HU.out.2.2.2.2.2.1), (pw_cell_below (SPN.bel hs9) HU.out.2.2.2.2.2.2.1), (pw_cell_below (SPN.bel hs9) HU.out.2.2.2.2.2.2.2.1), (pw_cell_below (SPN.bel hs9) HU.out.2.2.2.2.2.2.2.2.1), (pw_cell_below (SPN.bel hs9) HU.out.2.2.2.2.2.2.2.2.2.1), (pw_cell_below (SPN.bel hs9) HU.out.2.2.2.2.2.2.2.2.2.2.1), (pw_cell_below (SPN.bel hs9) HU.out.2.2.2.2.2.2.2.2.2.2.2.1), (SPN.bel hs9)⟩ (fun hHeld => ?_)
    clear hK K
    refine done_ (by kernel_rfl) ?_
    have H5 := Lib.hid hs9
    clear HU
    go_wp2_with fail
    refine start_ (n := 19) (S := fun w' => w'.cell? ⟨A, 0, none⟩ = some (.int .i64 a.f0) ∧ w'.cell? ⟨A, 1, none⟩ = some (.int .i64 a.f1) ∧ w'.cell? ⟨A, 2, none⟩ = some (.string a.f2) ∧ w'.cell? ⟨A, 3, none⟩ = some (.slice A3a a.f3.length a3a) ∧ w'.cell? ⟨A, 4, none⟩ = some (.slice A4a a.f4.length a4a) ∧ w'.cell? ⟨A, 5, none⟩ = some (.slice A5a a.f5.length a5a) ∧ w'.cell? ⟨L, 0, none⟩ = some (.int .i64 lo.f0) ∧ w'.cell? ⟨L, 1, none⟩ = some (.int .i64 lo.f1) ∧ w'.cell? ⟨L, 2, none⟩ = some (.string lo.f2) ∧ w'.cell? ⟨L, 3, none⟩ = some (.slice C3 lo.f3.length e3) ∧ w'.cell? ⟨L, 4, none⟩ = some (.slice C4 lo.f4.length e4) ∧ w'.cell? ⟨L, 5, none⟩ = some (.slice C5 lo.f5.length e5) ∧ w'.cell? ⟨H, 0, none⟩ = some (.int .i64 hi.f0) ∧ w'.cell? ⟨H, 1, none⟩ = some (.int .i64 hi.f1) ∧ w'.cell? ⟨H, 2, none⟩ = some (.string hi.f2) ∧ w'.cell? ⟨H, 3, none⟩ = some (.slice D3 hi.f3.length h3) ∧ w'.cell? ⟨H, 4, none⟩ = some (.slice D4 hi.f4.length h4) ∧ w'.cell? ⟨H, 5, none⟩ = some (.slice D5 hi.f5.length h5) ∧ SPN w [(A, #[.int .i64 a.f0, .int .i64 a.f1, .string a.f2, .slice A3a a.f3.length a3a, .slice A4a a.f4.length a4a, .slice A5a a.f5.length a5a], 26)] w' ∧ SPN w4 [(L, #[.int .i64 lo.f0, .int .i64 lo.f1, .string lo.f2, .slice C3 lo.f3.length e3, .slice C4 lo.f4.length e4, .slice C5 lo.f5.length e5], 26), (H, #[.int .i64 hi.f0, .int .i64 hi.f1, .string hi.f2, .slice D3 hi.f3.length h3, .slice D4 hi.f4.length h4, .slice D5 hi.f5.length h5], 26)] w') (ds := []) #[false, false, false, false, false, false, false, false, false, false, false, false, false, false, false, false, false, false, false] (by kernel_rfl) rfl rfl ⟨((six_cells (((SPN.drew (SPN.below H4.out H5.out.1.1)).1).get 0 rfl)).1), ((six_cells (((SPN.drew (SPN.below H4.out H5.out.1.1)).1).get 0 rfl)).2.1), ((six_cells (((SPN.drew (SPN.below H4.out H5.out.1.1)).1).get 0 rfl)).2.2.1), ((six_cells (((SPN.drew (SPN.below H4.out H5.out.1.1)).1).get 0 rfl)).2.2.2.1), ((six_cells (((SPN.drew (SPN.below H4.out H5.out.1.1)).1).get 0 rfl)).2.2.2.2.1), ((six_cells (((SPN.drew (SPN.below H4.out H5.out.1.1)).1).get 0 rfl)).2.2.2.2.2.1), ((six_cells (((SPN.drew H5.out).1).get 0 rfl)).1), ((six_cells (((SPN.drew H5.out).1).get 0 rfl)).2.1), ((six_cells (((SPN.drew H5.out).1).get 0 rfl)).2.2.1), ((six_cells (((SPN.drew H5.out).1).get 0 rfl)).2.2.2.1), ((six_cells (((SPN.drew H5.out).1).get 0 rfl)).2.2.2.2.1), ((six_cells (((SPN.drew H5.out).1).get 0 rfl)).2.2.2.2.2.1), ((six_cells (((SPN.drew H5.out).1).get 1 rfl)).1), ((six_cells (((SPN.drew H5.out).1).get 1 rfl)).2.1), ((six_cells (((SPN.drew H5.out).1).get 1 rfl)).2.2.1), ((six_cells (((SPN.drew H5.out).1).get 1 rfl)).2.2.2.1), ((six_cells (((SPN.drew H5.out).1).get 1 rfl)).2.2.2.2.1), ((six_cells (((SPN.drew H5.out).1).get 1 rfl)).2.2.2.2.2.1), (SPN.drew (SPN.below H4.out H5.out.1.1)), (SPN.drew H5.out)⟩ (fun hHeld => ?_)
    refine pure_ (i := 0) (N := some 34) (v := ?_) (a' := ?_) #[true, false, false, false, false, false, false, false, false, false, false, false, false, false, false, false, false, false, false] rfl rfl (by kernel_rfl) (fun _ _ _ h => h) (Or.inl ⟨by rfl, ?_⟩) ?_ ?_
    rotate_left
    · intro w'
      go_simp
      with_reducible rfl
    rotate_left
    · simp only [Act.put, List.setIfInBounds_toArray, List.set_cons_zero, List.set_cons_succ, i64_w, i32_w]
      rfl
    refine pure_ (i := 1) (N := some 35) (v := ?_) (a' := ?_) #[true, true, false, false, false, false, false, false, false, false, false, false, false, false, false, false, false, false, false] rfl rfl (by kernel_rfl) (fun _ _ _ h => h) (Or.inl ⟨by rfl, ?_⟩) ?_ ?_
    rotate_left
    · intro w'
      go_simp
      with_reducible rfl
    rotate_left
    · simp only [Act.put, List.setIfInBounds_toArray, List.set_cons_zero, List.set_cons_succ, i64_w, i32_w]
      rfl
    refine pure_ (i := 2) (N := some 36) (v := ?_) (a' := ?_) #[true, true, true, false, false, false, false, false, false, false, false, false, false, false, false, false, false, false, false] rfl rfl (by kernel_rfl) (fun _ _ _ h => h) (Or.inl ⟨by rfl, ?_⟩) ?_ ?_
    rotate_left
    · intro w'
      go_simp
      with_reducible rfl
    rotate_left
    · simp only [Act.put, List.setIfInBounds_toArray, List.set_cons_zero, List.set_cons_succ, i64_w, i32_w]
      rfl
    refine take_ (i := 3) (N := some 37) (v := ?_) (a' := ?_) #[true, true, true, true, false, false, false, false, false, false, false, false, false, false, false, false, false, false, false] rfl rfl (by kernel_rfl) (fun _ _ _ h => h) (Or.inl ⟨by rfl, ?_⟩) hHeld ?_ ?_
    rotate_left
    · rintro w' ⟨s0, s1, s2, s3, s4, s5, s6, s7, s8, s9, s10, s11, s12, s13, s14, s15, s16, s17, s18, s19⟩
      go_simp
      with_reducible rfl
    rotate_left
    · simp only [Act.put, List.setIfInBounds_toArray, List.set_cons_zero, List.set_cons_succ, i64_w, i32_w]
      rfl
    refine pure_ (i := 4) (N := some 38) (v := ?_) (a' := ?_) #[true, true, true, true, true, false, false, false, false, false, false, false, false, false, false, false, false, false, false] rfl rfl (by kernel_rfl) (fun _ _ _ h => h) (Or.inl ⟨by rfl, ?_⟩) ?_ ?_
    rotate_left
    · intro w'
      go_simp
      with_reducible rfl
    rotate_left
    · simp only [Act.put, List.setIfInBounds_toArray, List.set_cons_zero, List.set_cons_succ, i64_w, i32_w]
      rfl
    refine pure_ (i := 5) (N := some 39) (v := ?_) (a' := ?_) #[true, true, true, true, true, true, false, false, false, false, false, false, false, false, false, false, false, false, false] rfl rfl (by kernel_rfl) (fun _ _ _ h => h) (Or.inl ⟨by rfl, ?_⟩) ?_ ?_
    rotate_left
    · intro w'
      go_simp
      with_reducible rfl
    rotate_left
    · simp only [Act.put, List.setIfInBounds_toArray, List.set_cons_zero, List.set_cons_succ, i64_w, i32_w]
      rfl
    refine pure_ (i := 6) (N := some 40) (v := ?_) (a' := ?_) #[true, true, true, true, true, true, true, false, false, false, false, false, false, false, false, false, false, false, false] rfl rfl (by kernel_rfl) (fun _ _ _ h => h) (Or.inl ⟨by rfl, ?_⟩) ?_ ?_
    rotate_left
    · intro w'
      go_simp
      with_reducible rfl
    rotate_left
    · simp only [Act.put, List.setIfInBounds_toArray, List.set_cons_zero, List.set_cons_succ, i64_w, i32_w]
      rfl
    refine take_ (i := 7) (N := some 41) (v := ?_) (a' := ?_) #[true, true, true, true, true, true, true, true, false, false, false, false, false, false, false, false, false, false, false] rfl rfl (by kernel_rfl) (fun _ _ _ h => h) (Or.inl ⟨by rfl, ?_⟩) hHeld ?_ ?_
    rotate_left
    · rintro w' ⟨s0, s1, s2, s3, s4, s5, s6, s7, s8, s9, s10, s11, s12, s13, s14, s15, s16, s17, s18, s19⟩
      go_simp
      with_reducible rfl
    rotate_left
    · simp only [Act.put, List.setIfInBounds_toArray, List.set_cons_zero, List.set_cons_succ, i64_w, i32_w]
      rfl
    refine take_ (i := 9) (N := some 43) (v := ?_) (a' := ?_) #[true, true, true, true, true, true, true, true, false, true, false, false, false, false, false, false, false, false, false] rfl rfl (by kernel_rfl) (fun _ _ _ h => h) (Or.inl ⟨by rfl, ?_⟩) hHeld ?_ ?_
    rotate_left
    · rintro w' ⟨s0, s1, s2, s3, s4, s5, s6, s7, s8, s9, s10, s11, s12, s13, s14, s15, s16, s17, s18, s19⟩
      go_simp
      with_reducible rfl
    rotate_left
    · simp only [Act.put, List.setIfInBounds_toArray, List.set_cons_zero, List.set_cons_succ, i64_w, i32_w]
      rfl
    refine one_ (i := 8) (N := some 42) #[true, true, true, true, true, true, true, true, true, true, false, false, false, false, false, false, false, false, false] rfl rfl (by kernel_rfl) (by decide) (fun K hK => ?_)
    refine goes_ Tryz.func24 (by kernel_rfl) rfl #[.agg #[.int .i64 a.f0, .int .i64 a.f1, .string a.f2, .slice A3a a.f3.length a3a, .slice A4a a.f4.length a4a, .slice A5a a.f5.length a5a]] (by rfl) rfl rfl (by simp only [List.map_toArray, List.map_cons, List.map_nil]; rfl) ?_
    with_reducible refine ((HMN.out _ (SPN.bel hHeld.2.2.2.2.2.2.2.2.2.2.2.2.2.2.2.2.2.2.1))).mono ?_
    rintro e wz ⟨P3, p3, P4, p4, P5, p5, rfl, hM, hb8⟩
    refine ⟨_, rfl, ?_⟩
    have hzA8 := SPN.below hHeld.2.2.2.2.2.2.2.2.2.2.2.2.2.2.2.2.2.2.1 hb8
    have hzR8 := SPN.below hHeld.2.2.2.2.2.2.2.2.2.2.2.2.2.2.2.2.2.2.2 hb8
    have HGV8 : Hid (Calls Tryz.prog 18 #[.agg #[.int .i64 (mmV true a.f3).f0, .int .i64 (mmV true a.f3).f1, .string (mmV true a.f3).f2, .slice P3 (mmV true a.f3).f3.length p3, .slice P4 (mmV true a.f3).f4.length p4, .slice P5 (mmV true a.f3).f5.length p5, .int .i64 0], .agg #[.int .i64 lo.f0, .int .i64 lo.f1, .string lo.f2, .slice C3 lo.f3.length e3, .slice C4 lo.f4.length e4, .slice C5 lo.f5.length e5]] wz fun e w' => e = .returned (.bool (cmpV (mmV true a.f3) lo == 0)) ∧ Below wz.heap.size wz w') := Lib.hid (given_any wz (mmV true a.f3) lo (by rw [HE1.out]; exact HW1.out) HW1.out (k26.K_of_M hM) (k26.K_below (SPN.bel hzR8) HK1.out) wz (Below.refl _ _))
    rw [show (cmpV (mmV true a.f3) lo == 0) = true by rw [HE1.out, cmpV_self]; rfl] at HGV8
    clear hM
    refine hK.out _ _ ⟨((six_cells ((hzA8.1).get 0 rfl)).1), ((six_cells ((hzA8.1).get 0 rfl)).2.1), ((six_cells ((hzA8.1).get 0 rfl)).2.2.1), ((six_cells ((hzA8.1).get 0 rfl)).2.2.2.1), ((six_cells ((hzA8.1).get 0 rfl)).2.2.2.2.1), ((six_cells ((hzA8.1).get 0 rfl)).2.2.2.2.2.1), ((six_cells ((hzR8.1).get 0 rfl)).1), ((six_cells ((hzR8.1).get 0 rfl)).2.1), ((six_cells ((hzR8.1).get 0 rfl)).2.2.1), ((six_cells ((hzR8.1).get 0 rfl)).2.2.2.1), ((six_cells ((hzR8.1).get 0 rfl)).2.2.2.2.1), ((six_cells ((hzR8.1).get 0 rfl)).2.2.2.2.2.1), ((six_cells ((hzR8.1).get 1 rfl)).1), ((six_cells ((hzR8.1).get 1 rfl)).2.1), ((six_cells ((hzR8.1).get 1 rfl)).2.2.1), ((six_cells ((hzR8.1).get 1 rfl)).2.2.2.1), ((six_cells ((hzR8.1).get 1 rfl)).2.2.2.2.1), ((six_cells ((hzR8.1).get 1 rfl)).2.2.2.2.2.1), hzA8, hzR8⟩ (fun hHeld => ?_)
    clear hK K
    refine norm_ (a' := ?_) ?_ ?_
    rotate_left
    · show Act.put _ (some 42) _ = _
      simp only [Act.put, List.setIfInBounds_toArray, List.set_cons_zero, List.set_cons_succ, i64_w, i32_w]
      rfl
    refine one_ (i := 10) (N := some 44) #[true, true, true, true, true, true, true, true, true, true, true, false, false, false, false, false, false, false, false] rfl rfl (by kernel_rfl) (by decide) (fun K hK => ?_)
    refine goes_ Tryz.func18 (by kernel_rfl) rfl #[.agg #[.int .i64 (mmV true a.f3).f0, .int .i64 (mmV true a.f3).f1, .string (mmV true a.f3).f2, .slice P3 (mmV true a.f3).f3.length p3, .slice P4 (mmV true a.f3).f4.length p4, .slice P5 (mmV true a.f3).f5.length p5, .int .i64 0], .agg #[.int .i64 lo.f0, .int .i64 lo.f1, .string lo.f2, .slice C3 lo.f3.length e3, .slice C4 lo.f4.length e4, .slice C5 lo.f5.length e5]] (by rfl) rfl rfl (by simp only [List.map_toArray, List.map_cons, List.map_nil]; rfl) ?_
    with_reducible refine (HGV8.out).mono ?_
    rintro e wz ⟨rfl, hb10⟩
    refine ⟨_, rfl, ?_⟩
    have hzA10 := SPN.below hHeld.2.2.2.2.2.2.2.2.2.2.2.2.2.2.2.2.2.2.1 hb10
    have hzR10 := SPN.below hHeld.2.2.2.2.2.2.2.2.2.2.2.2.2.2.2.2.2.2.2 hb10
    refine hK.out _ _ ⟨((six_cells ((hzA10.1).get 0 rfl)).1), ((six_cells ((hzA10.1).get 0 rfl)).2.1), ((six_cells ((hzA10.1).get 0 rfl)).2.2.1), ((six_cells ((hzA10.1).get 0 rfl)).2.2.2.1), ((six_cells ((hzA10.1).get 0 rfl)).2.2.2.2.1), ((six_cells ((hzA10.1).get 0 rfl)).2.2.2.2.2.1), ((six_cells ((hzR10.1).get 0 rfl)).1), ((six_cells ((hzR10.1).get 0 rfl)).2.1), ((six_cells ((hzR10.1).get 0 rfl)).2.2.1), ((six_cells ((hzR10.1).get 0 rfl)).2.2.2.1), ((six_cells ((hzR10.1).get 0 rfl)).2.2.2.2.1), ((six_cells ((hzR10.1).get 0 rfl)).2.2.2.2.2.1), ((six_cells ((hzR10.1).get 1 rfl)).1), ((six_cells ((hzR10.1).get 1 rfl)).2.1), ((six_cells ((hzR10.1).get 1 rfl)).2.2.1), ((six_cells ((hzR10.1).get 1 rfl)).2.2.2.1), ((six_cells ((hzR10.1).get 1 rfl)).2.2.2.2.1), ((six_cells ((hzR10.1).get 1 rfl)).2.2.2.2.2.1), hzA10, hzR10⟩ (fun hHeld => ?_)
    clear hK K
    refine norm_ (a' := ?_) ?_ ?_
    rotate_left
    · show Act.put _ (some 44) _ = _
      simp only [Act.put, List.setIfInBounds_toArray, List.set_cons_zero, List.set_cons_succ, i64_w, i32_w]
      rfl
    refine pure_ (i := 11) (N := some 45) (v := ?_) (a' := ?_) #[true, true, true, true, true, true, true, true, true, true, true, true, false, false, false, false, false, false, false] rfl rfl (by kernel_rfl) (fun _ _ _ h => h) (Or.inl ⟨by rfl, ?_⟩) ?_ ?_
    rotate_left
    · intro w'
      go_simp
      with_reducible rfl
    rotate_left
    · simp only [Act.put, List.setIfInBounds_toArray, List.set_cons_zero, List.set_cons_succ, i64_w, i32_w]
      rfl
    refine pure_ (i := 12) (N := some 46) (v := ?_) (a' := ?_) #[true, true, true, true, true, true, true, true, true, true, true, true, true, false, false, false, false, false, false] rfl rfl (by kernel_rfl) (fun _ _ _ h => h) (Or.inl ⟨by rfl, ?_⟩) ?_ ?_
    rotate_left
    · intro w'
      go_simp
      with_reducible rfl
    rotate_left
    · simp only [Act.put, List.setIfInBounds_toArray, List.set_cons_zero, List.set_cons_succ, i64_w, i32_w]
      rfl
    refine take_ (i := 13) (N := some 47) (v := ?_) (a' := ?_) #[true, true, true, true, true, true, true, true, true, true, true, true, true, true, false, false, false, false, false] rfl rfl (by kernel_rfl) (fun _ _ _ h => h) (Or.inl ⟨by rfl, ?_⟩) hHeld ?_ ?_
    rotate_left
    · rintro w' ⟨s0, s1, s2, s3, s4, s5, s6, s7, s8, s9, s10, s11, s12, s13, s14, s15, s16, s17, s18, s19⟩
      go_simp
      with_reducible rfl
    rotate_left
    · simp only [Act.put, List.setIfInBounds_toArray, List.set_cons_zero, List.set_cons_succ, i64_w, i32_w]
      rfl
    refine take_ (i := 15) (N := some 49) (v := ?_) (a' := ?_) #[true, true, true, true, true, true, true, true, true, true, true, true, true, true, false, true, false, false, false] rfl rfl (by kernel_rfl) (fun _ _ _ h => h) (Or.inl ⟨by rfl, ?_⟩) hHeld ?_ ?_
    rotate_left
    · rintro w' ⟨s0, s1, s2, s3, s4, s5, s6, s7, s8, s9, s10, s11, s12, s13, s14, s15, s16, s17, s18, s19⟩
      go_simp
      with_reducible rfl
    rotate_left
    · simp only [Act.put, List.setIfInBounds_toArray, List.set_cons_zero, List.set_cons_succ, i64_w, i32_w]
      rfl
    refine one_ (i := 14) (N := some 48) #[true, true, true, true, true, true, true, true, true, true, true, true, true, true, true, true, false, false, false] rfl rfl (by kernel_rfl) (by decide) (fun K hK => ?_)
    refine goes_ Tryz.func25 (by kernel_rfl) rfl #[.agg #[.int .i64 a.f0, .int .i64 a.f1, .string a.f2, .slice A3a a.f3.length a3a, .slice A4a a.f4.length a4a, .slice A5a a.f5.length a5a]] (by rfl) rfl rfl (by simp only [List.map_toArray, List.map_cons, List.map_nil]; rfl) ?_
    with_reducible refine ((HMX.out _ (SPN.bel hHeld.2.2.2.2.2.2.2.2.2.2.2.2.2.2.2.2.2.2.1))).mono ?_
    rintro e wz ⟨Q3, k3, Q4, k4, Q5, k5, rfl, hM, hb14⟩
    refine ⟨_, rfl, ?_⟩
    have hzA14 := SPN.below hHeld.2.2.2.2.2.2.2.2.2.2.2.2.2.2.2.2.2.2.1 hb14
    have hzR14 := SPN.below hHeld.2.2.2.2.2.2.2.2.2.2.2.2.2.2.2.2.2.2.2 hb14
    have HGV14 : Hid (Calls Tryz.prog 18 #[.agg #[.int .i64 (mmV false a.f3).f0, .int .i64 (mmV false a.f3).f1, .string (mmV false a.f3).f2, .slice Q3 (mmV false a.f3).f3.length k3, .slice Q4 (mmV false a.f3).f4.length k4, .slice Q5 (mmV false a.f3).f5.length k5, .int .i64 0], .agg #[.int .i64 hi.f0, .int .i64 hi.f1, .string hi.f2, .slice D3 hi.f3.length h3, .slice D4 hi.f4.length h4, .slice D5 hi.f5.length h5]] wz fun e w' => e = .returned (.bool (cmpV (mmV false a.f3) hi == 0)) ∧ Below wz.heap.size wz w') := Lib.hid (given_any wz (mmV false a.f3) hi (by rw [HE2.out]; exact HW2.out) HW2.out (k26.K_of_M hM) (k26.K_below (SPN.bel hzR14) HK2.out) wz (Below.refl _ _))
    rw [show (cmpV (mmV false a.f3) hi == 0) = true by rw [HE2.out, cmpV_self]; rfl] at HGV14
    clear hM
    refine hK.out _ _ ⟨((six_cells ((hzA14.1).get 0 rfl)).1), ((six_cells ((hzA14.1).get 0 rfl)).2.1), ((six_cells ((hzA14.1).get 0 rfl)).2.2.1), ((six_cells ((hzA14.1).get 0 rfl)).2.2.2.1), ((six_cells ((hzA14.1).get 0 rfl)).2.2.2.2.1), ((six_cells ((hzA14.1).get 0 rfl)).2.2.2.2.2.1), ((six_cells ((hzR14.1).get 0 rfl)).1), ((six_cells ((hzR14.1).get 0 rfl)).2.1), ((six_cells ((hzR14.1).get 0 rfl)).2.2.1), ((six_cells ((hzR14.1).get 0 rfl)).2.2.2.1), ((six_cells ((hzR14.1).get 0 rfl)).2.2.2.2.1), ((six_cells ((hzR14.1).get 0 rfl)).2.2.2.2.2.1), ((six_cells ((hzR14.1).get 1 rfl)).1), ((six_cells ((hzR14.1).get 1 rfl)).2.1), ((six_cells ((hzR14.1).get 1 rfl)).2.2.1), ((six_cells ((hzR14.1).get 1 rfl)).2.2.2.1), ((six_cells ((hzR14.1).get 1 rfl)).2.2.2.2.1), ((six_cells ((hzR14.1).get 1 rfl)).2.2.2.2.2.1), hzA14, hzR14⟩ (fun hHeld => ?_)
    clear hK K
    refine norm_ (a' := ?_) ?_ ?_
    rotate_left
    · show Act.put _ (some 48) _ = _
      simp only [Act.put, List.setIfInBounds_toArray, List.set_cons_zero, List.set_cons_succ, i64_w, i32_w]
      rfl
    refine one_ (i := 16) (N := some 50) #[true, true, true, true, true, true, true, true, true, true, true, true, true, true, true, true, true, false, false] rfl rfl (by kernel_rfl) (by decide) (fun K hK => ?_)
    refine goes_ Tryz.func18 (by kernel_rfl) rfl #[.agg #[.int .i64 (mmV false a.f3).f0, .int .i64 (mmV false a.f3).f1, .string (mmV false a.f3).f2, .slice Q3 (mmV false a.f3).f3.length k3, .slice Q4 (mmV false a.f3).f4.length k4, .slice Q5 (mmV false a.f3).f5.length k5, .int .i64 0], .agg #[.int .i64 hi.f0, .int .i64 hi.f1, .string hi.f2, .slice D3 hi.f3.length h3, .slice D4 hi.f4.length h4, .slice D5 hi.f5.length h5]] (by rfl) rfl rfl (by simp only [List.map_toArray, List.map_cons, List.map_nil]; rfl) ?_
    with_reducible refine (HGV14.out).mono ?_
    rintro e wz ⟨rfl, hb16⟩
    refine ⟨_, rfl, ?_⟩
    have hzA16 := SPN.below hHeld.2.2.2.2.2.2.2.2.2.2.2.2.2.2.2.2.2.2.1 hb16
    have hzR16 := SPN.below hHeld.2.2.2.2.2.2.2.2.2.2.2.2.2.2.2.2.2.2.2 hb16
    refine hK.out _ _ ⟨((six_cells ((hzA16.1).get 0 rfl)).1), ((six_cells ((hzA16.1).get 0 rfl)).2.1), ((six_cells ((hzA16.1).get 0 rfl)).2.2.1), ((six_cells ((hzA16.1).get 0 rfl)).2.2.2.1), ((six_cells ((hzA16.1).get 0 rfl)).2.2.2.2.1), ((six_cells ((hzA16.1).get 0 rfl)).2.2.2.2.2.1), ((six_cells ((hzR16.1).get 0 rfl)).1), ((six_cells ((hzR16.1).get 0 rfl)).2.1), ((six_cells ((hzR16.1).get 0 rfl)).2.2.1), ((six_cells ((hzR16.1).get 0 rfl)).2.2.2.1), ((six_cells ((hzR16.1).get 0 rfl)).2.2.2.2.1), ((six_cells ((hzR16.1).get 0 rfl)).2.2.2.2.2.1), ((six_cells ((hzR16.1).get 1 rfl)).1), ((six_cells ((hzR16.1).get 1 rfl)).2.1), ((six_cells ((hzR16.1).get 1 rfl)).2.2.1), ((six_cells ((hzR16.1).get 1 rfl)).2.2.2.1), ((six_cells ((hzR16.1).get 1 rfl)).2.2.2.2.1), ((six_cells ((hzR16.1).get 1 rfl)).2.2.2.2.2.1), hzA16, hzR16⟩ (fun hHeld => ?_)
    clear hK K
    refine norm_ (a' := ?_) ?_ ?_
    rotate_left
    · show Act.put _ (some 50) _ = _
      simp only [Act.put, List.setIfInBounds_toArray, List.set_cons_zero, List.set_cons_succ, i64_w, i32_w]
      rfl
    refine pure_ (i := 17) (N := some 51) (v := ?_) (a' := ?_) #[true, true, true, true, true, true, true, true, true, true, true, true, true, true, true, true, true, true, false] rfl rfl (by kernel_rfl) (fun _ _ _ h => h) (Or.inl ⟨by rfl, ?_⟩) ?_ ?_
    rotate_left
    · intro w'
      go_simp
      with_reducible rfl
    rotate_left
    · simp only [Act.put, List.setIfInBounds_toArray, List.set_cons_zero, List.set_cons_succ, i64_w, i32_w]
      rfl
    refine pure_ (i := 18) (N := some 2) (v := ?_) (a' := ?_) #[true, true, true, true, true, true, true, true, true, true, true, true, true, true, true, true, true, true, true] rfl rfl (by kernel_rfl) (fun _ _ _ h => h) (Or.inl ⟨by rfl, ?_⟩) ?_ ?_
    rotate_left
    · intro w'
      go_simp
      with_reducible rfl
    rotate_left
    · simp only [Act.put, List.setIfInBounds_toArray, List.set_cons_zero, List.set_cons_succ, i64_w, i32_w]
      rfl
    refine done_ (by kernel_rfl) ?_
    go_wp2_with fail
    go_ret
    exact ⟨rfl, hzA16.1.1⟩
theorem fnMinMax_any (w0 : World) (hE : Env w0) (xa : V) (hza : Sz xa) (Ka Ha : Int) (sa : ByteArray) (A3a A4a A5a : Option Addr) (n3a c3a n4a c4a n5a c5a : Nat) (hKa : k26.K w0 xa [.int .i64 Ka, .int .i64 Ha, .string sa, .slice A3a n3a c3a, .slice A4a n4a c4a, .slice A5a n5a c5a]) :
    Calls Tryz.prog 6 #[.agg #[.int .i64 Ka, .int .i64 Ha, .string sa, .slice A3a n3a c3a, .slice A4a n4a c4a, .slice A5a n5a c5a]] w0 fun e w' => e = .returned (.bool true) ∧ Below w0.heap.size w0 w' := by
  have hKa' := hKa
  obtain ⟨_, _, _, _, _, _, hea, _⟩ := k26_open hKa
  simp only [List.cons.injEq, Value.int.injEq, Value.string.injEq, Value.slice.injEq, true_and, and_true] at hea
  obtain ⟨rfl, rfl, rfl, ⟨rfl, rfl, rfl⟩, ⟨rfl, rfl, rfl⟩, ⟨rfl, rfl, rfl⟩⟩ := hea
  exact core_minmax w0 hE xa hza _ _ _ _ _ _ hKa'
end Go.Proofs.YtbnfeicpjmfooaaGreatDoor.ValA
