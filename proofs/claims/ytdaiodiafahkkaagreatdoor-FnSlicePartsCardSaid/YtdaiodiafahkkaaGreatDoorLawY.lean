/-
FnSliceParts: an array or a text is what is ahead of a bound, and then what is from it on.
-/
import Derived.Test.YtdaiodiafahkkaaGreatDoorML
set_option linter.unusedSimpArgs false
set_option linter.unusedVariables false
namespace Go.Proofs.YtdaiodiafahkkaaGreatDoor.ValA
open Go.RowKit Go.Lib Go.Proofs.YtdaiodiafahkkaaGreatDoorW.PrintWords Go.Proofs.YtdaiodiafahkkaaGreatDoorW.PrintLast Go.Proofs.YtdaiodiafahkkaaGreatDoorW.PrintMore Go.Proofs.YtdaiodiafahkkaaGreatDoor.PzzFits1 Go.Proofs.YtdaiodiafahkkaaGreatDoor.NumA
attribute [local go_sem] run_val
set_option maxRecDepth 100000 in
set_option maxHeartbeats 20000000 in
theorem fnSliceParts_45 (w0 : World) (hE : Env w0) (x : V) (hz : Sz x) (K H : Int) (s : ByteArray) (A3 A4 A5 : Option Addr) (n3 c3 n4 c4 n5 c5 : Nat) (hK : k26.K w0 x [.int .i64 K, .int .i64 H, .string s, .slice A3 n3 c3, .slice A4 n4 c4, .slice A5 n5 c5]) (m1 : Int) (zm1 : (Lit.int .i8 m1).wf = true) (hk : x.f0 = 4 ∨ x.f0 = 5) :
    Calls Tryz.prog 8 #[.agg #[.int .i64 K, .int .i64 H, .string s, .slice A3 n3 c3, .slice A4 n4 c4, .slice A5 n5 c5], .int .i8 m1] w0 fun e w' => e = .returned (.bool true) ∧ Below w0.heap.size w0 w' := by
  have HKX := Lib.hid hk
  clear hk
  obtain ⟨w, hw⟩ : ∃ w, w = w0 := ⟨_, rfl⟩
  obtain ⟨B3, e3, B4, e4, B5, e5, he, l3, g3, l4, g4, l5, g5⟩ := k26_open hK
  simp only [List.cons.injEq, Value.int.injEq, Value.string.injEq, Value.slice.injEq, true_and, and_true] at he
  obtain ⟨rfl, rfl, rfl, ⟨rfl, rfl, rfl⟩, ⟨rfl, rfl, rfl⟩, ⟨rfl, rfl, rfl⟩⟩ := he
  clear l3 g3 l4 g4 l5 g5
  have bm1 := i8_in zm1
  clear zm1
  have HZ := Lib.hid hz
  have HF1 := Lib.hid (fun w1 hb => fits1_size w0 x x.f0 x.f1 x.f2 A3 A4 A5 x.f3.length c3 x.f4.length c4 x.f5.length c5 hK w1 hb)
  have HF := Lib.hid (fun w1 g (hg : g = w1.heap.size) hb => fits_at w0 hE hz hK w1 g hg hb)
  have HT := Lib.hid (fun h => toGo_any w0 _ x (Nat.lt_succ_self _) hz h _ hK)
  have HNU := Lib.hid (fun n w => number_any n w)
  have HKW := Lib.hid hK
  clear hE hz hK
  subst hw
  go_enter Tryz.func8, Tryz.ntmps8
  go_wp2_with fail
  obtain ⟨V, hV⟩ : ∃ V, V = w.heap.size := ⟨_, rfl⟩
  obtain ⟨W0, hW0⟩ : ∃ W0, W0 = w.alloc (.cells #[.int .i64 x.f0, .int .i64 x.f1, .string x.f2, .slice A3 x.f3.length c3, .slice A4 x.f4.length c4, .slice A5 x.f5.length c5] 26) := ⟨_, rfl⟩
  have hS0 : SPR w [(V, cv x A3 c3 A4 c4 A5 c5, 26)] [] W0 := by rw [hV, hW0]; exact (spr0 (Below.refl _ w)).more _ _
  rw [← hW0]
  try rw [← hV]
  have H0 := Lib.hid hS0
  clear hS0 hW0 hV
  have y := six_cells (H0.out.get 0 rfl)
  try go_wp2_with fail
  refine (HF1.out W0 H0.out.bel).mono ?_
  rintro e w1 ⟨r, rfl, hr, hb⟩
  have H1 := Lib.hid (H0.out.below hb)
  clear hb H0 y HF1
  cases r with
  | false =>
    go_wp2_with fail
    go_ret
    exact ⟨rfl, H1.out.bel⟩
  | true =>
  have SZ := Lib.hid (hr (by trivial))
  clear hr
  have y := six_cells (H1.out.get 0 rfl)
  go_wp2_with fail
  refine (HF.out w1 _ rfl H1.out.bel).mono ?_
  rintro e w2 ⟨r, rfl, hr, hb⟩
  have H2 := Lib.hid (((H1.out.more _ _).below hb).tk 1 0)
  clear hb H1 HF y
  have ya := six_cells (H2.out.get 0 rfl)
  cases r with
  | false =>
    go_wp2_with fail
    go_ret
    exact ⟨rfl, H2.out.bel⟩
  | true =>
  have HW := Lib.hid (hr (by trivial))
  clear hr
  have hk : x.f0 = 4 ∨ x.f0 = 5 := HKX.out
  have hq : ((x.f0 != 5) = true ∧ (x.f0 != 4) = false) ∨ ((x.f0 != 5) = false ∧ True) := hk.imp (fun h => by rw [h]; exact ⟨rfl, rfl⟩) (fun h => by rw [h]; exact ⟨rfl, trivial⟩)
  have HT := Lib.hid (HT.out (loose HW.out))
  have HWL := Lib.hid (loose HW.out)
  obtain ⟨x1, hx1⟩ : ∃ x1, x1 = slV x none (some m1) := ⟨_, rfl⟩
  obtain ⟨x2, hx2⟩ : ∃ x2, x2 = slV x (some m1) none := ⟨_, rfl⟩
  have HCAT : Hid (x1.f2 ++ x2.f2 = x.f2 ∧ x1.f3 ++ x2.f3 = x.f3) := Lib.hid (by rw [hx1, hx2]; exact parts_cat HWL.out hk m1)
  have HKD : Hid ((x1.f0 != x.f0) = false ∧ (x2.f0 != x.f0) = false) := Lib.hid (by rw [hx1, hx2]; unfold slV; rw [part_f0 hk, part_f0 hk]; simp)
  have HLN : Hid (x1.f3.length + x2.f3.length = x.f3.length ∧ x.f3.length ≤ 400) := Lib.hid ⟨by rw [← HCAT.out.2, List.length_append], wf_n3 HW.out⟩
  have HLS : Hid (¬ 9223372036854775807 < x1.f2.size + x2.f2.size) := Lib.hid (by have h := congrArg ByteArray.size HCAT.out.1; rw [ByteArray.size_append] at h; have := SZ.out; omega)
  have HWL3 : Hid (WL (lV x.f3)) := Lib.hid (wl_lV (by have := HLN.out; omega) HWL.out.h3)
  have HC0 := Lib.hid (K_C3 HKW.out)
  have HAR := Lib.hid (fun A n c w => array_any A n c w)
  have HE : Hid (wrap64 m1 = m1 ∧ wrap64 (2 * m1) = 2 * m1) := Lib.hid ⟨by unfold wrap64; omega, by unfold wrap64; omega⟩
  have HSA : Hid (∀ L rs w1, SPR w L rs w1 → Calls Tryz.prog 33 #[.agg #[.int .i64 x.f0, .int .i64 x.f1, .string x.f2, .slice A3 x.f3.length c3, .slice A4 x.f4.length c4, .slice A5 x.f5.length c5], .agg #[.int .i64 0, .int .i64 0, .string ⟨#[]⟩, .slice none 0 0, .slice none 0 0, .slice none 0 0], .agg #[.int .i64 3, .int .i64 (2 * m1), .string ⟨#[]⟩, .slice none 0 0, .slice none 0 0, .slice none 0 0]] w1 fun e w' => ∃ cs, e = .returned (.agg cs) ∧ SPR w L (rs ++ [(x1, cs)]) w') := Lib.hid (by
    intro L rs w1 h
    rw [hx1]
    exact slice_resV w HT.out HWL.out HZ.out hk SZ.out none (some m1) tiny_none (tiny_some (by omega) (by omega)) h h.bel)
  have HSB : Hid (∀ L rs w1, SPR w L rs w1 → Calls Tryz.prog 33 #[.agg #[.int .i64 x.f0, .int .i64 x.f1, .string x.f2, .slice A3 x.f3.length c3, .slice A4 x.f4.length c4, .slice A5 x.f5.length c5], .agg #[.int .i64 3, .int .i64 (2 * m1), .string ⟨#[]⟩, .slice none 0 0, .slice none 0 0, .slice none 0 0], .agg #[.int .i64 0, .int .i64 0, .string ⟨#[]⟩, .slice none 0 0, .slice none 0 0, .slice none 0 0]] w1 fun e w' => ∃ cs, e = .returned (.agg cs) ∧ SPR w L (rs ++ [(x2, cs)]) w') := Lib.hid (by
    intro L rs w1 h
    rw [hx2]
    exact slice_resV w HT.out HWL.out HZ.out hk SZ.out (some m1) none (tiny_some (by omega) (by omega)) tiny_none h h.bel)
  have HN1 : Hid (∀ w1, Calls Tryz.prog 34 #[.int .i64 (wrap64 m1)] w1 fun e w' => e = .returned (.agg #[.int .i64 3, .int .i64 (2 * m1), .string ⟨#[]⟩, .slice none 0 0, .slice none 0 0, .slice none 0 0]) ∧ Below w1.heap.size w1 w') := Lib.hid (by
    intro w1
    have h := number_any m1 w1
    rw [HE.out.2] at h
    rw [HE.out.1]
    exact h)
  clear hx1 hx2 bm1 hk
  rcases hq with ⟨q3, q4⟩ | ⟨q3, q4⟩
  all_goals
  go_wp2_with fail
  have HSa : ∀ w', SPR w [(V, cv x A3 c3 A4 c4 A5 c5, 26)] [] w' → w'.cell? ⟨V, 0, none⟩ = some (.int .i64 x.f0) ∧ w'.cell? ⟨V, 1, none⟩ = some (.int .i64 x.f1) ∧ w'.cell? ⟨V, 2, none⟩ = some (.string x.f2) ∧ w'.cell? ⟨V, 3, none⟩ = some (.slice A3 x.f3.length c3) ∧ w'.cell? ⟨V, 4, none⟩ = some (.slice A4 x.f4.length c4) ∧ w'.cell? ⟨V, 5, none⟩ = some (.slice A5 x.f5.length c5) ∧ SPR w [(V, cv x A3 c3 A4 c4 A5 c5, 26)] [] w' := fun w' h => ⟨((six_cells ((SPR.spl h).get 0 rfl)).1), ((six_cells ((SPR.spl h).get 0 rfl)).2.1), ((six_cells ((SPR.spl h).get 0 rfl)).2.2.1), ((six_cells ((SPR.spl h).get 0 rfl)).2.2.2.1), ((six_cells ((SPR.spl h).get 0 rfl)).2.2.2.2.1), ((six_cells ((SPR.spl h).get 0 rfl)).2.2.2.2.2.1), h⟩
  refine start_ (n := 16) (S := fun w' => w'.cell? ⟨V, 0, none⟩ = some (.int .i64 x.f0) ∧ w'.cell? ⟨V, 1, none⟩ = some (.int .i64 x.f1) ∧ w'.cell? ⟨V, 2, none⟩ = some (.string x.f2) ∧ w'.cell? ⟨V, 3, none⟩ = some (.slice A3 x.f3.length c3) ∧ w'.cell? ⟨V, 4, none⟩ = some (.slice A4 x.f4.length c4) ∧ w'.cell? ⟨V, 5, none⟩ = some (.slice A5 x.f5.length c5) ∧ SPR w [(V, cv x A3 c3 A4 c4 A5 c5, 26)] [] w') (ds := []) #[false, false, false, false, false, false, false, false, false, false, false, false, false, false, false, false] (by kernel_rfl) rfl rfl (HSa _ (SPR.drew H2.out)) (fun hHeld => ?_)
  refine pure_ (i := 1) (N := some 25) (v := ?_) (a' := ?_) #[false, true, false, false, false, false, false, false, false, false, false, false, false, false, false, false] rfl rfl (by kernel_rfl) (fun _ _ _ h => h) (Or.inl ⟨by rfl, ?_⟩) ?_ ?_
  rotate_left
  · intro w'
    go_simp
    with_reducible rfl
  rotate_left
  · simp only [Act.put, List.setIfInBounds_toArray, List.set_cons_zero, List.set_cons_succ, i64_w, i32_w]
    rfl
  refine pure_ (i := 2) (N := some 26) (v := ?_) (a' := ?_) #[false, true, true, false, false, false, false, false, false, false, false, false, false, false, false, false] rfl rfl (by kernel_rfl) (fun _ _ _ h => h) (Or.inl ⟨by rfl, ?_⟩) ?_ ?_
  rotate_left
  · intro w'
    go_simp
    with_reducible rfl
  rotate_left
  · simp only [Act.put, List.setIfInBounds_toArray, List.set_cons_zero, List.set_cons_succ, i64_w, i32_w]
    rfl
  refine pure_ (i := 3) (N := some 27) (v := ?_) (a' := ?_) #[false, true, true, true, false, false, false, false, false, false, false, false, false, false, false, false] rfl rfl (by kernel_rfl) (fun _ _ _ h => h) (Or.inl ⟨by rfl, ?_⟩) ?_ ?_
  rotate_left
  · intro w'
    go_simp
    with_reducible rfl
  rotate_left
  · simp only [Act.put, List.setIfInBounds_toArray, List.set_cons_zero, List.set_cons_succ, i64_w, i32_w]
    rfl
  refine pure_ (i := 7) (N := some 31) (v := ?_) (a' := ?_) #[false, true, true, true, false, false, false, true, false, false, false, false, false, false, false, false] rfl rfl (by kernel_rfl) (fun _ _ _ h => h) (Or.inl ⟨by rfl, ?_⟩) ?_ ?_
  rotate_left
  · intro w'
    go_simp
    with_reducible rfl
  rotate_left
  · simp only [Act.put, List.setIfInBounds_toArray, List.set_cons_zero, List.set_cons_succ, i64_w, i32_w]
    rfl
  refine pure_ (i := 8) (N := some 32) (v := ?_) (a' := ?_) #[false, true, true, true, false, false, false, true, true, false, false, false, false, false, false, false] rfl rfl (by kernel_rfl) (fun _ _ _ h => h) (Or.inl ⟨by rfl, ?_⟩) ?_ ?_
  rotate_left
  · intro w'
    go_simp
    with_reducible rfl
  rotate_left
  · simp only [Act.put, List.setIfInBounds_toArray, List.set_cons_zero, List.set_cons_succ, i64_w, i32_w]
    rfl
  refine pure_ (i := 10) (N := some 34) (v := ?_) (a' := ?_) #[false, true, true, true, false, false, false, true, true, false, true, false, false, false, false, false] rfl rfl (by kernel_rfl) (fun _ _ _ h => h) (Or.inl ⟨by rfl, ?_⟩) ?_ ?_
  rotate_left
  · intro w'
    go_simp
    with_reducible rfl
  rotate_left
  · simp only [Act.put, List.setIfInBounds_toArray, List.set_cons_zero, List.set_cons_succ, i64_w, i32_w]
    rfl
  refine take_ (i := 0) (N := some 24) (v := ?_) (a' := ?_) #[true, true, true, true, false, false, false, true, true, false, true, false, false, false, false, false] rfl rfl (by kernel_rfl) (fun _ _ _ h => h) (Or.inl ⟨by rfl, ?_⟩) hHeld ?_ ?_
  rotate_left
  · rintro w' ⟨s0, s1, s2, s3, s4, s5, s6⟩
    go_simp
    with_reducible rfl
  rotate_left
  · simp only [Act.put, List.setIfInBounds_toArray, List.set_cons_zero, List.set_cons_succ, i64_w, i32_w]
    rfl
  refine take_ (i := 6) (N := some 30) (v := ?_) (a' := ?_) #[true, true, true, true, false, false, true, true, true, false, true, false, false, false, false, false] rfl rfl (by kernel_rfl) (fun _ _ _ h => h) (Or.inl ⟨by rfl, ?_⟩) hHeld ?_ ?_
  rotate_left
  · rintro w' ⟨s0, s1, s2, s3, s4, s5, s6⟩
    go_simp
    with_reducible rfl
  rotate_left
  · simp only [Act.put, List.setIfInBounds_toArray, List.set_cons_zero, List.set_cons_succ, i64_w, i32_w]
    rfl
  refine join_ (σ := Nat × Nat × Array Value × Array Value × Unit) 2 #[true, true, true, true, true, true, true, true, true, true, true, true, true, true, false, false] (fun s => [(28, .agg #[.int .i64 3, .int .i64 (2 * m1), .string ⟨#[]⟩, .slice none 0 0, .slice none 0 0, .slice none 0 0]), (29, .agg s.2.2.1), (33, .agg #[.int .i64 3, .int .i64 (2 * m1), .string ⟨#[]⟩, .slice none 0 0, .slice none 0 0, .slice none 0 0]), (35, .agg s.2.2.2.1), (5, .pointer (some ⟨s.1, 0, none⟩)), (6, .pointer (some ⟨s.2.1, 0, none⟩))]) (fun s w' => SPR w [(V, cv x A3 c3 A4 c4 A5 c5, 26), (s.1, z7, 30), (s.2.1, z7, 30)] [(x1, s.2.2.1), (x2, s.2.2.2.1)] w') ?_ ?_
  rotate_left
  · intro hJ4_5_9_11_12_13
    refine join_ (σ := Nat × Array Value × Array Value × Unit) 3 #[true, true, true, true, true, true, true, true, true, true, true, true, true, false, false, false] (fun s => [(28, .agg #[.int .i64 3, .int .i64 (2 * m1), .string ⟨#[]⟩, .slice none 0 0, .slice none 0 0, .slice none 0 0]), (29, .agg s.2.1), (33, .agg #[.int .i64 3, .int .i64 (2 * m1), .string ⟨#[]⟩, .slice none 0 0, .slice none 0 0, .slice none 0 0]), (35, .agg s.2.2.1), (5, .pointer (some ⟨s.1, 0, none⟩))]) (fun s w' => SPR w [(V, cv x A3 c3 A4 c4 A5 c5, 26), (s.1, z7, 30)] [(x1, s.2.1), (x2, s.2.2.1)] w') ?_ ?_
    rotate_left
    · intro hJ4_5_9_11_12
      refine join_ (σ := Nat × Array Value × Array Value × Unit) 3 #[true, true, true, true, true, true, true, true, true, true, true, true, false, true, false, false] (fun s => [(28, .agg #[.int .i64 3, .int .i64 (2 * m1), .string ⟨#[]⟩, .slice none 0 0, .slice none 0 0, .slice none 0 0]), (29, .agg s.2.1), (33, .agg #[.int .i64 3, .int .i64 (2 * m1), .string ⟨#[]⟩, .slice none 0 0, .slice none 0 0, .slice none 0 0]), (35, .agg s.2.2.1), (6, .pointer (some ⟨s.1, 0, none⟩))]) (fun s w' => SPR w [(V, cv x A3 c3 A4 c4 A5 c5, 26), (s.1, z7, 30)] [(x1, s.2.1), (x2, s.2.2.1)] w') ?_ ?_
      rotate_left
      · intro hJ4_5_9_11_13
        refine join_ (σ := Nat × Nat × Array Value × Unit) 3 #[true, true, true, true, true, true, true, true, true, true, true, false, true, true, false, false] (fun s => [(28, .agg #[.int .i64 3, .int .i64 (2 * m1), .string ⟨#[]⟩, .slice none 0 0, .slice none 0 0, .slice none 0 0]), (29, .agg s.2.2.1), (33, .agg #[.int .i64 3, .int .i64 (2 * m1), .string ⟨#[]⟩, .slice none 0 0, .slice none 0 0, .slice none 0 0]), (5, .pointer (some ⟨s.1, 0, none⟩)), (6, .pointer (some ⟨s.2.1, 0, none⟩))]) (fun s w' => SPR w [(V, cv x A3 c3 A4 c4 A5 c5, 26), (s.1, z7, 30), (s.2.1, z7, 30)] [(x1, s.2.2.1)] w') ?_ ?_
        rotate_left
        · intro hJ4_5_9_12_13
          refine join_ (σ := Array Value × Array Value × Unit) 4 #[true, true, true, true, true, true, true, true, true, true, true, true, false, false, false, false] (fun s => [(28, .agg #[.int .i64 3, .int .i64 (2 * m1), .string ⟨#[]⟩, .slice none 0 0, .slice none 0 0, .slice none 0 0]), (29, .agg s.1), (33, .agg #[.int .i64 3, .int .i64 (2 * m1), .string ⟨#[]⟩, .slice none 0 0, .slice none 0 0, .slice none 0 0]), (35, .agg s.2.1)]) (fun s w' => SPR w [(V, cv x A3 c3 A4 c4 A5 c5, 26)] [(x1, s.1), (x2, s.2.1)] w') ?_ ?_
          rotate_left
          · intro hJ4_5_9_11
            refine join_ (σ := Nat × Array Value × Unit) 4 #[true, true, true, true, true, true, true, true, true, true, true, false, true, false, false, false] (fun s => [(28, .agg #[.int .i64 3, .int .i64 (2 * m1), .string ⟨#[]⟩, .slice none 0 0, .slice none 0 0, .slice none 0 0]), (29, .agg s.2.1), (33, .agg #[.int .i64 3, .int .i64 (2 * m1), .string ⟨#[]⟩, .slice none 0 0, .slice none 0 0, .slice none 0 0]), (5, .pointer (some ⟨s.1, 0, none⟩))]) (fun s w' => SPR w [(V, cv x A3 c3 A4 c4 A5 c5, 26), (s.1, z7, 30)] [(x1, s.2.1)] w') ?_ ?_
            rotate_left
            · intro hJ4_5_9_12
              refine join_ (σ := Nat × Array Value × Unit) 4 #[true, true, true, true, true, true, true, true, true, true, true, false, false, true, false, false] (fun s => [(28, .agg #[.int .i64 3, .int .i64 (2 * m1), .string ⟨#[]⟩, .slice none 0 0, .slice none 0 0, .slice none 0 0]), (29, .agg s.2.1), (33, .agg #[.int .i64 3, .int .i64 (2 * m1), .string ⟨#[]⟩, .slice none 0 0, .slice none 0 0, .slice none 0 0]), (6, .pointer (some ⟨s.1, 0, none⟩))]) (fun s w' => SPR w [(V, cv x A3 c3 A4 c4 A5 c5, 26), (s.1, z7, 30)] [(x1, s.2.1)] w') ?_ ?_
              rotate_left
              · intro hJ4_5_9_13
                refine join_ (σ := Nat × Nat × Array Value × Unit) 4 #[true, true, true, true, true, true, true, true, true, false, true, false, true, true, false, false] (fun s => [(28, .agg #[.int .i64 3, .int .i64 (2 * m1), .string ⟨#[]⟩, .slice none 0 0, .slice none 0 0, .slice none 0 0]), (29, .agg s.2.2.1), (5, .pointer (some ⟨s.1, 0, none⟩)), (6, .pointer (some ⟨s.2.1, 0, none⟩))]) (fun s w' => SPR w [(V, cv x A3 c3 A4 c4 A5 c5, 26), (s.1, z7, 30), (s.2.1, z7, 30)] [(x1, s.2.2.1)] w') ?_ ?_
                rotate_left
                · intro hJ4_5_12_13
                  refine join_ (σ := Array Value × Unit) 5 #[true, true, true, true, true, true, true, true, true, true, true, false, false, false, false, false] (fun s => [(28, .agg #[.int .i64 3, .int .i64 (2 * m1), .string ⟨#[]⟩, .slice none 0 0, .slice none 0 0, .slice none 0 0]), (29, .agg s.1), (33, .agg #[.int .i64 3, .int .i64 (2 * m1), .string ⟨#[]⟩, .slice none 0 0, .slice none 0 0, .slice none 0 0])]) (fun s w' => SPR w [(V, cv x A3 c3 A4 c4 A5 c5, 26)] [(x1, s.1)] w') ?_ ?_
                  rotate_left
                  · intro hJ4_5_9
                    refine join_ (σ := Nat × Array Value × Unit) 5 #[true, true, true, true, true, true, true, true, true, false, true, false, true, false, false, false] (fun s => [(28, .agg #[.int .i64 3, .int .i64 (2 * m1), .string ⟨#[]⟩, .slice none 0 0, .slice none 0 0, .slice none 0 0]), (29, .agg s.2.1), (5, .pointer (some ⟨s.1, 0, none⟩))]) (fun s w' => SPR w [(V, cv x A3 c3 A4 c4 A5 c5, 26), (s.1, z7, 30)] [(x1, s.2.1)] w') ?_ ?_
                    rotate_left
                    · intro hJ4_5_12
                      refine join_ (σ := Nat × Array Value × Unit) 5 #[true, true, true, true, true, true, true, true, true, false, true, false, false, true, false, false] (fun s => [(28, .agg #[.int .i64 3, .int .i64 (2 * m1), .string ⟨#[]⟩, .slice none 0 0, .slice none 0 0, .slice none 0 0]), (29, .agg s.2.1), (6, .pointer (some ⟨s.1, 0, none⟩))]) (fun s w' => SPR w [(V, cv x A3 c3 A4 c4 A5 c5, 26), (s.1, z7, 30)] [(x1, s.2.1)] w') ?_ ?_
                      rotate_left
                      · intro hJ4_5_13
                        refine join_ (σ := Nat × Nat × Unit) 5 #[true, true, true, true, true, false, true, true, true, false, true, false, true, true, false, false] (fun s => [(28, .agg #[.int .i64 3, .int .i64 (2 * m1), .string ⟨#[]⟩, .slice none 0 0, .slice none 0 0, .slice none 0 0]), (5, .pointer (some ⟨s.1, 0, none⟩)), (6, .pointer (some ⟨s.2.1, 0, none⟩))]) (fun s w' => SPR w [(V, cv x A3 c3 A4 c4 A5 c5, 26), (s.1, z7, 30), (s.2.1, z7, 30)] [] w') ?_ ?_
                        rotate_left
                        · intro hJ4_12_13
                          refine join_ (σ := Array Value × Unit) 6 #[true, true, true, true, true, true, true, true, true, false, true, false, false, false, false, false] (fun s => [(28, .agg #[.int .i64 3, .int .i64 (2 * m1), .string ⟨#[]⟩, .slice none 0 0, .slice none 0 0, .slice none 0 0]), (29, .agg s.1)]) (fun s w' => SPR w [(V, cv x A3 c3 A4 c4 A5 c5, 26)] [(x1, s.1)] w') ?_ ?_
                          rotate_left
                          · intro hJ4_5
                            refine join_ (σ := Nat × Unit) 6 #[true, true, true, true, true, false, true, true, true, false, true, false, true, false, false, false] (fun s => [(28, .agg #[.int .i64 3, .int .i64 (2 * m1), .string ⟨#[]⟩, .slice none 0 0, .slice none 0 0, .slice none 0 0]), (5, .pointer (some ⟨s.1, 0, none⟩))]) (fun s w' => SPR w [(V, cv x A3 c3 A4 c4 A5 c5, 26), (s.1, z7, 30)] [] w') ?_ ?_
                            rotate_left
                            · intro hJ4_12
                              refine join_ (σ := Nat × Unit) 6 #[true, true, true, true, true, false, true, true, true, false, true, false, false, true, false, false] (fun s => [(28, .agg #[.int .i64 3, .int .i64 (2 * m1), .string ⟨#[]⟩, .slice none 0 0, .slice none 0 0, .slice none 0 0]), (6, .pointer (some ⟨s.1, 0, none⟩))]) (fun s w' => SPR w [(V, cv x A3 c3 A4 c4 A5 c5, 26), (s.1, z7, 30)] [] w') ?_ ?_
                              rotate_left
                              · intro hJ4_13
                                refine join_ (σ := Nat × Nat × Unit) 6 #[true, true, true, true, false, false, true, true, true, false, true, false, true, true, false, false] (fun s => [(5, .pointer (some ⟨s.1, 0, none⟩)), (6, .pointer (some ⟨s.2.1, 0, none⟩))]) (fun s w' => SPR w [(V, cv x A3 c3 A4 c4 A5 c5, 26), (s.1, z7, 30), (s.2.1, z7, 30)] [] w') ?_ ?_
                                rotate_left
                                · intro hJ12_13
                                  refine join_ (σ := Unit) 7 #[true, true, true, true, true, false, true, true, true, false, true, false, false, false, false, false] (fun s => [(28, .agg #[.int .i64 3, .int .i64 (2 * m1), .string ⟨#[]⟩, .slice none 0 0, .slice none 0 0, .slice none 0 0])]) (fun s w' => SPR w [(V, cv x A3 c3 A4 c4 A5 c5, 26)] [] w') ?_ ?_
                                  rotate_left
                                  · intro hJ4
                                    refine join_ (σ := Nat × Unit) 7 #[true, true, true, true, false, false, true, true, true, false, true, false, true, false, false, false] (fun s => [(5, .pointer (some ⟨s.1, 0, none⟩))]) (fun s w' => SPR w [(V, cv x A3 c3 A4 c4 A5 c5, 26), (s.1, z7, 30)] [] w') ?_ ?_
                                    rotate_left
                                    · intro hJ12
                                      refine join_ (σ := Nat × Unit) 7 #[true, true, true, true, false, false, true, true, true, false, true, false, false, true, false, false] (fun s => [(6, .pointer (some ⟨s.1, 0, none⟩))]) (fun s w' => SPR w [(V, cv x A3 c3 A4 c4 A5 c5, 26), (s.1, z7, 30)] [] w') ?_ ?_
                                      rotate_left
                                      · intro hJ13
                                        refine three_ (i := 4) (j := 12) (k := 13) (Ni := some 28) (Nj := some 5) (Nk := some 6) #[true, true, true, true, true, false, true, true, true, false, true, false, false, false, false, false] #[true, true, true, true, false, false, true, true, true, false, true, false, true, false, false, false] #[true, true, true, true, false, false, true, true, true, false, true, false, false, true, false, false] rfl rfl rfl rfl rfl rfl (by kernel_rfl) (by decide) (by decide) (by decide) (fun K hK => ?_) (fun K hK => ?_) (fun K hK => ?_)
                                        · skip
                                          refine goes_ Tryz.func34 (by kernel_rfl) rfl #[.int .i64 (wrap64 m1)] (by rfl) rfl rfl (by simp only [List.map_toArray, List.map_cons, List.map_nil]; rfl) ?_
                                          with_reducible refine ((HN1.out _)).mono ?_
                                          rintro e wz ⟨rfl, hb⟩
                                          refine ⟨_, rfl, ?_⟩
                                          have hz := SPR.below (hHeld.2.2.2.2.2.2) hb
                                          have hzb : SPR w [(V, cv x A3 c3 A4 c4 A5 c5, 26)] [] wz := SPR.tk 1 0 hz
                                          refine hK.out _ _ (HSa _ hzb) (fun hHeld => ?_)
                                          clear hK K
                                          refine norm_ (a' := ?_) ?_ ?_
                                          rotate_left
                                          · show Act.put _ (some 28) _ = _
                                            simp only [Act.put, List.setIfInBounds_toArray, List.set_cons_zero, List.set_cons_succ, i64_w, i32_w]
                                            rfl
                                          exact norm_ (by first | (simp only [putAll, Act.put, List.setIfInBounds_toArray, List.set_cons_zero, List.set_cons_succ]; done) | (simp only [putAll, Act.put, List.setIfInBounds_toArray, List.set_cons_zero, List.set_cons_succ]; rfl)) (hJ4 (()) _ hz)
                                        · skip
                                          refine freshR_ (c := #[.int .i64 0, .int .i64 0, .string ⟨#[]⟩, .slice none 0 0, .slice none 0 0, .slice none 0 0, .int .i64 0]) (t := 30) (hHeld.2.2.2.2.2.2) (by rfl) rfl ?_ ?_
                                          · first | (go_simp; done) | (go_simp; rfl)
                                          intro Ra12 wz hz
                                          have hzb : SPR w [(V, cv x A3 c3 A4 c4 A5 c5, 26)] [] wz := SPR.tk 1 0 hz
                                          refine hK.out _ _ (HSa _ hzb) (fun hHeld => ?_)
                                          clear hK K
                                          refine norm_ (a' := ?_) ?_ ?_
                                          rotate_left
                                          · show Act.put _ (some 5) _ = _
                                            simp only [Act.put, List.setIfInBounds_toArray, List.set_cons_zero, List.set_cons_succ, i64_w, i32_w]
                                            rfl
                                          exact norm_ (by first | (simp only [putAll, Act.put, List.setIfInBounds_toArray, List.set_cons_zero, List.set_cons_succ]; done) | (simp only [putAll, Act.put, List.setIfInBounds_toArray, List.set_cons_zero, List.set_cons_succ]; rfl)) (hJ12 (Ra12, ()) _ hz)
                                        · skip
                                          refine freshR_ (c := #[.int .i64 0, .int .i64 0, .string ⟨#[]⟩, .slice none 0 0, .slice none 0 0, .slice none 0 0, .int .i64 0]) (t := 30) (hHeld.2.2.2.2.2.2) (by rfl) rfl ?_ ?_
                                          · first | (go_simp; done) | (go_simp; rfl)
                                          intro Ra13 wz hz
                                          have hzb : SPR w [(V, cv x A3 c3 A4 c4 A5 c5, 26)] [] wz := SPR.tk 1 0 hz
                                          refine hK.out _ _ (HSa _ hzb) (fun hHeld => ?_)
                                          clear hK K
                                          refine norm_ (a' := ?_) ?_ ?_
                                          rotate_left
                                          · show Act.put _ (some 6) _ = _
                                            simp only [Act.put, List.setIfInBounds_toArray, List.set_cons_zero, List.set_cons_succ, i64_w, i32_w]
                                            rfl
                                          exact norm_ (by first | (simp only [putAll, Act.put, List.setIfInBounds_toArray, List.set_cons_zero, List.set_cons_succ]; done) | (simp only [putAll, Act.put, List.setIfInBounds_toArray, List.set_cons_zero, List.set_cons_succ]; rfl)) (hJ13 (Ra13, ()) _ hz)
                                      · skip
                                        rintro ⟨Ra13, _⟩ w' hF
                                        change SPR w [(V, cv x A3 c3 A4 c4 A5 c5, 26), (Ra13, z7, 30)] [] w' at hF
                                        have hFb : SPR w [(V, cv x A3 c3 A4 c4 A5 c5, 26)] [] w' := SPR.tk 1 0 hF
                                        have hHeld := HSa _ hFb
                                        clear hFb
                                        refine norm_ (a' := ?_) ?_ ?_
                                        rotate_left
                                        · simp only [putAll, Act.put, List.setIfInBounds_toArray, List.set_cons_zero, List.set_cons_succ]
                                          rfl
                                        refine two_ (i := 4) (j := 12) (Ni := some 28) (Nj := some 5) #[true, true, true, true, true, false, true, true, true, false, true, false, false, true, false, false] #[true, true, true, true, false, false, true, true, true, false, true, false, true, true, false, false] rfl rfl rfl rfl (by kernel_rfl) (by decide) (by decide) (fun K hK => ?_) (fun K hK => ?_)
                                        · skip
                                          refine goes_ Tryz.func34 (by kernel_rfl) rfl #[.int .i64 (wrap64 m1)] (by rfl) rfl rfl (by simp only [List.map_toArray, List.map_cons, List.map_nil]; rfl) ?_
                                          with_reducible refine ((HN1.out _)).mono ?_
                                          rintro e wz ⟨rfl, hb⟩
                                          refine ⟨_, rfl, ?_⟩
                                          have hz := SPR.below (hF) hb
                                          have hzb : SPR w [(V, cv x A3 c3 A4 c4 A5 c5, 26)] [] wz := SPR.tk 1 0 hz
                                          refine hK.out _ _ (HSa _ hzb) (fun hHeld => ?_)
                                          clear hK K
                                          refine norm_ (a' := ?_) ?_ ?_
                                          rotate_left
                                          · show Act.put _ (some 28) _ = _
                                            simp only [Act.put, List.setIfInBounds_toArray, List.set_cons_zero, List.set_cons_succ, i64_w, i32_w]
                                            rfl
                                          exact norm_ (by first | (simp only [putAll, Act.put, List.setIfInBounds_toArray, List.set_cons_zero, List.set_cons_succ]; done) | (simp only [putAll, Act.put, List.setIfInBounds_toArray, List.set_cons_zero, List.set_cons_succ]; rfl)) (hJ4_13 (Ra13, ()) _ hz)
                                        · skip
                                          refine freshR_ (c := #[.int .i64 0, .int .i64 0, .string ⟨#[]⟩, .slice none 0 0, .slice none 0 0, .slice none 0 0, .int .i64 0]) (t := 30) (hF) (by rfl) rfl ?_ ?_
                                          · first | (go_simp; done) | (go_simp; rfl)
                                          intro Ra12 wz hz
                                          have hzb : SPR w [(V, cv x A3 c3 A4 c4 A5 c5, 26)] [] wz := SPR.tk 1 0 hz
                                          refine hK.out _ _ (HSa _ hzb) (fun hHeld => ?_)
                                          clear hK K
                                          refine norm_ (a' := ?_) ?_ ?_
                                          rotate_left
                                          · show Act.put _ (some 5) _ = _
                                            simp only [Act.put, List.setIfInBounds_toArray, List.set_cons_zero, List.set_cons_succ, i64_w, i32_w]
                                            rfl
                                          exact norm_ (by first | (simp only [putAll, Act.put, List.setIfInBounds_toArray, List.set_cons_zero, List.set_cons_succ]; done) | (simp only [putAll, Act.put, List.setIfInBounds_toArray, List.set_cons_zero, List.set_cons_succ]; rfl)) (hJ12_13 (Ra12, Ra13, ()) _ (SPR.prm hz (.cons _ (.swap _ _ _))))
                                    · skip
                                      rintro ⟨Ra12, _⟩ w' hF
                                      change SPR w [(V, cv x A3 c3 A4 c4 A5 c5, 26), (Ra12, z7, 30)] [] w' at hF
                                      have hFb : SPR w [(V, cv x A3 c3 A4 c4 A5 c5, 26)] [] w' := SPR.tk 1 0 hF
                                      have hHeld := HSa _ hFb
                                      clear hFb
                                      refine norm_ (a' := ?_) ?_ ?_
                                      rotate_left
                                      · simp only [putAll, Act.put, List.setIfInBounds_toArray, List.set_cons_zero, List.set_cons_succ]
                                        rfl
                                      refine two_ (i := 4) (j := 13) (Ni := some 28) (Nj := some 6) #[true, true, true, true, true, false, true, true, true, false, true, false, true, false, false, false] #[true, true, true, true, false, false, true, true, true, false, true, false, true, true, false, false] rfl rfl rfl rfl (by kernel_rfl) (by decide) (by decide) (fun K hK => ?_) (fun K hK => ?_)
                                      · skip
                                        refine goes_ Tryz.func34 (by kernel_rfl) rfl #[.int .i64 (wrap64 m1)] (by rfl) rfl rfl (by simp only [List.map_toArray, List.map_cons, List.map_nil]; rfl) ?_
                                        with_reducible refine ((HN1.out _)).mono ?_
                                        rintro e wz ⟨rfl, hb⟩
                                        refine ⟨_, rfl, ?_⟩
                                        have hz := SPR.below (hF) hb
                                        have hzb : SPR w [(V, cv x A3 c3 A4 c4 A5 c5, 26)] [] wz := SPR.tk 1 0 hz
                                        refine hK.out _ _ (HSa _ hzb) (fun hHeld => ?_)
                                        clear hK K
                                        refine norm_ (a' := ?_) ?_ ?_
                                        rotate_left
                                        · show Act.put _ (some 28) _ = _
                                          simp only [Act.put, List.setIfInBounds_toArray, List.set_cons_zero, List.set_cons_succ, i64_w, i32_w]
                                          rfl
                                        exact norm_ (by first | (simp only [putAll, Act.put, List.setIfInBounds_toArray, List.set_cons_zero, List.set_cons_succ]; done) | (simp only [putAll, Act.put, List.setIfInBounds_toArray, List.set_cons_zero, List.set_cons_succ]; rfl)) (hJ4_12 (Ra12, ()) _ hz)
                                      · skip
                                        refine freshR_ (c := #[.int .i64 0, .int .i64 0, .string ⟨#[]⟩, .slice none 0 0, .slice none 0 0, .slice none 0 0, .int .i64 0]) (t := 30) (hF) (by rfl) rfl ?_ ?_
                                        · first | (go_simp; done) | (go_simp; rfl)
                                        intro Ra13 wz hz
                                        have hzb : SPR w [(V, cv x A3 c3 A4 c4 A5 c5, 26)] [] wz := SPR.tk 1 0 hz
                                        refine hK.out _ _ (HSa _ hzb) (fun hHeld => ?_)
                                        clear hK K
                                        refine norm_ (a' := ?_) ?_ ?_
                                        rotate_left
                                        · show Act.put _ (some 6) _ = _
                                          simp only [Act.put, List.setIfInBounds_toArray, List.set_cons_zero, List.set_cons_succ, i64_w, i32_w]
                                          rfl
                                        exact norm_ (by first | (simp only [putAll, Act.put, List.setIfInBounds_toArray, List.set_cons_zero, List.set_cons_succ]; done) | (simp only [putAll, Act.put, List.setIfInBounds_toArray, List.set_cons_zero, List.set_cons_succ]; rfl)) (hJ12_13 (Ra12, Ra13, ()) _ hz)
                                  · skip
                                    rintro ⟨_⟩ w' hF
                                    change SPR w [(V, cv x A3 c3 A4 c4 A5 c5, 26)] [] w' at hF
                                    have hFb : SPR w [(V, cv x A3 c3 A4 c4 A5 c5, 26)] [] w' := SPR.tk 1 0 hF
                                    have hHeld := HSa _ hFb
                                    clear hFb
                                    refine norm_ (a' := ?_) ?_ ?_
                                    rotate_left
                                    · simp only [putAll, Act.put, List.setIfInBounds_toArray, List.set_cons_zero, List.set_cons_succ]
                                      rfl
                                    refine three_ (i := 5) (j := 12) (k := 13) (Ni := some 29) (Nj := some 5) (Nk := some 6) #[true, true, true, true, true, true, true, true, true, false, true, false, false, false, false, false] #[true, true, true, true, true, false, true, true, true, false, true, false, true, false, false, false] #[true, true, true, true, true, false, true, true, true, false, true, false, false, true, false, false] rfl rfl rfl rfl rfl rfl (by kernel_rfl) (by decide) (by decide) (by decide) (fun K hK => ?_) (fun K hK => ?_) (fun K hK => ?_)
                                    · skip
                                      refine goes_ Tryz.func33 (by kernel_rfl) rfl #[.agg #[.int .i64 x.f0, .int .i64 x.f1, .string x.f2, .slice A3 x.f3.length c3, .slice A4 x.f4.length c4, .slice A5 x.f5.length c5], .agg #[.int .i64 0, .int .i64 0, .string ⟨#[]⟩, .slice none 0 0, .slice none 0 0, .slice none 0 0], .agg #[.int .i64 3, .int .i64 (2 * m1), .string ⟨#[]⟩, .slice none 0 0, .slice none 0 0, .slice none 0 0]] (by rfl) rfl rfl (by simp only [List.map_toArray, List.map_cons, List.map_nil]; rfl) ?_
                                      with_reducible refine ((HSA.out _ _ _ (hF))).mono ?_
                                      rintro e wz ⟨u5, rfl, hz⟩
                                      refine ⟨_, rfl, ?_⟩
                                      have hzb : SPR w [(V, cv x A3 c3 A4 c4 A5 c5, 26)] [] wz := SPR.tk 1 0 hz
                                      refine hK.out _ _ (HSa _ hzb) (fun hHeld => ?_)
                                      clear hK K
                                      refine norm_ (a' := ?_) ?_ ?_
                                      rotate_left
                                      · show Act.put _ (some 29) _ = _
                                        simp only [Act.put, List.setIfInBounds_toArray, List.set_cons_zero, List.set_cons_succ, i64_w, i32_w]
                                        rfl
                                      exact norm_ (by first | (simp only [putAll, Act.put, List.setIfInBounds_toArray, List.set_cons_zero, List.set_cons_succ]; done) | (simp only [putAll, Act.put, List.setIfInBounds_toArray, List.set_cons_zero, List.set_cons_succ]; rfl)) (hJ4_5 (u5, ()) _ hz)
                                    · skip
                                      refine freshR_ (c := #[.int .i64 0, .int .i64 0, .string ⟨#[]⟩, .slice none 0 0, .slice none 0 0, .slice none 0 0, .int .i64 0]) (t := 30) (hF) (by rfl) rfl ?_ ?_
                                      · first | (go_simp; done) | (go_simp; rfl)
                                      intro Ra12 wz hz
                                      have hzb : SPR w [(V, cv x A3 c3 A4 c4 A5 c5, 26)] [] wz := SPR.tk 1 0 hz
                                      refine hK.out _ _ (HSa _ hzb) (fun hHeld => ?_)
                                      clear hK K
                                      refine norm_ (a' := ?_) ?_ ?_
                                      rotate_left
                                      · show Act.put _ (some 5) _ = _
                                        simp only [Act.put, List.setIfInBounds_toArray, List.set_cons_zero, List.set_cons_succ, i64_w, i32_w]
                                        rfl
                                      exact norm_ (by first | (simp only [putAll, Act.put, List.setIfInBounds_toArray, List.set_cons_zero, List.set_cons_succ]; done) | (simp only [putAll, Act.put, List.setIfInBounds_toArray, List.set_cons_zero, List.set_cons_succ]; rfl)) (hJ4_12 (Ra12, ()) _ hz)
                                    · skip
                                      refine freshR_ (c := #[.int .i64 0, .int .i64 0, .string ⟨#[]⟩, .slice none 0 0, .slice none 0 0, .slice none 0 0, .int .i64 0]) (t := 30) (hF) (by rfl) rfl ?_ ?_
                                      · first | (go_simp; done) | (go_simp; rfl)
                                      intro Ra13 wz hz
                                      have hzb : SPR w [(V, cv x A3 c3 A4 c4 A5 c5, 26)] [] wz := SPR.tk 1 0 hz
                                      refine hK.out _ _ (HSa _ hzb) (fun hHeld => ?_)
                                      clear hK K
                                      refine norm_ (a' := ?_) ?_ ?_
                                      rotate_left
                                      · show Act.put _ (some 6) _ = _
                                        simp only [Act.put, List.setIfInBounds_toArray, List.set_cons_zero, List.set_cons_succ, i64_w, i32_w]
                                        rfl
                                      exact norm_ (by first | (simp only [putAll, Act.put, List.setIfInBounds_toArray, List.set_cons_zero, List.set_cons_succ]; done) | (simp only [putAll, Act.put, List.setIfInBounds_toArray, List.set_cons_zero, List.set_cons_succ]; rfl)) (hJ4_13 (Ra13, ()) _ hz)
                                · skip
                                  rintro ⟨Ra12, Ra13, _⟩ w' hF
                                  change SPR w [(V, cv x A3 c3 A4 c4 A5 c5, 26), (Ra12, z7, 30), (Ra13, z7, 30)] [] w' at hF
                                  have hFb : SPR w [(V, cv x A3 c3 A4 c4 A5 c5, 26)] [] w' := SPR.tk 1 0 hF
                                  have hHeld := HSa _ hFb
                                  clear hFb
                                  refine norm_ (a' := ?_) ?_ ?_
                                  rotate_left
                                  · simp only [putAll, Act.put, List.setIfInBounds_toArray, List.set_cons_zero, List.set_cons_succ]
                                    rfl
                                  refine one_ (i := 4) (N := some 28) #[true, true, true, true, true, false, true, true, true, false, true, false, true, true, false, false] rfl rfl (by kernel_rfl) (by decide) (fun K hK => ?_)
                                  refine goes_ Tryz.func34 (by kernel_rfl) rfl #[.int .i64 (wrap64 m1)] (by rfl) rfl rfl (by simp only [List.map_toArray, List.map_cons, List.map_nil]; rfl) ?_
                                  with_reducible refine ((HN1.out _)).mono ?_
                                  rintro e wz ⟨rfl, hb⟩
                                  refine ⟨_, rfl, ?_⟩
                                  have hz := SPR.below (hF) hb
                                  have hzb : SPR w [(V, cv x A3 c3 A4 c4 A5 c5, 26)] [] wz := SPR.tk 1 0 hz
                                  refine hK.out _ _ (HSa _ hzb) (fun hHeld => ?_)
                                  clear hK K
                                  refine norm_ (a' := ?_) ?_ ?_
                                  rotate_left
                                  · show Act.put _ (some 28) _ = _
                                    simp only [Act.put, List.setIfInBounds_toArray, List.set_cons_zero, List.set_cons_succ, i64_w, i32_w]
                                    rfl
                                  exact norm_ (by first | (simp only [putAll, Act.put, List.setIfInBounds_toArray, List.set_cons_zero, List.set_cons_succ]; done) | (simp only [putAll, Act.put, List.setIfInBounds_toArray, List.set_cons_zero, List.set_cons_succ]; rfl)) (hJ4_12_13 (Ra12, Ra13, ()) _ hz)
                              · skip
                                rintro ⟨Ra13, _⟩ w' hF
                                change SPR w [(V, cv x A3 c3 A4 c4 A5 c5, 26), (Ra13, z7, 30)] [] w' at hF
                                have hFb : SPR w [(V, cv x A3 c3 A4 c4 A5 c5, 26)] [] w' := SPR.tk 1 0 hF
                                have hHeld := HSa _ hFb
                                clear hFb
                                refine norm_ (a' := ?_) ?_ ?_
                                rotate_left
                                · simp only [putAll, Act.put, List.setIfInBounds_toArray, List.set_cons_zero, List.set_cons_succ]
                                  rfl
                                refine two_ (i := 5) (j := 12) (Ni := some 29) (Nj := some 5) #[true, true, true, true, true, true, true, true, true, false, true, false, false, true, false, false] #[true, true, true, true, true, false, true, true, true, false, true, false, true, true, false, false] rfl rfl rfl rfl (by kernel_rfl) (by decide) (by decide) (fun K hK => ?_) (fun K hK => ?_)
                                · skip
                                  refine goes_ Tryz.func33 (by kernel_rfl) rfl #[.agg #[.int .i64 x.f0, .int .i64 x.f1, .string x.f2, .slice A3 x.f3.length c3, .slice A4 x.f4.length c4, .slice A5 x.f5.length c5], .agg #[.int .i64 0, .int .i64 0, .string ⟨#[]⟩, .slice none 0 0, .slice none 0 0, .slice none 0 0], .agg #[.int .i64 3, .int .i64 (2 * m1), .string ⟨#[]⟩, .slice none 0 0, .slice none 0 0, .slice none 0 0]] (by rfl) rfl rfl (by simp only [List.map_toArray, List.map_cons, List.map_nil]; rfl) ?_
                                  with_reducible refine ((HSA.out _ _ _ (hF))).mono ?_
                                  rintro e wz ⟨u5, rfl, hz⟩
                                  refine ⟨_, rfl, ?_⟩
                                  have hzb : SPR w [(V, cv x A3 c3 A4 c4 A5 c5, 26)] [] wz := SPR.tk 1 0 hz
                                  refine hK.out _ _ (HSa _ hzb) (fun hHeld => ?_)
                                  clear hK K
                                  refine norm_ (a' := ?_) ?_ ?_
                                  rotate_left
                                  · show Act.put _ (some 29) _ = _
                                    simp only [Act.put, List.setIfInBounds_toArray, List.set_cons_zero, List.set_cons_succ, i64_w, i32_w]
                                    rfl
                                  exact norm_ (by first | (simp only [putAll, Act.put, List.setIfInBounds_toArray, List.set_cons_zero, List.set_cons_succ]; done) | (simp only [putAll, Act.put, List.setIfInBounds_toArray, List.set_cons_zero, List.set_cons_succ]; rfl)) (hJ4_5_13 (Ra13, u5, ()) _ hz)
                                · skip
                                  refine freshR_ (c := #[.int .i64 0, .int .i64 0, .string ⟨#[]⟩, .slice none 0 0, .slice none 0 0, .slice none 0 0, .int .i64 0]) (t := 30) (hF) (by rfl) rfl ?_ ?_
                                  · first | (go_simp; done) | (go_simp; rfl)
                                  intro Ra12 wz hz
                                  have hzb : SPR w [(V, cv x A3 c3 A4 c4 A5 c5, 26)] [] wz := SPR.tk 1 0 hz
                                  refine hK.out _ _ (HSa _ hzb) (fun hHeld => ?_)
                                  clear hK K
                                  refine norm_ (a' := ?_) ?_ ?_
                                  rotate_left
                                  · show Act.put _ (some 5) _ = _
                                    simp only [Act.put, List.setIfInBounds_toArray, List.set_cons_zero, List.set_cons_succ, i64_w, i32_w]
                                    rfl
                                  exact norm_ (by first | (simp only [putAll, Act.put, List.setIfInBounds_toArray, List.set_cons_zero, List.set_cons_succ]; done) | (simp only [putAll, Act.put, List.setIfInBounds_toArray, List.set_cons_zero, List.set_cons_succ]; rfl)) (hJ4_12_13 (Ra12, Ra13, ()) _ (SPR.prm hz (.cons _ (.swap _ _ _))))
                            · skip
                              rintro ⟨Ra12, _⟩ w' hF
                              change SPR w [(V, cv x A3 c3 A4 c4 A5 c5, 26), (Ra12, z7, 30)] [] w' at hF
                              have hFb : SPR w [(V, cv x A3 c3 A4 c4 A5 c5, 26)] [] w' := SPR.tk 1 0 hF
                              have hHeld := HSa _ hFb
                              clear hFb
                              refine norm_ (a' := ?_) ?_ ?_
                              rotate_left
                              · simp only [putAll, Act.put, List.setIfInBounds_toArray, List.set_cons_zero, List.set_cons_succ]
                                rfl
                              refine two_ (i := 5) (j := 13) (Ni := some 29) (Nj := some 6) #[true, true, true, true, true, true, true, true, true, false, true, false, true, false, false, false] #[true, true, true, true, true, false, true, true, true, false, true, false, true, true, false, false] rfl rfl rfl rfl (by kernel_rfl) (by decide) (by decide) (fun K hK => ?_) (fun K hK => ?_)
                              · skip
                                refine goes_ Tryz.func33 (by kernel_rfl) rfl #[.agg #[.int .i64 x.f0, .int .i64 x.f1, .string x.f2, .slice A3 x.f3.length c3, .slice A4 x.f4.length c4, .slice A5 x.f5.length c5], .agg #[.int .i64 0, .int .i64 0, .string ⟨#[]⟩, .slice none 0 0, .slice none 0 0, .slice none 0 0], .agg #[.int .i64 3, .int .i64 (2 * m1), .string ⟨#[]⟩, .slice none 0 0, .slice none 0 0, .slice none 0 0]] (by rfl) rfl rfl (by simp only [List.map_toArray, List.map_cons, List.map_nil]; rfl) ?_
                                with_reducible refine ((HSA.out _ _ _ (hF))).mono ?_
                                rintro e wz ⟨u5, rfl, hz⟩
                                refine ⟨_, rfl, ?_⟩
                                have hzb : SPR w [(V, cv x A3 c3 A4 c4 A5 c5, 26)] [] wz := SPR.tk 1 0 hz
                                refine hK.out _ _ (HSa _ hzb) (fun hHeld => ?_)
                                clear hK K
                                refine norm_ (a' := ?_) ?_ ?_
                                rotate_left
                                · show Act.put _ (some 29) _ = _
                                  simp only [Act.put, List.setIfInBounds_toArray, List.set_cons_zero, List.set_cons_succ, i64_w, i32_w]
                                  rfl
                                exact norm_ (by first | (simp only [putAll, Act.put, List.setIfInBounds_toArray, List.set_cons_zero, List.set_cons_succ]; done) | (simp only [putAll, Act.put, List.setIfInBounds_toArray, List.set_cons_zero, List.set_cons_succ]; rfl)) (hJ4_5_12 (Ra12, u5, ()) _ hz)
                              · skip
                                refine freshR_ (c := #[.int .i64 0, .int .i64 0, .string ⟨#[]⟩, .slice none 0 0, .slice none 0 0, .slice none 0 0, .int .i64 0]) (t := 30) (hF) (by rfl) rfl ?_ ?_
                                · first | (go_simp; done) | (go_simp; rfl)
                                intro Ra13 wz hz
                                have hzb : SPR w [(V, cv x A3 c3 A4 c4 A5 c5, 26)] [] wz := SPR.tk 1 0 hz
                                refine hK.out _ _ (HSa _ hzb) (fun hHeld => ?_)
                                clear hK K
                                refine norm_ (a' := ?_) ?_ ?_
                                rotate_left
                                · show Act.put _ (some 6) _ = _
                                  simp only [Act.put, List.setIfInBounds_toArray, List.set_cons_zero, List.set_cons_succ, i64_w, i32_w]
                                  rfl
                                exact norm_ (by first | (simp only [putAll, Act.put, List.setIfInBounds_toArray, List.set_cons_zero, List.set_cons_succ]; done) | (simp only [putAll, Act.put, List.setIfInBounds_toArray, List.set_cons_zero, List.set_cons_succ]; rfl)) (hJ4_12_13 (Ra12, Ra13, ()) _ hz)
                          · skip
                            rintro ⟨cz5, _⟩ w' hF
                            change SPR w [(V, cv x A3 c3 A4 c4 A5 c5, 26)] [(x1, cz5)] w' at hF
                            obtain ⟨B3x, d3x, B4x, d4x, B5x, d5x, rfl⟩ := hF.cells 0 rfl
                            have hFb : SPR w [(V, cv x A3 c3 A4 c4 A5 c5, 26)] [] w' := SPR.tk 1 0 hF
                            have hHeld := HSa _ hFb
                            clear hFb
                            refine norm_ (a' := ?_) ?_ ?_
                            rotate_left
                            · simp only [putAll, Act.put, List.setIfInBounds_toArray, List.set_cons_zero, List.set_cons_succ]
                              rfl
                            refine three_ (i := 9) (j := 12) (k := 13) (Ni := some 33) (Nj := some 5) (Nk := some 6) #[true, true, true, true, true, true, true, true, true, true, true, false, false, false, false, false] #[true, true, true, true, true, true, true, true, true, false, true, false, true, false, false, false] #[true, true, true, true, true, true, true, true, true, false, true, false, false, true, false, false] rfl rfl rfl rfl rfl rfl (by kernel_rfl) (by decide) (by decide) (by decide) (fun K hK => ?_) (fun K hK => ?_) (fun K hK => ?_)
                            · skip
                              refine goes_ Tryz.func34 (by kernel_rfl) rfl #[.int .i64 (wrap64 m1)] (by rfl) rfl rfl (by simp only [List.map_toArray, List.map_cons, List.map_nil]; rfl) ?_
                              with_reducible refine ((HN1.out _)).mono ?_
                              rintro e wz ⟨rfl, hb⟩
                              refine ⟨_, rfl, ?_⟩
                              have hz := SPR.below (hF) hb
                              have hzb : SPR w [(V, cv x A3 c3 A4 c4 A5 c5, 26)] [] wz := SPR.tk 1 0 hz
                              refine hK.out _ _ (HSa _ hzb) (fun hHeld => ?_)
                              clear hK K
                              refine norm_ (a' := ?_) ?_ ?_
                              rotate_left
                              · show Act.put _ (some 33) _ = _
                                simp only [Act.put, List.setIfInBounds_toArray, List.set_cons_zero, List.set_cons_succ, i64_w, i32_w]
                                rfl
                              exact norm_ (by first | (simp only [putAll, Act.put, List.setIfInBounds_toArray, List.set_cons_zero, List.set_cons_succ]; done) | (simp only [putAll, Act.put, List.setIfInBounds_toArray, List.set_cons_zero, List.set_cons_succ]; rfl)) (hJ4_5_9 (#[.int .i64 x1.f0, .int .i64 x1.f1, .string x1.f2, .slice B3x x1.f3.length d3x, .slice B4x x1.f4.length d4x, .slice B5x x1.f5.length d5x, .int .i64 0], ()) _ hz)
                            · skip
                              refine freshR_ (c := #[.int .i64 0, .int .i64 0, .string ⟨#[]⟩, .slice none 0 0, .slice none 0 0, .slice none 0 0, .int .i64 0]) (t := 30) (hF) (by rfl) rfl ?_ ?_
                              · first | (go_simp; done) | (go_simp; rfl)
                              intro Ra12 wz hz
                              have hzb : SPR w [(V, cv x A3 c3 A4 c4 A5 c5, 26)] [] wz := SPR.tk 1 0 hz
                              refine hK.out _ _ (HSa _ hzb) (fun hHeld => ?_)
                              clear hK K
                              refine norm_ (a' := ?_) ?_ ?_
                              rotate_left
                              · show Act.put _ (some 5) _ = _
                                simp only [Act.put, List.setIfInBounds_toArray, List.set_cons_zero, List.set_cons_succ, i64_w, i32_w]
                                rfl
                              exact norm_ (by first | (simp only [putAll, Act.put, List.setIfInBounds_toArray, List.set_cons_zero, List.set_cons_succ]; done) | (simp only [putAll, Act.put, List.setIfInBounds_toArray, List.set_cons_zero, List.set_cons_succ]; rfl)) (hJ4_5_12 (Ra12, #[.int .i64 x1.f0, .int .i64 x1.f1, .string x1.f2, .slice B3x x1.f3.length d3x, .slice B4x x1.f4.length d4x, .slice B5x x1.f5.length d5x, .int .i64 0], ()) _ hz)
                            · skip
                              refine freshR_ (c := #[.int .i64 0, .int .i64 0, .string ⟨#[]⟩, .slice none 0 0, .slice none 0 0, .slice none 0 0, .int .i64 0]) (t := 30) (hF) (by rfl) rfl ?_ ?_
                              · first | (go_simp; done) | (go_simp; rfl)
                              intro Ra13 wz hz
                              have hzb : SPR w [(V, cv x A3 c3 A4 c4 A5 c5, 26)] [] wz := SPR.tk 1 0 hz
                              refine hK.out _ _ (HSa _ hzb) (fun hHeld => ?_)
                              clear hK K
                              refine norm_ (a' := ?_) ?_ ?_
                              rotate_left
                              · show Act.put _ (some 6) _ = _
                                simp only [Act.put, List.setIfInBounds_toArray, List.set_cons_zero, List.set_cons_succ, i64_w, i32_w]
                                rfl
                              exact norm_ (by first | (simp only [putAll, Act.put, List.setIfInBounds_toArray, List.set_cons_zero, List.set_cons_succ]; done) | (simp only [putAll, Act.put, List.setIfInBounds_toArray, List.set_cons_zero, List.set_cons_succ]; rfl)) (hJ4_5_13 (Ra13, #[.int .i64 x1.f0, .int .i64 x1.f1, .string x1.f2, .slice B3x x1.f3.length d3x, .slice B4x x1.f4.length d4x, .slice B5x x1.f5.length d5x, .int .i64 0], ()) _ hz)
                        · skip
                          rintro ⟨Ra12, Ra13, _⟩ w' hF
                          change SPR w [(V, cv x A3 c3 A4 c4 A5 c5, 26), (Ra12, z7, 30), (Ra13, z7, 30)] [] w' at hF
                          have hFb : SPR w [(V, cv x A3 c3 A4 c4 A5 c5, 26)] [] w' := SPR.tk 1 0 hF
                          have hHeld := HSa _ hFb
                          clear hFb
                          refine norm_ (a' := ?_) ?_ ?_
                          rotate_left
                          · simp only [putAll, Act.put, List.setIfInBounds_toArray, List.set_cons_zero, List.set_cons_succ]
                            rfl
                          refine one_ (i := 5) (N := some 29) #[true, true, true, true, true, true, true, true, true, false, true, false, true, true, false, false] rfl rfl (by kernel_rfl) (by decide) (fun K hK => ?_)
                          refine goes_ Tryz.func33 (by kernel_rfl) rfl #[.agg #[.int .i64 x.f0, .int .i64 x.f1, .string x.f2, .slice A3 x.f3.length c3, .slice A4 x.f4.length c4, .slice A5 x.f5.length c5], .agg #[.int .i64 0, .int .i64 0, .string ⟨#[]⟩, .slice none 0 0, .slice none 0 0, .slice none 0 0], .agg #[.int .i64 3, .int .i64 (2 * m1), .string ⟨#[]⟩, .slice none 0 0, .slice none 0 0, .slice none 0 0]] (by rfl) rfl rfl (by simp only [List.map_toArray, List.map_cons, List.map_nil]; rfl) ?_
                          with_reducible refine ((HSA.out _ _ _ (hF))).mono ?_
                          rintro e wz ⟨u5, rfl, hz⟩
                          refine ⟨_, rfl, ?_⟩
                          have hzb : SPR w [(V, cv x A3 c3 A4 c4 A5 c5, 26)] [] wz := SPR.tk 1 0 hz
                          refine hK.out _ _ (HSa _ hzb) (fun hHeld => ?_)
                          clear hK K
                          refine norm_ (a' := ?_) ?_ ?_
                          rotate_left
                          · show Act.put _ (some 29) _ = _
                            simp only [Act.put, List.setIfInBounds_toArray, List.set_cons_zero, List.set_cons_succ, i64_w, i32_w]
                            rfl
                          exact norm_ (by first | (simp only [putAll, Act.put, List.setIfInBounds_toArray, List.set_cons_zero, List.set_cons_succ]; done) | (simp only [putAll, Act.put, List.setIfInBounds_toArray, List.set_cons_zero, List.set_cons_succ]; rfl)) (hJ4_5_12_13 (Ra12, Ra13, u5, ()) _ hz)
                      · skip
                        rintro ⟨Ra13, cz5, _⟩ w' hF
                        change SPR w [(V, cv x A3 c3 A4 c4 A5 c5, 26), (Ra13, z7, 30)] [(x1, cz5)] w' at hF
                        obtain ⟨B3x, d3x, B4x, d4x, B5x, d5x, rfl⟩ := hF.cells 0 rfl
                        have hFb : SPR w [(V, cv x A3 c3 A4 c4 A5 c5, 26)] [] w' := SPR.tk 1 0 hF
                        have hHeld := HSa _ hFb
                        clear hFb
                        refine norm_ (a' := ?_) ?_ ?_
                        rotate_left
                        · simp only [putAll, Act.put, List.setIfInBounds_toArray, List.set_cons_zero, List.set_cons_succ]
                          rfl
                        refine two_ (i := 9) (j := 12) (Ni := some 33) (Nj := some 5) #[true, true, true, true, true, true, true, true, true, true, true, false, false, true, false, false] #[true, true, true, true, true, true, true, true, true, false, true, false, true, true, false, false] rfl rfl rfl rfl (by kernel_rfl) (by decide) (by decide) (fun K hK => ?_) (fun K hK => ?_)
                        · skip
                          refine goes_ Tryz.func34 (by kernel_rfl) rfl #[.int .i64 (wrap64 m1)] (by rfl) rfl rfl (by simp only [List.map_toArray, List.map_cons, List.map_nil]; rfl) ?_
                          with_reducible refine ((HN1.out _)).mono ?_
                          rintro e wz ⟨rfl, hb⟩
                          refine ⟨_, rfl, ?_⟩
                          have hz := SPR.below (hF) hb
                          have hzb : SPR w [(V, cv x A3 c3 A4 c4 A5 c5, 26)] [] wz := SPR.tk 1 0 hz
                          refine hK.out _ _ (HSa _ hzb) (fun hHeld => ?_)
                          clear hK K
                          refine norm_ (a' := ?_) ?_ ?_
                          rotate_left
                          · show Act.put _ (some 33) _ = _
                            simp only [Act.put, List.setIfInBounds_toArray, List.set_cons_zero, List.set_cons_succ, i64_w, i32_w]
                            rfl
                          exact norm_ (by first | (simp only [putAll, Act.put, List.setIfInBounds_toArray, List.set_cons_zero, List.set_cons_succ]; done) | (simp only [putAll, Act.put, List.setIfInBounds_toArray, List.set_cons_zero, List.set_cons_succ]; rfl)) (hJ4_5_9_13 (Ra13, #[.int .i64 x1.f0, .int .i64 x1.f1, .string x1.f2, .slice B3x x1.f3.length d3x, .slice B4x x1.f4.length d4x, .slice B5x x1.f5.length d5x, .int .i64 0], ()) _ hz)
                        · skip
                          refine freshR_ (c := #[.int .i64 0, .int .i64 0, .string ⟨#[]⟩, .slice none 0 0, .slice none 0 0, .slice none 0 0, .int .i64 0]) (t := 30) (hF) (by rfl) rfl ?_ ?_
                          · first | (go_simp; done) | (go_simp; rfl)
                          intro Ra12 wz hz
                          have hzb : SPR w [(V, cv x A3 c3 A4 c4 A5 c5, 26)] [] wz := SPR.tk 1 0 hz
                          refine hK.out _ _ (HSa _ hzb) (fun hHeld => ?_)
                          clear hK K
                          refine norm_ (a' := ?_) ?_ ?_
                          rotate_left
                          · show Act.put _ (some 5) _ = _
                            simp only [Act.put, List.setIfInBounds_toArray, List.set_cons_zero, List.set_cons_succ, i64_w, i32_w]
                            rfl
                          exact norm_ (by first | (simp only [putAll, Act.put, List.setIfInBounds_toArray, List.set_cons_zero, List.set_cons_succ]; done) | (simp only [putAll, Act.put, List.setIfInBounds_toArray, List.set_cons_zero, List.set_cons_succ]; rfl)) (hJ4_5_12_13 (Ra12, Ra13, #[.int .i64 x1.f0, .int .i64 x1.f1, .string x1.f2, .slice B3x x1.f3.length d3x, .slice B4x x1.f4.length d4x, .slice B5x x1.f5.length d5x, .int .i64 0], ()) _ (SPR.prm hz (.cons _ (.swap _ _ _))))
                    · skip
                      rintro ⟨Ra12, cz5, _⟩ w' hF
                      change SPR w [(V, cv x A3 c3 A4 c4 A5 c5, 26), (Ra12, z7, 30)] [(x1, cz5)] w' at hF
                      obtain ⟨B3x, d3x, B4x, d4x, B5x, d5x, rfl⟩ := hF.cells 0 rfl
                      have hFb : SPR w [(V, cv x A3 c3 A4 c4 A5 c5, 26)] [] w' := SPR.tk 1 0 hF
                      have hHeld := HSa _ hFb
                      clear hFb
                      refine norm_ (a' := ?_) ?_ ?_
                      rotate_left
                      · simp only [putAll, Act.put, List.setIfInBounds_toArray, List.set_cons_zero, List.set_cons_succ]
                        rfl
                      refine two_ (i := 9) (j := 13) (Ni := some 33) (Nj := some 6) #[true, true, true, true, true, true, true, true, true, true, true, false, true, false, false, false] #[true, true, true, true, true, true, true, true, true, false, true, false, true, true, false, false] rfl rfl rfl rfl (by kernel_rfl) (by decide) (by decide) (fun K hK => ?_) (fun K hK => ?_)
                      · skip
                        refine goes_ Tryz.func34 (by kernel_rfl) rfl #[.int .i64 (wrap64 m1)] (by rfl) rfl rfl (by simp only [List.map_toArray, List.map_cons, List.map_nil]; rfl) ?_
                        with_reducible refine ((HN1.out _)).mono ?_
                        rintro e wz ⟨rfl, hb⟩
                        refine ⟨_, rfl, ?_⟩
                        have hz := SPR.below (hF) hb
                        have hzb : SPR w [(V, cv x A3 c3 A4 c4 A5 c5, 26)] [] wz := SPR.tk 1 0 hz
                        refine hK.out _ _ (HSa _ hzb) (fun hHeld => ?_)
                        clear hK K
                        refine norm_ (a' := ?_) ?_ ?_
                        rotate_left
                        · show Act.put _ (some 33) _ = _
                          simp only [Act.put, List.setIfInBounds_toArray, List.set_cons_zero, List.set_cons_succ, i64_w, i32_w]
                          rfl
                        exact norm_ (by first | (simp only [putAll, Act.put, List.setIfInBounds_toArray, List.set_cons_zero, List.set_cons_succ]; done) | (simp only [putAll, Act.put, List.setIfInBounds_toArray, List.set_cons_zero, List.set_cons_succ]; rfl)) (hJ4_5_9_12 (Ra12, #[.int .i64 x1.f0, .int .i64 x1.f1, .string x1.f2, .slice B3x x1.f3.length d3x, .slice B4x x1.f4.length d4x, .slice B5x x1.f5.length d5x, .int .i64 0], ()) _ hz)
                      · skip
                        refine freshR_ (c := #[.int .i64 0, .int .i64 0, .string ⟨#[]⟩, .slice none 0 0, .slice none 0 0, .slice none 0 0, .int .i64 0]) (t := 30) (hF) (by rfl) rfl ?_ ?_
                        · first | (go_simp; done) | (go_simp; rfl)
                        intro Ra13 wz hz
                        have hzb : SPR w [(V, cv x A3 c3 A4 c4 A5 c5, 26)] [] wz := SPR.tk 1 0 hz
                        refine hK.out _ _ (HSa _ hzb) (fun hHeld => ?_)
                        clear hK K
                        refine norm_ (a' := ?_) ?_ ?_
                        rotate_left
                        · show Act.put _ (some 6) _ = _
                          simp only [Act.put, List.setIfInBounds_toArray, List.set_cons_zero, List.set_cons_succ, i64_w, i32_w]
                          rfl
                        exact norm_ (by first | (simp only [putAll, Act.put, List.setIfInBounds_toArray, List.set_cons_zero, List.set_cons_succ]; done) | (simp only [putAll, Act.put, List.setIfInBounds_toArray, List.set_cons_zero, List.set_cons_succ]; rfl)) (hJ4_5_12_13 (Ra12, Ra13, #[.int .i64 x1.f0, .int .i64 x1.f1, .string x1.f2, .slice B3x x1.f3.length d3x, .slice B4x x1.f4.length d4x, .slice B5x x1.f5.length d5x, .int .i64 0], ()) _ hz)
                  · skip
                    rintro ⟨cz5, _⟩ w' hF
                    change SPR w [(V, cv x A3 c3 A4 c4 A5 c5, 26)] [(x1, cz5)] w' at hF
                    obtain ⟨B3x, d3x, B4x, d4x, B5x, d5x, rfl⟩ := hF.cells 0 rfl
                    have hFb : SPR w [(V, cv x A3 c3 A4 c4 A5 c5, 26)] [] w' := SPR.tk 1 0 hF
                    have hHeld := HSa _ hFb
                    clear hFb
                    refine norm_ (a' := ?_) ?_ ?_
                    rotate_left
                    · simp only [putAll, Act.put, List.setIfInBounds_toArray, List.set_cons_zero, List.set_cons_succ]
                      rfl
                    refine three_ (i := 11) (j := 12) (k := 13) (Ni := some 35) (Nj := some 5) (Nk := some 6) #[true, true, true, true, true, true, true, true, true, true, true, true, false, false, false, false] #[true, true, true, true, true, true, true, true, true, true, true, false, true, false, false, false] #[true, true, true, true, true, true, true, true, true, true, true, false, false, true, false, false] rfl rfl rfl rfl rfl rfl (by kernel_rfl) (by decide) (by decide) (by decide) (fun K hK => ?_) (fun K hK => ?_) (fun K hK => ?_)
                    · skip
                      refine goes_ Tryz.func33 (by kernel_rfl) rfl #[.agg #[.int .i64 x.f0, .int .i64 x.f1, .string x.f2, .slice A3 x.f3.length c3, .slice A4 x.f4.length c4, .slice A5 x.f5.length c5], .agg #[.int .i64 3, .int .i64 (2 * m1), .string ⟨#[]⟩, .slice none 0 0, .slice none 0 0, .slice none 0 0], .agg #[.int .i64 0, .int .i64 0, .string ⟨#[]⟩, .slice none 0 0, .slice none 0 0, .slice none 0 0]] (by rfl) rfl rfl (by simp only [List.map_toArray, List.map_cons, List.map_nil]; rfl) ?_
                      with_reducible refine ((HSB.out _ _ _ (hF))).mono ?_
                      rintro e wz ⟨u11, rfl, hz⟩
                      refine ⟨_, rfl, ?_⟩
                      have hzb : SPR w [(V, cv x A3 c3 A4 c4 A5 c5, 26)] [] wz := SPR.tk 1 0 hz
                      refine hK.out _ _ (HSa _ hzb) (fun hHeld => ?_)
                      clear hK K
                      refine norm_ (a' := ?_) ?_ ?_
                      rotate_left
                      · show Act.put _ (some 35) _ = _
                        simp only [Act.put, List.setIfInBounds_toArray, List.set_cons_zero, List.set_cons_succ, i64_w, i32_w]
                        rfl
                      exact norm_ (by first | (simp only [putAll, Act.put, List.setIfInBounds_toArray, List.set_cons_zero, List.set_cons_succ]; done) | (simp only [putAll, Act.put, List.setIfInBounds_toArray, List.set_cons_zero, List.set_cons_succ]; rfl)) (hJ4_5_9_11 (#[.int .i64 x1.f0, .int .i64 x1.f1, .string x1.f2, .slice B3x x1.f3.length d3x, .slice B4x x1.f4.length d4x, .slice B5x x1.f5.length d5x, .int .i64 0], u11, ()) _ hz)
                    · skip
                      refine freshR_ (c := #[.int .i64 0, .int .i64 0, .string ⟨#[]⟩, .slice none 0 0, .slice none 0 0, .slice none 0 0, .int .i64 0]) (t := 30) (hF) (by rfl) rfl ?_ ?_
                      · first | (go_simp; done) | (go_simp; rfl)
                      intro Ra12 wz hz
                      have hzb : SPR w [(V, cv x A3 c3 A4 c4 A5 c5, 26)] [] wz := SPR.tk 1 0 hz
                      refine hK.out _ _ (HSa _ hzb) (fun hHeld => ?_)
                      clear hK K
                      refine norm_ (a' := ?_) ?_ ?_
                      rotate_left
                      · show Act.put _ (some 5) _ = _
                        simp only [Act.put, List.setIfInBounds_toArray, List.set_cons_zero, List.set_cons_succ, i64_w, i32_w]
                        rfl
                      exact norm_ (by first | (simp only [putAll, Act.put, List.setIfInBounds_toArray, List.set_cons_zero, List.set_cons_succ]; done) | (simp only [putAll, Act.put, List.setIfInBounds_toArray, List.set_cons_zero, List.set_cons_succ]; rfl)) (hJ4_5_9_12 (Ra12, #[.int .i64 x1.f0, .int .i64 x1.f1, .string x1.f2, .slice B3x x1.f3.length d3x, .slice B4x x1.f4.length d4x, .slice B5x x1.f5.length d5x, .int .i64 0], ()) _ hz)
                    · skip
                      refine freshR_ (c := #[.int .i64 0, .int .i64 0, .string ⟨#[]⟩, .slice none 0 0, .slice none 0 0, .slice none 0 0, .int .i64 0]) (t := 30) (hF) (by rfl) rfl ?_ ?_
                      · first | (go_simp; done) | (go_simp; rfl)
                      intro Ra13 wz hz
                      have hzb : SPR w [(V, cv x A3 c3 A4 c4 A5 c5, 26)] [] wz := SPR.tk 1 0 hz
                      refine hK.out _ _ (HSa _ hzb) (fun hHeld => ?_)
                      clear hK K
                      refine norm_ (a' := ?_) ?_ ?_
                      rotate_left
                      · show Act.put _ (some 6) _ = _
                        simp only [Act.put, List.setIfInBounds_toArray, List.set_cons_zero, List.set_cons_succ, i64_w, i32_w]
                        rfl
                      exact norm_ (by first | (simp only [putAll, Act.put, List.setIfInBounds_toArray, List.set_cons_zero, List.set_cons_succ]; done) | (simp only [putAll, Act.put, List.setIfInBounds_toArray, List.set_cons_zero, List.set_cons_succ]; rfl)) (hJ4_5_9_13 (Ra13, #[.int .i64 x1.f0, .int .i64 x1.f1, .string x1.f2, .slice B3x x1.f3.length d3x, .slice B4x x1.f4.length d4x, .slice B5x x1.f5.length d5x, .int .i64 0], ()) _ hz)
                · skip
                  rintro ⟨Ra12, Ra13, cz5, _⟩ w' hF
                  change SPR w [(V, cv x A3 c3 A4 c4 A5 c5, 26), (Ra12, z7, 30), (Ra13, z7, 30)] [(x1, cz5)] w' at hF
                  obtain ⟨B3x, d3x, B4x, d4x, B5x, d5x, rfl⟩ := hF.cells 0 rfl
                  have hFb : SPR w [(V, cv x A3 c3 A4 c4 A5 c5, 26)] [] w' := SPR.tk 1 0 hF
                  have hHeld := HSa _ hFb
                  clear hFb
                  refine norm_ (a' := ?_) ?_ ?_
                  rotate_left
                  · simp only [putAll, Act.put, List.setIfInBounds_toArray, List.set_cons_zero, List.set_cons_succ]
                    rfl
                  refine one_ (i := 9) (N := some 33) #[true, true, true, true, true, true, true, true, true, true, true, false, true, true, false, false] rfl rfl (by kernel_rfl) (by decide) (fun K hK => ?_)
                  refine goes_ Tryz.func34 (by kernel_rfl) rfl #[.int .i64 (wrap64 m1)] (by rfl) rfl rfl (by simp only [List.map_toArray, List.map_cons, List.map_nil]; rfl) ?_
                  with_reducible refine ((HN1.out _)).mono ?_
                  rintro e wz ⟨rfl, hb⟩
                  refine ⟨_, rfl, ?_⟩
                  have hz := SPR.below (hF) hb
                  have hzb : SPR w [(V, cv x A3 c3 A4 c4 A5 c5, 26)] [] wz := SPR.tk 1 0 hz
                  refine hK.out _ _ (HSa _ hzb) (fun hHeld => ?_)
                  clear hK K
                  refine norm_ (a' := ?_) ?_ ?_
                  rotate_left
                  · show Act.put _ (some 33) _ = _
                    simp only [Act.put, List.setIfInBounds_toArray, List.set_cons_zero, List.set_cons_succ, i64_w, i32_w]
                    rfl
                  exact norm_ (by first | (simp only [putAll, Act.put, List.setIfInBounds_toArray, List.set_cons_zero, List.set_cons_succ]; done) | (simp only [putAll, Act.put, List.setIfInBounds_toArray, List.set_cons_zero, List.set_cons_succ]; rfl)) (hJ4_5_9_12_13 (Ra12, Ra13, #[.int .i64 x1.f0, .int .i64 x1.f1, .string x1.f2, .slice B3x x1.f3.length d3x, .slice B4x x1.f4.length d4x, .slice B5x x1.f5.length d5x, .int .i64 0], ()) _ hz)
              · skip
                rintro ⟨Ra13, cz5, _⟩ w' hF
                change SPR w [(V, cv x A3 c3 A4 c4 A5 c5, 26), (Ra13, z7, 30)] [(x1, cz5)] w' at hF
                obtain ⟨B3x, d3x, B4x, d4x, B5x, d5x, rfl⟩ := hF.cells 0 rfl
                have hFb : SPR w [(V, cv x A3 c3 A4 c4 A5 c5, 26)] [] w' := SPR.tk 1 0 hF
                have hHeld := HSa _ hFb
                clear hFb
                refine norm_ (a' := ?_) ?_ ?_
                rotate_left
                · simp only [putAll, Act.put, List.setIfInBounds_toArray, List.set_cons_zero, List.set_cons_succ]
                  rfl
                refine two_ (i := 11) (j := 12) (Ni := some 35) (Nj := some 5) #[true, true, true, true, true, true, true, true, true, true, true, true, false, true, false, false] #[true, true, true, true, true, true, true, true, true, true, true, false, true, true, false, false] rfl rfl rfl rfl (by kernel_rfl) (by decide) (by decide) (fun K hK => ?_) (fun K hK => ?_)
                · skip
                  refine goes_ Tryz.func33 (by kernel_rfl) rfl #[.agg #[.int .i64 x.f0, .int .i64 x.f1, .string x.f2, .slice A3 x.f3.length c3, .slice A4 x.f4.length c4, .slice A5 x.f5.length c5], .agg #[.int .i64 3, .int .i64 (2 * m1), .string ⟨#[]⟩, .slice none 0 0, .slice none 0 0, .slice none 0 0], .agg #[.int .i64 0, .int .i64 0, .string ⟨#[]⟩, .slice none 0 0, .slice none 0 0, .slice none 0 0]] (by rfl) rfl rfl (by simp only [List.map_toArray, List.map_cons, List.map_nil]; rfl) ?_
                  with_reducible refine ((HSB.out _ _ _ (hF))).mono ?_
                  rintro e wz ⟨u11, rfl, hz⟩
                  refine ⟨_, rfl, ?_⟩
                  have hzb : SPR w [(V, cv x A3 c3 A4 c4 A5 c5, 26)] [] wz := SPR.tk 1 0 hz
                  refine hK.out _ _ (HSa _ hzb) (fun hHeld => ?_)
                  clear hK K
                  refine norm_ (a' := ?_) ?_ ?_
                  rotate_left
                  · show Act.put _ (some 35) _ = _
                    simp only [Act.put, List.setIfInBounds_toArray, List.set_cons_zero, List.set_cons_succ, i64_w, i32_w]
                    rfl
                  exact norm_ (by first | (simp only [putAll, Act.put, List.setIfInBounds_toArray, List.set_cons_zero, List.set_cons_succ]; done) | (simp only [putAll, Act.put, List.setIfInBounds_toArray, List.set_cons_zero, List.set_cons_succ]; rfl)) (hJ4_5_9_11_13 (Ra13, #[.int .i64 x1.f0, .int .i64 x1.f1, .string x1.f2, .slice B3x x1.f3.length d3x, .slice B4x x1.f4.length d4x, .slice B5x x1.f5.length d5x, .int .i64 0], u11, ()) _ hz)
                · skip
                  refine freshR_ (c := #[.int .i64 0, .int .i64 0, .string ⟨#[]⟩, .slice none 0 0, .slice none 0 0, .slice none 0 0, .int .i64 0]) (t := 30) (hF) (by rfl) rfl ?_ ?_
                  · first | (go_simp; done) | (go_simp; rfl)
                  intro Ra12 wz hz
                  have hzb : SPR w [(V, cv x A3 c3 A4 c4 A5 c5, 26)] [] wz := SPR.tk 1 0 hz
                  refine hK.out _ _ (HSa _ hzb) (fun hHeld => ?_)
                  clear hK K
                  refine norm_ (a' := ?_) ?_ ?_
                  rotate_left
                  · show Act.put _ (some 5) _ = _
                    simp only [Act.put, List.setIfInBounds_toArray, List.set_cons_zero, List.set_cons_succ, i64_w, i32_w]
                    rfl
                  exact norm_ (by first | (simp only [putAll, Act.put, List.setIfInBounds_toArray, List.set_cons_zero, List.set_cons_succ]; done) | (simp only [putAll, Act.put, List.setIfInBounds_toArray, List.set_cons_zero, List.set_cons_succ]; rfl)) (hJ4_5_9_12_13 (Ra12, Ra13, #[.int .i64 x1.f0, .int .i64 x1.f1, .string x1.f2, .slice B3x x1.f3.length d3x, .slice B4x x1.f4.length d4x, .slice B5x x1.f5.length d5x, .int .i64 0], ()) _ (SPR.prm hz (.cons _ (.swap _ _ _))))
            · skip
              rintro ⟨Ra12, cz5, _⟩ w' hF
              change SPR w [(V, cv x A3 c3 A4 c4 A5 c5, 26), (Ra12, z7, 30)] [(x1, cz5)] w' at hF
              obtain ⟨B3x, d3x, B4x, d4x, B5x, d5x, rfl⟩ := hF.cells 0 rfl
              have hFb : SPR w [(V, cv x A3 c3 A4 c4 A5 c5, 26)] [] w' := SPR.tk 1 0 hF
              have hHeld := HSa _ hFb
              clear hFb
              refine norm_ (a' := ?_) ?_ ?_
              rotate_left
              · simp only [putAll, Act.put, List.setIfInBounds_toArray, List.set_cons_zero, List.set_cons_succ]
                rfl
              refine two_ (i := 11) (j := 13) (Ni := some 35) (Nj := some 6) #[true, true, true, true, true, true, true, true, true, true, true, true, true, false, false, false] #[true, true, true, true, true, true, true, true, true, true, true, false, true, true, false, false] rfl rfl rfl rfl (by kernel_rfl) (by decide) (by decide) (fun K hK => ?_) (fun K hK => ?_)
              · skip
                refine goes_ Tryz.func33 (by kernel_rfl) rfl #[.agg #[.int .i64 x.f0, .int .i64 x.f1, .string x.f2, .slice A3 x.f3.length c3, .slice A4 x.f4.length c4, .slice A5 x.f5.length c5], .agg #[.int .i64 3, .int .i64 (2 * m1), .string ⟨#[]⟩, .slice none 0 0, .slice none 0 0, .slice none 0 0], .agg #[.int .i64 0, .int .i64 0, .string ⟨#[]⟩, .slice none 0 0, .slice none 0 0, .slice none 0 0]] (by rfl) rfl rfl (by simp only [List.map_toArray, List.map_cons, List.map_nil]; rfl) ?_
                with_reducible refine ((HSB.out _ _ _ (hF))).mono ?_
                rintro e wz ⟨u11, rfl, hz⟩
                refine ⟨_, rfl, ?_⟩
                have hzb : SPR w [(V, cv x A3 c3 A4 c4 A5 c5, 26)] [] wz := SPR.tk 1 0 hz
                refine hK.out _ _ (HSa _ hzb) (fun hHeld => ?_)
                clear hK K
                refine norm_ (a' := ?_) ?_ ?_
                rotate_left
                · show Act.put _ (some 35) _ = _
                  simp only [Act.put, List.setIfInBounds_toArray, List.set_cons_zero, List.set_cons_succ, i64_w, i32_w]
                  rfl
                exact norm_ (by first | (simp only [putAll, Act.put, List.setIfInBounds_toArray, List.set_cons_zero, List.set_cons_succ]; done) | (simp only [putAll, Act.put, List.setIfInBounds_toArray, List.set_cons_zero, List.set_cons_succ]; rfl)) (hJ4_5_9_11_12 (Ra12, #[.int .i64 x1.f0, .int .i64 x1.f1, .string x1.f2, .slice B3x x1.f3.length d3x, .slice B4x x1.f4.length d4x, .slice B5x x1.f5.length d5x, .int .i64 0], u11, ()) _ hz)
              · skip
                refine freshR_ (c := #[.int .i64 0, .int .i64 0, .string ⟨#[]⟩, .slice none 0 0, .slice none 0 0, .slice none 0 0, .int .i64 0]) (t := 30) (hF) (by rfl) rfl ?_ ?_
                · first | (go_simp; done) | (go_simp; rfl)
                intro Ra13 wz hz
                have hzb : SPR w [(V, cv x A3 c3 A4 c4 A5 c5, 26)] [] wz := SPR.tk 1 0 hz
                refine hK.out _ _ (HSa _ hzb) (fun hHeld => ?_)
                clear hK K
                refine norm_ (a' := ?_) ?_ ?_
                rotate_left
                · show Act.put _ (some 6) _ = _
                  simp only [Act.put, List.setIfInBounds_toArray, List.set_cons_zero, List.set_cons_succ, i64_w, i32_w]
                  rfl
                exact norm_ (by first | (simp only [putAll, Act.put, List.setIfInBounds_toArray, List.set_cons_zero, List.set_cons_succ]; done) | (simp only [putAll, Act.put, List.setIfInBounds_toArray, List.set_cons_zero, List.set_cons_succ]; rfl)) (hJ4_5_9_12_13 (Ra12, Ra13, #[.int .i64 x1.f0, .int .i64 x1.f1, .string x1.f2, .slice B3x x1.f3.length d3x, .slice B4x x1.f4.length d4x, .slice B5x x1.f5.length d5x, .int .i64 0], ()) _ hz)
          · skip
            rintro ⟨cz5, cz11, _⟩ w' hF
            change SPR w [(V, cv x A3 c3 A4 c4 A5 c5, 26)] [(x1, cz5), (x2, cz11)] w' at hF
            obtain ⟨B3x, d3x, B4x, d4x, B5x, d5x, rfl⟩ := hF.cells 0 rfl
            obtain ⟨B3y, d3y, B4y, d4y, B5y, d5y, rfl⟩ := hF.cells 1 rfl
            have hFb : SPR w [(V, cv x A3 c3 A4 c4 A5 c5, 26)] [] w' := SPR.tk 1 0 hF
            have hHeld := HSa _ hFb
            clear hFb
            refine norm_ (a' := ?_) ?_ ?_
            rotate_left
            · simp only [putAll, Act.put, List.setIfInBounds_toArray, List.set_cons_zero, List.set_cons_succ]
              rfl
            refine two_ (i := 12) (j := 13) (Ni := some 5) (Nj := some 6) #[true, true, true, true, true, true, true, true, true, true, true, true, true, false, false, false] #[true, true, true, true, true, true, true, true, true, true, true, true, false, true, false, false] rfl rfl rfl rfl (by kernel_rfl) (by decide) (by decide) (fun K hK => ?_) (fun K hK => ?_)
            · skip
              refine freshR_ (c := #[.int .i64 0, .int .i64 0, .string ⟨#[]⟩, .slice none 0 0, .slice none 0 0, .slice none 0 0, .int .i64 0]) (t := 30) (hF) (by rfl) rfl ?_ ?_
              · first | (go_simp; done) | (go_simp; rfl)
              intro Ra12 wz hz
              have hzb : SPR w [(V, cv x A3 c3 A4 c4 A5 c5, 26)] [] wz := SPR.tk 1 0 hz
              refine hK.out _ _ (HSa _ hzb) (fun hHeld => ?_)
              clear hK K
              refine norm_ (a' := ?_) ?_ ?_
              rotate_left
              · show Act.put _ (some 5) _ = _
                simp only [Act.put, List.setIfInBounds_toArray, List.set_cons_zero, List.set_cons_succ, i64_w, i32_w]
                rfl
              exact norm_ (by first | (simp only [putAll, Act.put, List.setIfInBounds_toArray, List.set_cons_zero, List.set_cons_succ]; done) | (simp only [putAll, Act.put, List.setIfInBounds_toArray, List.set_cons_zero, List.set_cons_succ]; rfl)) (hJ4_5_9_11_12 (Ra12, #[.int .i64 x1.f0, .int .i64 x1.f1, .string x1.f2, .slice B3x x1.f3.length d3x, .slice B4x x1.f4.length d4x, .slice B5x x1.f5.length d5x, .int .i64 0], #[.int .i64 x2.f0, .int .i64 x2.f1, .string x2.f2, .slice B3y x2.f3.length d3y, .slice B4y x2.f4.length d4y, .slice B5y x2.f5.length d5y, .int .i64 0], ()) _ hz)
            · skip
              refine freshR_ (c := #[.int .i64 0, .int .i64 0, .string ⟨#[]⟩, .slice none 0 0, .slice none 0 0, .slice none 0 0, .int .i64 0]) (t := 30) (hF) (by rfl) rfl ?_ ?_
              · first | (go_simp; done) | (go_simp; rfl)
              intro Ra13 wz hz
              have hzb : SPR w [(V, cv x A3 c3 A4 c4 A5 c5, 26)] [] wz := SPR.tk 1 0 hz
              refine hK.out _ _ (HSa _ hzb) (fun hHeld => ?_)
              clear hK K
              refine norm_ (a' := ?_) ?_ ?_
              rotate_left
              · show Act.put _ (some 6) _ = _
                simp only [Act.put, List.setIfInBounds_toArray, List.set_cons_zero, List.set_cons_succ, i64_w, i32_w]
                rfl
              exact norm_ (by first | (simp only [putAll, Act.put, List.setIfInBounds_toArray, List.set_cons_zero, List.set_cons_succ]; done) | (simp only [putAll, Act.put, List.setIfInBounds_toArray, List.set_cons_zero, List.set_cons_succ]; rfl)) (hJ4_5_9_11_13 (Ra13, #[.int .i64 x1.f0, .int .i64 x1.f1, .string x1.f2, .slice B3x x1.f3.length d3x, .slice B4x x1.f4.length d4x, .slice B5x x1.f5.length d5x, .int .i64 0], #[.int .i64 x2.f0, .int .i64 x2.f1, .string x2.f2, .slice B3y x2.f3.length d3y, .slice B4y x2.f4.length d4y, .slice B5y x2.f5.length d5y, .int .i64 0], ()) _ hz)
        · skip
          rintro ⟨Ra12, Ra13, cz5, _⟩ w' hF
          change SPR w [(V, cv x A3 c3 A4 c4 A5 c5, 26), (Ra12, z7, 30), (Ra13, z7, 30)] [(x1, cz5)] w' at hF
          obtain ⟨B3x, d3x, B4x, d4x, B5x, d5x, rfl⟩ := hF.cells 0 rfl
          have hFb : SPR w [(V, cv x A3 c3 A4 c4 A5 c5, 26)] [] w' := SPR.tk 1 0 hF
          have hHeld := HSa _ hFb
          clear hFb
          refine norm_ (a' := ?_) ?_ ?_
          rotate_left
          · simp only [putAll, Act.put, List.setIfInBounds_toArray, List.set_cons_zero, List.set_cons_succ]
            rfl
          refine one_ (i := 11) (N := some 35) #[true, true, true, true, true, true, true, true, true, true, true, true, true, true, false, false] rfl rfl (by kernel_rfl) (by decide) (fun K hK => ?_)
          refine goes_ Tryz.func33 (by kernel_rfl) rfl #[.agg #[.int .i64 x.f0, .int .i64 x.f1, .string x.f2, .slice A3 x.f3.length c3, .slice A4 x.f4.length c4, .slice A5 x.f5.length c5], .agg #[.int .i64 3, .int .i64 (2 * m1), .string ⟨#[]⟩, .slice none 0 0, .slice none 0 0, .slice none 0 0], .agg #[.int .i64 0, .int .i64 0, .string ⟨#[]⟩, .slice none 0 0, .slice none 0 0, .slice none 0 0]] (by rfl) rfl rfl (by simp only [List.map_toArray, List.map_cons, List.map_nil]; rfl) ?_
          with_reducible refine ((HSB.out _ _ _ (hF))).mono ?_
          rintro e wz ⟨u11, rfl, hz⟩
          refine ⟨_, rfl, ?_⟩
          have hzb : SPR w [(V, cv x A3 c3 A4 c4 A5 c5, 26)] [] wz := SPR.tk 1 0 hz
          refine hK.out _ _ (HSa _ hzb) (fun hHeld => ?_)
          clear hK K
          refine norm_ (a' := ?_) ?_ ?_
          rotate_left
          · show Act.put _ (some 35) _ = _
            simp only [Act.put, List.setIfInBounds_toArray, List.set_cons_zero, List.set_cons_succ, i64_w, i32_w]
            rfl
          exact norm_ (by first | (simp only [putAll, Act.put, List.setIfInBounds_toArray, List.set_cons_zero, List.set_cons_succ]; done) | (simp only [putAll, Act.put, List.setIfInBounds_toArray, List.set_cons_zero, List.set_cons_succ]; rfl)) (hJ4_5_9_11_12_13 (Ra12, Ra13, #[.int .i64 x1.f0, .int .i64 x1.f1, .string x1.f2, .slice B3x x1.f3.length d3x, .slice B4x x1.f4.length d4x, .slice B5x x1.f5.length d5x, .int .i64 0], u11, ()) _ hz)
      · skip
        rintro ⟨Ra13, cz5, cz11, _⟩ w' hF
        change SPR w [(V, cv x A3 c3 A4 c4 A5 c5, 26), (Ra13, z7, 30)] [(x1, cz5), (x2, cz11)] w' at hF
        obtain ⟨B3x, d3x, B4x, d4x, B5x, d5x, rfl⟩ := hF.cells 0 rfl
        obtain ⟨B3y, d3y, B4y, d4y, B5y, d5y, rfl⟩ := hF.cells 1 rfl
        have hFb : SPR w [(V, cv x A3 c3 A4 c4 A5 c5, 26)] [] w' := SPR.tk 1 0 hF
        have hHeld := HSa _ hFb
        clear hFb
        refine norm_ (a' := ?_) ?_ ?_
        rotate_left
        · simp only [putAll, Act.put, List.setIfInBounds_toArray, List.set_cons_zero, List.set_cons_succ]
          rfl
        refine one_ (i := 12) (N := some 5) #[true, true, true, true, true, true, true, true, true, true, true, true, true, true, false, false] rfl rfl (by kernel_rfl) (by decide) (fun K hK => ?_)
        refine freshR_ (c := #[.int .i64 0, .int .i64 0, .string ⟨#[]⟩, .slice none 0 0, .slice none 0 0, .slice none 0 0, .int .i64 0]) (t := 30) (hF) (by rfl) rfl ?_ ?_
        · first | (go_simp; done) | (go_simp; rfl)
        intro Ra12 wz hz
        have hzb : SPR w [(V, cv x A3 c3 A4 c4 A5 c5, 26)] [] wz := SPR.tk 1 0 hz
        refine hK.out _ _ (HSa _ hzb) (fun hHeld => ?_)
        clear hK K
        refine norm_ (a' := ?_) ?_ ?_
        rotate_left
        · show Act.put _ (some 5) _ = _
          simp only [Act.put, List.setIfInBounds_toArray, List.set_cons_zero, List.set_cons_succ, i64_w, i32_w]
          rfl
        exact norm_ (by first | (simp only [putAll, Act.put, List.setIfInBounds_toArray, List.set_cons_zero, List.set_cons_succ]; done) | (simp only [putAll, Act.put, List.setIfInBounds_toArray, List.set_cons_zero, List.set_cons_succ]; rfl)) (hJ4_5_9_11_12_13 (Ra12, Ra13, #[.int .i64 x1.f0, .int .i64 x1.f1, .string x1.f2, .slice B3x x1.f3.length d3x, .slice B4x x1.f4.length d4x, .slice B5x x1.f5.length d5x, .int .i64 0], #[.int .i64 x2.f0, .int .i64 x2.f1, .string x2.f2, .slice B3y x2.f3.length d3y, .slice B4y x2.f4.length d4y, .slice B5y x2.f5.length d5y, .int .i64 0], ()) _ (SPR.prm hz (.cons _ (.swap _ _ _))))
    · skip
      rintro ⟨Ra12, cz5, cz11, _⟩ w' hF
      change SPR w [(V, cv x A3 c3 A4 c4 A5 c5, 26), (Ra12, z7, 30)] [(x1, cz5), (x2, cz11)] w' at hF
      obtain ⟨B3x, d3x, B4x, d4x, B5x, d5x, rfl⟩ := hF.cells 0 rfl
      obtain ⟨B3y, d3y, B4y, d4y, B5y, d5y, rfl⟩ := hF.cells 1 rfl
      have hFb : SPR w [(V, cv x A3 c3 A4 c4 A5 c5, 26)] [] w' := SPR.tk 1 0 hF
      have hHeld := HSa _ hFb
      clear hFb
      refine norm_ (a' := ?_) ?_ ?_
      rotate_left
      · simp only [putAll, Act.put, List.setIfInBounds_toArray, List.set_cons_zero, List.set_cons_succ]
        rfl
      refine one_ (i := 13) (N := some 6) #[true, true, true, true, true, true, true, true, true, true, true, true, true, true, false, false] rfl rfl (by kernel_rfl) (by decide) (fun K hK => ?_)
      refine freshR_ (c := #[.int .i64 0, .int .i64 0, .string ⟨#[]⟩, .slice none 0 0, .slice none 0 0, .slice none 0 0, .int .i64 0]) (t := 30) (hF) (by rfl) rfl ?_ ?_
      · first | (go_simp; done) | (go_simp; rfl)
      intro Ra13 wz hz
      have hzb : SPR w [(V, cv x A3 c3 A4 c4 A5 c5, 26)] [] wz := SPR.tk 1 0 hz
      refine hK.out _ _ (HSa _ hzb) (fun hHeld => ?_)
      clear hK K
      refine norm_ (a' := ?_) ?_ ?_
      rotate_left
      · show Act.put _ (some 6) _ = _
        simp only [Act.put, List.setIfInBounds_toArray, List.set_cons_zero, List.set_cons_succ, i64_w, i32_w]
        rfl
      exact norm_ (by first | (simp only [putAll, Act.put, List.setIfInBounds_toArray, List.set_cons_zero, List.set_cons_succ]; done) | (simp only [putAll, Act.put, List.setIfInBounds_toArray, List.set_cons_zero, List.set_cons_succ]; rfl)) (hJ4_5_9_11_12_13 (Ra12, Ra13, #[.int .i64 x1.f0, .int .i64 x1.f1, .string x1.f2, .slice B3x x1.f3.length d3x, .slice B4x x1.f4.length d4x, .slice B5x x1.f5.length d5x, .int .i64 0], #[.int .i64 x2.f0, .int .i64 x2.f1, .string x2.f2, .slice B3y x2.f3.length d3y, .slice B4y x2.f4.length d4y, .slice B5y x2.f5.length d5y, .int .i64 0], ()) _ hz)
  rintro ⟨Ra12, Ra13, cz5, cz11, _⟩ w' hF
  change SPR w [(V, cv x A3 c3 A4 c4 A5 c5, 26), (Ra12, z7, 30), (Ra13, z7, 30)] [(x1, cz5), (x2, cz11)] w' at hF
  obtain ⟨B3x, d3x, B4x, d4x, B5x, d5x, rfl⟩ := hF.cells 0 rfl
  obtain ⟨B3y, d3y, B4y, d4y, B5y, d5y, rfl⟩ := hF.cells 1 rfl
  have hFb : SPR w [(V, cv x A3 c3 A4 c4 A5 c5, 26)] [] w' := SPR.tk 1 0 hF
  have hHeld := HSa _ hFb
  clear hFb
  refine norm_ (a' := ?_) ?_ ?_
  rotate_left
  · simp only [putAll, Act.put, List.setIfInBounds_toArray, List.set_cons_zero, List.set_cons_succ]
    rfl
  refine one_ (i := 14) (N := none) #[true, true, true, true, true, true, true, true, true, true, true, true, true, true, true, false] rfl rfl (by kernel_rfl) (by decide) (fun K hK => ?_)
  obtain ⟨y0, y1, y2, y3, y4, y5, y6, f0, f1, f2, f3, f4, f5, f6⟩ := sev_cells (SPR.get hF 1 rfl)
  refine put7R_ (v0 := .int .i64 x1.f0) (v1 := .int .i64 x1.f1) (v2 := .string x1.f2) (v3 := .slice B3x x1.f3.length d3x) (v4 := .slice B4x x1.f4.length d4x) (v5 := .slice B5x x1.f5.length d5x) (v6 := .int .i64 0) hF 1 rfl (by rfl) rfl ?_ ?_
  · first | (go_simp; done) | (go_simp; rfl)
  clear y0 y1 y2 y3 y4 y5 y6 f0 f1 f2 f3 f4 f5 f6
  intro wsa0 hsa0
  change SPR w [(V, cv x A3 c3 A4 c4 A5 c5, 26), (Ra12, rc x1 B3x d3x B4x d4x B5x d5x, 30), (Ra13, z7, 30)] [(x1, rc x1 B3x d3x B4x d4x B5x d5x), (x2, rc x2 B3y d3y B4y d4y B5y d5y)] wsa0 at hsa0
  have hzb : SPR w [(V, cv x A3 c3 A4 c4 A5 c5, 26)] [] wsa0 := SPR.tk 1 0 hsa0
  refine hK.out _ _ (HSa _ hzb) (fun hHeld => ?_)
  clear hK K
  refine one_ (i := 15) (N := none) #[true, true, true, true, true, true, true, true, true, true, true, true, true, true, true, true] rfl rfl (by kernel_rfl) (by decide) (fun K hK => ?_)
  obtain ⟨y0, y1, y2, y3, y4, y5, y6, f0, f1, f2, f3, f4, f5, f6⟩ := sev_cells (SPR.get hsa0 2 rfl)
  refine put7R_ (v0 := .int .i64 x2.f0) (v1 := .int .i64 x2.f1) (v2 := .string x2.f2) (v3 := .slice B3y x2.f3.length d3y) (v4 := .slice B4y x2.f4.length d4y) (v5 := .slice B5y x2.f5.length d5y) (v6 := .int .i64 0) hsa0 2 rfl (by rfl) rfl ?_ ?_
  · first | (go_simp; done) | (go_simp; rfl)
  clear y0 y1 y2 y3 y4 y5 y6 f0 f1 f2 f3 f4 f5 f6
  intro wsa1 hsa1
  change SPR w [(V, cv x A3 c3 A4 c4 A5 c5, 26), (Ra12, rc x1 B3x d3x B4x d4x B5x d5x, 30), (Ra13, rc x2 B3y d3y B4y d4y B5y d5y, 30)] [(x1, rc x1 B3x d3x B4x d4x B5x d5x), (x2, rc x2 B3y d3y B4y d4y B5y d5y)] wsa1 at hsa1
  have hzb : SPR w [(V, cv x A3 c3 A4 c4 A5 c5, 26)] [] wsa1 := SPR.tk 1 0 hsa1
  refine hK.out _ _ (HSa _ hzb) (fun hHeld => ?_)
  clear hK K
  refine done_ (by kernel_rfl) ?_
  obtain ⟨wq, hwq⟩ : ∃ wq, wq = wsa1 := ⟨_, rfl⟩
  rw [← hwq] at hsa1 ⊢
  have HQ := Lib.hid hsa1
  clear hsa0 hF hHeld hwq hsa1
  have HC1 := Lib.hid (K_C3 (HQ.out.held 0 rfl))
  have HC2 := Lib.hid (K_C3 (HQ.out.held 1 rfl))
  have q6 := HKD.out.1
  have q7 := HKD.out.2
  have y0 := six_cells (HQ.out.get 0 rfl)
  have y1 := sev_cells (HQ.out.get 1 rfl)
  have y2 := sev_cells (HQ.out.get 2 rfl)
  go_wp2_with fail
  clear y0 y1 y2 q6 q7
  have hcat := HCAT.out.1
  have hnl := HLS.out
  refine start_ (n := 27) (S := fun w' => w'.cell? ⟨V, 0, none⟩ = some (.int .i64 x.f0) ∧ w'.cell? ⟨V, 1, none⟩ = some (.int .i64 x.f1) ∧ w'.cell? ⟨V, 2, none⟩ = some (.string x.f2) ∧ w'.cell? ⟨V, 3, none⟩ = some (.slice A3 x.f3.length c3) ∧ w'.cell? ⟨V, 4, none⟩ = some (.slice A4 x.f4.length c4) ∧ w'.cell? ⟨V, 5, none⟩ = some (.slice A5 x.f5.length c5) ∧ w'.cell? ⟨Ra12, 0, none⟩ = some (.int .i64 x1.f0) ∧ w'.cell? ⟨Ra12, 1, none⟩ = some (.int .i64 x1.f1) ∧ w'.cell? ⟨Ra12, 2, none⟩ = some (.string x1.f2) ∧ w'.cell? ⟨Ra12, 3, none⟩ = some (.slice B3x x1.f3.length d3x) ∧ w'.cell? ⟨Ra12, 4, none⟩ = some (.slice B4x x1.f4.length d4x) ∧ w'.cell? ⟨Ra12, 5, none⟩ = some (.slice B5x x1.f5.length d5x) ∧ w'.cell? ⟨Ra12, 6, none⟩ = some (.int .i64 0) ∧ w'.cell? ⟨Ra13, 0, none⟩ = some (.int .i64 x2.f0) ∧ w'.cell? ⟨Ra13, 1, none⟩ = some (.int .i64 x2.f1) ∧ w'.cell? ⟨Ra13, 2, none⟩ = some (.string x2.f2) ∧ w'.cell? ⟨Ra13, 3, none⟩ = some (.slice B3y x2.f3.length d3y) ∧ w'.cell? ⟨Ra13, 4, none⟩ = some (.slice B4y x2.f4.length d4y) ∧ w'.cell? ⟨Ra13, 5, none⟩ = some (.slice B5y x2.f5.length d5y) ∧ w'.cell? ⟨Ra13, 6, none⟩ = some (.int .i64 0) ∧ SPR w [(V, cv x A3 c3 A4 c4 A5 c5, 26), (Ra12, rc x1 B3x d3x B4x d4x B5x d5x, 30), (Ra13, rc x2 B3y d3y B4y d4y B5y d5y, 30)] [(x1, rc x1 B3x d3x B4x d4x B5x d5x), (x2, rc x2 B3y d3y B4y d4y B5y d5y)] w' ∧ Below wq.heap.size wq w') (ds := []) #[false, false, false, false, false, false, false, false, false, false, false, false, false, false, false, false, false, false, false, false, false, false, false, false, false, false, false] (by kernel_rfl) rfl rfl ⟨((six_cells ((SPR.spl (SPR.drew HQ.out)).get 0 rfl)).1), ((six_cells ((SPR.spl (SPR.drew HQ.out)).get 0 rfl)).2.1), ((six_cells ((SPR.spl (SPR.drew HQ.out)).get 0 rfl)).2.2.1), ((six_cells ((SPR.spl (SPR.drew HQ.out)).get 0 rfl)).2.2.2.1), ((six_cells ((SPR.spl (SPR.drew HQ.out)).get 0 rfl)).2.2.2.2.1), ((six_cells ((SPR.spl (SPR.drew HQ.out)).get 0 rfl)).2.2.2.2.2.1), ((sev_cells ((SPR.spl (SPR.drew HQ.out)).get 1 rfl)).1), ((sev_cells ((SPR.spl (SPR.drew HQ.out)).get 1 rfl)).2.1), ((sev_cells ((SPR.spl (SPR.drew HQ.out)).get 1 rfl)).2.2.1), ((sev_cells ((SPR.spl (SPR.drew HQ.out)).get 1 rfl)).2.2.2.1), ((sev_cells ((SPR.spl (SPR.drew HQ.out)).get 1 rfl)).2.2.2.2.1), ((sev_cells ((SPR.spl (SPR.drew HQ.out)).get 1 rfl)).2.2.2.2.2.1), ((sev_cells ((SPR.spl (SPR.drew HQ.out)).get 1 rfl)).2.2.2.2.2.2.1), ((sev_cells ((SPR.spl (SPR.drew HQ.out)).get 2 rfl)).1), ((sev_cells ((SPR.spl (SPR.drew HQ.out)).get 2 rfl)).2.1), ((sev_cells ((SPR.spl (SPR.drew HQ.out)).get 2 rfl)).2.2.1), ((sev_cells ((SPR.spl (SPR.drew HQ.out)).get 2 rfl)).2.2.2.1), ((sev_cells ((SPR.spl (SPR.drew HQ.out)).get 2 rfl)).2.2.2.2.1), ((sev_cells ((SPR.spl (SPR.drew HQ.out)).get 2 rfl)).2.2.2.2.2.1), ((sev_cells ((SPR.spl (SPR.drew HQ.out)).get 2 rfl)).2.2.2.2.2.2.1), (SPR.drew HQ.out), (pw_below_drewN (Below.refl _ _) 1)⟩ (fun hHeld => ?_)
  refine pure_ (i := 0) (N := some 60) (v := ?_) (a' := ?_) #[true, false, false, false, false, false, false, false, false, false, false, false, false, false, false, false, false, false, false, false, false, false, false, false, false, false, false] rfl rfl (by kernel_rfl) (fun _ _ _ h => h) (Or.inl ⟨by rfl, ?_⟩) ?_ ?_
  rotate_left
  · intro w'
    go_simp
    with_reducible rfl
  rotate_left
  · simp only [Act.put, List.setIfInBounds_toArray, List.set_cons_zero, List.set_cons_succ, i64_w, i32_w]
    rfl
  refine pure_ (i := 1) (N := some 61) (v := ?_) (a' := ?_) #[true, true, false, false, false, false, false, false, false, false, false, false, false, false, false, false, false, false, false, false, false, false, false, false, false, false, false] rfl rfl (by kernel_rfl) (fun _ _ _ h => h) (Or.inl ⟨by rfl, ?_⟩) ?_ ?_
  rotate_left
  · intro w'
    go_simp
    with_reducible rfl
  rotate_left
  · simp only [Act.put, List.setIfInBounds_toArray, List.set_cons_zero, List.set_cons_succ, i64_w, i32_w]
    rfl
  refine pure_ (i := 3) (N := some 63) (v := ?_) (a' := ?_) #[true, true, false, true, false, false, false, false, false, false, false, false, false, false, false, false, false, false, false, false, false, false, false, false, false, false, false] rfl rfl (by kernel_rfl) (fun _ _ _ h => h) (Or.inl ⟨by rfl, ?_⟩) ?_ ?_
  rotate_left
  · intro w'
    go_simp
    with_reducible rfl
  rotate_left
  · simp only [Act.put, List.setIfInBounds_toArray, List.set_cons_zero, List.set_cons_succ, i64_w, i32_w]
    rfl
  refine pure_ (i := 4) (N := some 64) (v := ?_) (a' := ?_) #[true, true, false, true, true, false, false, false, false, false, false, false, false, false, false, false, false, false, false, false, false, false, false, false, false, false, false] rfl rfl (by kernel_rfl) (fun _ _ _ h => h) (Or.inl ⟨by rfl, ?_⟩) ?_ ?_
  rotate_left
  · intro w'
    go_simp
    with_reducible rfl
  rotate_left
  · simp only [Act.put, List.setIfInBounds_toArray, List.set_cons_zero, List.set_cons_succ, i64_w, i32_w]
    rfl
  refine pure_ (i := 7) (N := some 67) (v := ?_) (a' := ?_) #[true, true, false, true, true, false, false, true, false, false, false, false, false, false, false, false, false, false, false, false, false, false, false, false, false, false, false] rfl rfl (by kernel_rfl) (fun _ _ _ h => h) (Or.inl ⟨by rfl, ?_⟩) ?_ ?_
  rotate_left
  · intro w'
    go_simp
    with_reducible rfl
  rotate_left
  · simp only [Act.put, List.setIfInBounds_toArray, List.set_cons_zero, List.set_cons_succ, i64_w, i32_w]
    rfl
  refine take_ (i := 2) (N := some 62) (v := ?_) (a' := ?_) #[true, true, true, true, true, false, false, true, false, false, false, false, false, false, false, false, false, false, false, false, false, false, false, false, false, false, false] rfl rfl (by kernel_rfl) (fun _ _ _ h => h) (Or.inl ⟨by rfl, ?_⟩) hHeld ?_ ?_
  rotate_left
  · rintro w' ⟨s0, s1, s2, s3, s4, s5, s6, s7, s8, s9, s10, s11, s12, s13, s14, s15, s16, s17, s18, s19, s20, s21⟩
    go_simp
    with_reducible rfl
  rotate_left
  · simp only [Act.put, List.setIfInBounds_toArray, List.set_cons_zero, List.set_cons_succ, i64_w, i32_w]
    rfl
  refine take_ (i := 5) (N := some 65) (v := ?_) (a' := ?_) #[true, true, true, true, true, true, false, true, false, false, false, false, false, false, false, false, false, false, false, false, false, false, false, false, false, false, false] rfl rfl (by kernel_rfl) (fun _ _ _ h => h) (Or.inl ⟨by rfl, ?_⟩) hHeld ?_ ?_
  rotate_left
  · rintro w' ⟨s0, s1, s2, s3, s4, s5, s6, s7, s8, s9, s10, s11, s12, s13, s14, s15, s16, s17, s18, s19, s20, s21⟩
    go_simp
    with_reducible rfl
  rotate_left
  · simp only [Act.put, List.setIfInBounds_toArray, List.set_cons_zero, List.set_cons_succ, i64_w, i32_w]
    rfl
  refine pure_ (i := 6) (N := some 66) (v := ?_) (a' := ?_) #[true, true, true, true, true, true, true, true, false, false, false, false, false, false, false, false, false, false, false, false, false, false, false, false, false, false, false] rfl rfl (by kernel_rfl) (fun _ _ _ h => h) (Or.inl ⟨by rfl, ?_⟩) ?_ ?_
  rotate_left
  · intro w'
    go_simp
    with_reducible rfl
  rotate_left
  · simp only [Act.put, List.setIfInBounds_toArray, List.set_cons_zero, List.set_cons_succ, i64_w, i32_w]
    rfl
  refine take_ (i := 8) (N := some 68) (v := ?_) (a' := ?_) #[true, true, true, true, true, true, true, true, true, false, false, false, false, false, false, false, false, false, false, false, false, false, false, false, false, false, false] rfl rfl (by kernel_rfl) (fun _ _ _ h => h) (Or.inl ⟨by rfl, ?_⟩) hHeld ?_ ?_
  rotate_left
  · rintro w' ⟨s0, s1, s2, s3, s4, s5, s6, s7, s8, s9, s10, s11, s12, s13, s14, s15, s16, s17, s18, s19, s20, s21⟩
    go_simp
    with_reducible rfl
  rotate_left
  · simp only [Act.put, List.setIfInBounds_toArray, List.set_cons_zero, List.set_cons_succ, i64_w, i32_w]
    rfl
  refine pure_ (i := 9) (N := some 69) (v := ?_) (a' := ?_) #[true, true, true, true, true, true, true, true, true, true, false, false, false, false, false, false, false, false, false, false, false, false, false, false, false, false, false] rfl rfl (by kernel_rfl) (fun _ _ _ h => h) (Or.inl ⟨by rfl, ?_⟩) ?_ ?_
  rotate_left
  · intro w'
    go_simp
    with_reducible rfl
  rotate_left
  · simp only [Act.put, List.setIfInBounds_toArray, List.set_cons_zero, List.set_cons_succ, i64_w, i32_w]
    rfl
  refine pure_ (i := 10) (N := some 70) (v := ?_) (a' := ?_) #[true, true, true, true, true, true, true, true, true, true, true, false, false, false, false, false, false, false, false, false, false, false, false, false, false, false, false] rfl rfl (by kernel_rfl) (fun _ _ _ h => h) (Or.inl ⟨by rfl, ?_⟩) ?_ ?_
  rotate_left
  · intro w'
    go_simp
    with_reducible rfl
  rotate_left
  · simp only [Act.put, List.setIfInBounds_toArray, List.set_cons_zero, List.set_cons_succ, i64_w, i32_w]
    rfl
  refine pure_ (i := 12) (N := some 72) (v := ?_) (a' := ?_) #[true, true, true, true, true, true, true, true, true, true, true, false, true, false, false, false, false, false, false, false, false, false, false, false, false, false, false] rfl rfl (by kernel_rfl) (fun _ _ _ h => h) (Or.inl ⟨by rfl, ?_⟩) ?_ ?_
  rotate_left
  · intro w'
    go_simp
    with_reducible rfl
  rotate_left
  · simp only [Act.put, List.setIfInBounds_toArray, List.set_cons_zero, List.set_cons_succ, i64_w, i32_w]
    rfl
  refine pure_ (i := 13) (N := some 73) (v := ?_) (a' := ?_) #[true, true, true, true, true, true, true, true, true, true, true, false, true, true, false, false, false, false, false, false, false, false, false, false, false, false, false] rfl rfl (by kernel_rfl) (fun _ _ _ h => h) (Or.inl ⟨by rfl, ?_⟩) ?_ ?_
  rotate_left
  · intro w'
    go_simp
    with_reducible rfl
  rotate_left
  · simp only [Act.put, List.setIfInBounds_toArray, List.set_cons_zero, List.set_cons_succ, i64_w, i32_w]
    rfl
  refine pure_ (i := 16) (N := some 76) (v := ?_) (a' := ?_) #[true, true, true, true, true, true, true, true, true, true, true, false, true, true, false, false, true, false, false, false, false, false, false, false, false, false, false] rfl rfl (by kernel_rfl) (fun _ _ _ h => h) (Or.inl ⟨by rfl, ?_⟩) ?_ ?_
  rotate_left
  · intro w'
    go_simp
    with_reducible rfl
  rotate_left
  · simp only [Act.put, List.setIfInBounds_toArray, List.set_cons_zero, List.set_cons_succ, i64_w, i32_w]
    rfl
  refine pure_ (i := 17) (N := some 77) (v := ?_) (a' := ?_) #[true, true, true, true, true, true, true, true, true, true, true, false, true, true, false, false, true, true, false, false, false, false, false, false, false, false, false] rfl rfl (by kernel_rfl) (fun _ _ _ h => h) (Or.inl ⟨by rfl, ?_⟩) ?_ ?_
  rotate_left
  · intro w'
    go_simp
    with_reducible rfl
  rotate_left
  · simp only [Act.put, List.setIfInBounds_toArray, List.set_cons_zero, List.set_cons_succ, i64_w, i32_w]
    rfl
  refine pure_ (i := 21) (N := some 81) (v := ?_) (a' := ?_) #[true, true, true, true, true, true, true, true, true, true, true, false, true, true, false, false, true, true, false, false, false, true, false, false, false, false, false] rfl rfl (by kernel_rfl) (fun _ _ _ h => h) (Or.inl ⟨by rfl, ?_⟩) ?_ ?_
  rotate_left
  · intro w'
    go_simp
    with_reducible rfl
  rotate_left
  · simp only [Act.put, List.setIfInBounds_toArray, List.set_cons_zero, List.set_cons_succ, i64_w, i32_w]
    rfl
  refine take_ (i := 14) (N := some 74) (v := ?_) (a' := ?_) #[true, true, true, true, true, true, true, true, true, true, true, false, true, true, true, false, true, true, false, false, false, true, false, false, false, false, false] rfl rfl (by kernel_rfl) (fun _ _ _ h => h) (Or.inl ⟨by rfl, ?_⟩) hHeld ?_ ?_
  rotate_left
  · rintro w' ⟨s0, s1, s2, s3, s4, s5, s6, s7, s8, s9, s10, s11, s12, s13, s14, s15, s16, s17, s18, s19, s20, s21⟩
    go_simp
    with_reducible rfl
  rotate_left
  · simp only [Act.put, List.setIfInBounds_toArray, List.set_cons_zero, List.set_cons_succ, i64_w, i32_w]
    rfl
  refine take_ (i := 18) (N := some 78) (v := ?_) (a' := ?_) #[true, true, true, true, true, true, true, true, true, true, true, false, true, true, true, false, true, true, true, false, false, true, false, false, false, false, false] rfl rfl (by kernel_rfl) (fun _ _ _ h => h) (Or.inl ⟨by rfl, ?_⟩) hHeld ?_ ?_
  rotate_left
  · rintro w' ⟨s0, s1, s2, s3, s4, s5, s6, s7, s8, s9, s10, s11, s12, s13, s14, s15, s16, s17, s18, s19, s20, s21⟩
    go_simp
    with_reducible rfl
  rotate_left
  · simp only [Act.put, List.setIfInBounds_toArray, List.set_cons_zero, List.set_cons_succ, i64_w, i32_w]
    rfl
  refine take_ (i := 22) (N := some 82) (v := ?_) (a' := ?_) #[true, true, true, true, true, true, true, true, true, true, true, false, true, true, true, false, true, true, true, false, false, true, true, false, false, false, false] rfl rfl (by kernel_rfl) (fun _ _ _ h => h) (Or.inl ⟨by rfl, ?_⟩) hHeld ?_ ?_
  rotate_left
  · rintro w' ⟨s0, s1, s2, s3, s4, s5, s6, s7, s8, s9, s10, s11, s12, s13, s14, s15, s16, s17, s18, s19, s20, s21⟩
    go_simp
    with_reducible rfl
  rotate_left
  · simp only [Act.put, List.setIfInBounds_toArray, List.set_cons_zero, List.set_cons_succ, i64_w, i32_w]
    rfl
  refine one_ (i := 11) (N := some 71) #[true, true, true, true, true, true, true, true, true, true, true, true, true, true, true, false, true, true, true, false, false, true, true, false, false, false, false] rfl rfl (by kernel_rfl) (by decide) (fun K hK => ?_)
  refine slice0_ (W0 := wq) (hHeld.2.2.2.2.2.2.2.2.2.2.2.2.2.2.2.2.2.2.2.2.2) (by rfl) rfl ?_ ?_
  · first | (go_simp; done) | (go_simp; rfl)
  intro v30 w30 hO1
  have hz1 := SPR.below HQ.out hO1.2
  refine hK.out _ _ ⟨((six_cells ((SPR.spl hz1).get 0 rfl)).1), ((six_cells ((SPR.spl hz1).get 0 rfl)).2.1), ((six_cells ((SPR.spl hz1).get 0 rfl)).2.2.1), ((six_cells ((SPR.spl hz1).get 0 rfl)).2.2.2.1), ((six_cells ((SPR.spl hz1).get 0 rfl)).2.2.2.2.1), ((six_cells ((SPR.spl hz1).get 0 rfl)).2.2.2.2.2.1), ((sev_cells ((SPR.spl hz1).get 1 rfl)).1), ((sev_cells ((SPR.spl hz1).get 1 rfl)).2.1), ((sev_cells ((SPR.spl hz1).get 1 rfl)).2.2.1), ((sev_cells ((SPR.spl hz1).get 1 rfl)).2.2.2.1), ((sev_cells ((SPR.spl hz1).get 1 rfl)).2.2.2.2.1), ((sev_cells ((SPR.spl hz1).get 1 rfl)).2.2.2.2.2.1), ((sev_cells ((SPR.spl hz1).get 1 rfl)).2.2.2.2.2.2.1), ((sev_cells ((SPR.spl hz1).get 2 rfl)).1), ((sev_cells ((SPR.spl hz1).get 2 rfl)).2.1), ((sev_cells ((SPR.spl hz1).get 2 rfl)).2.2.1), ((sev_cells ((SPR.spl hz1).get 2 rfl)).2.2.2.1), ((sev_cells ((SPR.spl hz1).get 2 rfl)).2.2.2.2.1), ((sev_cells ((SPR.spl hz1).get 2 rfl)).2.2.2.2.2.1), ((sev_cells ((SPR.spl hz1).get 2 rfl)).2.2.2.2.2.2.1), hz1, hO1.2⟩ (fun hHeld => ?_)
  clear hK K
  refine norm_ (a' := ?_) ?_ ?_
  rotate_left
  · show Act.put _ (some 71) _ = _
    simp only [Act.put, List.setIfInBounds_toArray, List.set_cons_zero, List.set_cons_succ, i64_w, i32_w]
    rfl
  refine one_ (i := 15) (N := some 75) #[true, true, true, true, true, true, true, true, true, true, true, true, true, true, true, true, true, true, true, false, false, true, true, false, false, false, false] rfl rfl (by kernel_rfl) (by decide) (fun K hK => ?_)
  obtain ⟨v31, w31, hr1, hO2⟩ := hO1.appended HC1.out.2 (by have := HLN.out; simp only [List.length_nil]; omega)
  refine append_step_ (by rfl) rfl rfl rfl (by rfl) (by rfl) hr1 ?_
  have hz2 := SPR.below HQ.out hO2.2
  refine hK.out _ _ ⟨((six_cells ((SPR.spl hz2).get 0 rfl)).1), ((six_cells ((SPR.spl hz2).get 0 rfl)).2.1), ((six_cells ((SPR.spl hz2).get 0 rfl)).2.2.1), ((six_cells ((SPR.spl hz2).get 0 rfl)).2.2.2.1), ((six_cells ((SPR.spl hz2).get 0 rfl)).2.2.2.2.1), ((six_cells ((SPR.spl hz2).get 0 rfl)).2.2.2.2.2.1), ((sev_cells ((SPR.spl hz2).get 1 rfl)).1), ((sev_cells ((SPR.spl hz2).get 1 rfl)).2.1), ((sev_cells ((SPR.spl hz2).get 1 rfl)).2.2.1), ((sev_cells ((SPR.spl hz2).get 1 rfl)).2.2.2.1), ((sev_cells ((SPR.spl hz2).get 1 rfl)).2.2.2.2.1), ((sev_cells ((SPR.spl hz2).get 1 rfl)).2.2.2.2.2.1), ((sev_cells ((SPR.spl hz2).get 1 rfl)).2.2.2.2.2.2.1), ((sev_cells ((SPR.spl hz2).get 2 rfl)).1), ((sev_cells ((SPR.spl hz2).get 2 rfl)).2.1), ((sev_cells ((SPR.spl hz2).get 2 rfl)).2.2.1), ((sev_cells ((SPR.spl hz2).get 2 rfl)).2.2.2.1), ((sev_cells ((SPR.spl hz2).get 2 rfl)).2.2.2.2.1), ((sev_cells ((SPR.spl hz2).get 2 rfl)).2.2.2.2.2.1), ((sev_cells ((SPR.spl hz2).get 2 rfl)).2.2.2.2.2.2.1), hz2, hO2.2⟩ (fun hHeld => ?_)
  clear hK K
  refine norm_ (a' := ?_) ?_ ?_
  rotate_left
  · show Act.put _ (some 75) _ = _
    simp only [Act.put, List.setIfInBounds_toArray, List.set_cons_zero, List.set_cons_succ, i64_w, i32_w]
    rfl
  refine one_ (i := 19) (N := some 79) #[true, true, true, true, true, true, true, true, true, true, true, true, true, true, true, true, true, true, true, true, false, true, true, false, false, false, false] rfl rfl (by kernel_rfl) (by decide) (fun K hK => ?_)
  obtain ⟨v32, w32, hr2, hO3⟩ := hO2.appended HC2.out.2 (by have := HLN.out; simp only [List.nil_append]; omega)
  rw [show [] ++ x1.f3 ++ x2.f3 = x.f3 from HCAT.out.2] at hO3
  obtain ⟨A9, c9, rfl, hle9, hC9⟩ := hO3.row
  refine append_step_ (by rfl) rfl rfl rfl (by rfl) (by rfl) hr2 ?_
  have hz3 := SPR.below HQ.out hO3.2
  refine hK.out _ _ ⟨((six_cells ((SPR.spl hz3).get 0 rfl)).1), ((six_cells ((SPR.spl hz3).get 0 rfl)).2.1), ((six_cells ((SPR.spl hz3).get 0 rfl)).2.2.1), ((six_cells ((SPR.spl hz3).get 0 rfl)).2.2.2.1), ((six_cells ((SPR.spl hz3).get 0 rfl)).2.2.2.2.1), ((six_cells ((SPR.spl hz3).get 0 rfl)).2.2.2.2.2.1), ((sev_cells ((SPR.spl hz3).get 1 rfl)).1), ((sev_cells ((SPR.spl hz3).get 1 rfl)).2.1), ((sev_cells ((SPR.spl hz3).get 1 rfl)).2.2.1), ((sev_cells ((SPR.spl hz3).get 1 rfl)).2.2.2.1), ((sev_cells ((SPR.spl hz3).get 1 rfl)).2.2.2.2.1), ((sev_cells ((SPR.spl hz3).get 1 rfl)).2.2.2.2.2.1), ((sev_cells ((SPR.spl hz3).get 1 rfl)).2.2.2.2.2.2.1), ((sev_cells ((SPR.spl hz3).get 2 rfl)).1), ((sev_cells ((SPR.spl hz3).get 2 rfl)).2.1), ((sev_cells ((SPR.spl hz3).get 2 rfl)).2.2.1), ((sev_cells ((SPR.spl hz3).get 2 rfl)).2.2.2.1), ((sev_cells ((SPR.spl hz3).get 2 rfl)).2.2.2.2.1), ((sev_cells ((SPR.spl hz3).get 2 rfl)).2.2.2.2.2.1), ((sev_cells ((SPR.spl hz3).get 2 rfl)).2.2.2.2.2.2.1), hz3, hO3.2⟩ (fun hHeld => ?_)
  clear hK K
  refine norm_ (a' := ?_) ?_ ?_
  rotate_left
  · show Act.put _ (some 79) _ = _
    simp only [Act.put, List.setIfInBounds_toArray, List.set_cons_zero, List.set_cons_succ, i64_w, i32_w]
    rfl
  refine one_ (i := 20) (N := some 80) #[true, true, true, true, true, true, true, true, true, true, true, true, true, true, true, true, true, true, true, true, true, true, true, false, false, false, false] rfl rfl (by kernel_rfl) (by decide) (fun K hK => ?_)
  refine goes_ Tryz.func24 (by kernel_rfl) rfl #[.slice A9 x.f3.length c9] (by rfl) rfl rfl (by simp only [List.map_toArray, List.map_cons, List.map_nil]; rfl) ?_
  with_reducible refine ((HAR.out A9 x.f3.length c9 _)).mono ?_
  rintro e w33 ⟨rfl, hb9⟩
  refine ⟨_, rfl, ?_⟩
  have hz4 := SPR.below hz3 hb9
  have hB4 := hO3.2.trans (hb9.mono hO3.2.size)
  refine hK.out _ _ ⟨((six_cells ((SPR.spl hz4).get 0 rfl)).1), ((six_cells ((SPR.spl hz4).get 0 rfl)).2.1), ((six_cells ((SPR.spl hz4).get 0 rfl)).2.2.1), ((six_cells ((SPR.spl hz4).get 0 rfl)).2.2.2.1), ((six_cells ((SPR.spl hz4).get 0 rfl)).2.2.2.2.1), ((six_cells ((SPR.spl hz4).get 0 rfl)).2.2.2.2.2.1), ((sev_cells ((SPR.spl hz4).get 1 rfl)).1), ((sev_cells ((SPR.spl hz4).get 1 rfl)).2.1), ((sev_cells ((SPR.spl hz4).get 1 rfl)).2.2.1), ((sev_cells ((SPR.spl hz4).get 1 rfl)).2.2.2.1), ((sev_cells ((SPR.spl hz4).get 1 rfl)).2.2.2.2.1), ((sev_cells ((SPR.spl hz4).get 1 rfl)).2.2.2.2.2.1), ((sev_cells ((SPR.spl hz4).get 1 rfl)).2.2.2.2.2.2.1), ((sev_cells ((SPR.spl hz4).get 2 rfl)).1), ((sev_cells ((SPR.spl hz4).get 2 rfl)).2.1), ((sev_cells ((SPR.spl hz4).get 2 rfl)).2.2.1), ((sev_cells ((SPR.spl hz4).get 2 rfl)).2.2.2.1), ((sev_cells ((SPR.spl hz4).get 2 rfl)).2.2.2.2.1), ((sev_cells ((SPR.spl hz4).get 2 rfl)).2.2.2.2.2.1), ((sev_cells ((SPR.spl hz4).get 2 rfl)).2.2.2.2.2.2.1), hz4, hB4⟩ (fun hHeld => ?_)
  clear hK K
  refine norm_ (a' := ?_) ?_ ?_
  rotate_left
  · show Act.put _ (some 80) _ = _
    simp only [Act.put, List.setIfInBounds_toArray, List.set_cons_zero, List.set_cons_succ, i64_w, i32_w]
    rfl
  refine one_ (i := 23) (N := some 83) #[true, true, true, true, true, true, true, true, true, true, true, true, true, true, true, true, true, true, true, true, true, true, true, true, false, false, false] rfl rfl (by kernel_rfl) (by decide) (fun K hK => ?_)
  refine goes_ Tryz.func24 (by kernel_rfl) rfl #[.slice A3 x.f3.length c3] (by rfl) rfl rfl (by simp only [List.map_toArray, List.map_cons, List.map_nil]; rfl) ?_
  with_reducible refine ((HAR.out A3 x.f3.length c3 _)).mono ?_
  rintro e w34 ⟨rfl, hb⟩
  refine ⟨_, rfl, ?_⟩
  have hz5 := SPR.below hz4 hb
  have hB5 := hB4.trans (hb.mono hB4.size)
  have hb10 := hb9.trans (hb.mono hb9.size)
  refine hK.out _ _ ⟨((six_cells ((SPR.spl hz5).get 0 rfl)).1), ((six_cells ((SPR.spl hz5).get 0 rfl)).2.1), ((six_cells ((SPR.spl hz5).get 0 rfl)).2.2.1), ((six_cells ((SPR.spl hz5).get 0 rfl)).2.2.2.1), ((six_cells ((SPR.spl hz5).get 0 rfl)).2.2.2.2.1), ((six_cells ((SPR.spl hz5).get 0 rfl)).2.2.2.2.2.1), ((sev_cells ((SPR.spl hz5).get 1 rfl)).1), ((sev_cells ((SPR.spl hz5).get 1 rfl)).2.1), ((sev_cells ((SPR.spl hz5).get 1 rfl)).2.2.1), ((sev_cells ((SPR.spl hz5).get 1 rfl)).2.2.2.1), ((sev_cells ((SPR.spl hz5).get 1 rfl)).2.2.2.2.1), ((sev_cells ((SPR.spl hz5).get 1 rfl)).2.2.2.2.2.1), ((sev_cells ((SPR.spl hz5).get 1 rfl)).2.2.2.2.2.2.1), ((sev_cells ((SPR.spl hz5).get 2 rfl)).1), ((sev_cells ((SPR.spl hz5).get 2 rfl)).2.1), ((sev_cells ((SPR.spl hz5).get 2 rfl)).2.2.1), ((sev_cells ((SPR.spl hz5).get 2 rfl)).2.2.2.1), ((sev_cells ((SPR.spl hz5).get 2 rfl)).2.2.2.2.1), ((sev_cells ((SPR.spl hz5).get 2 rfl)).2.2.2.2.2.1), ((sev_cells ((SPR.spl hz5).get 2 rfl)).2.2.2.2.2.2.1), hz5, hB5⟩ (fun hHeld => ?_)
  clear hK K
  refine norm_ (a' := ?_) ?_ ?_
  rotate_left
  · show Act.put _ (some 83) _ = _
    simp only [Act.put, List.setIfInBounds_toArray, List.set_cons_zero, List.set_cons_succ, i64_w, i32_w]
    rfl
  refine one_ (i := 24) (N := some 84) #[true, true, true, true, true, true, true, true, true, true, true, true, true, true, true, true, true, true, true, true, true, true, true, true, true, false, false] rfl rfl (by kernel_rfl) (by decide) (fun K hK => ?_)
  refine goes_ Tryz.func22 (by kernel_rfl) rfl #[.agg #[.int .i64 5, .int .i64 0, .string ⟨#[]⟩, .slice A9 x.f3.length c9, .slice none 0 0, .slice none 0 0], .agg #[.int .i64 5, .int .i64 0, .string ⟨#[]⟩, .slice A3 x.f3.length c3, .slice none 0 0, .slice none 0 0]] (by rfl) rfl rfl (by simp only [List.map_toArray, List.map_cons, List.map_nil]; rfl) ?_
  with_reducible refine ((same_lists HWL3.out hle9 HC0.out.1 hC9 (Kd.C_below HC0.out.2 hz3.bel) _ hb10)).mono ?_
  rintro e w35 ⟨rfl, hb11⟩
  refine ⟨_, rfl, ?_⟩
  have hz6 := SPR.below hz5 hb11
  have hB6 := hB5.trans (hb11.mono hB5.size)
  refine hK.out _ _ ⟨((six_cells ((SPR.spl hz6).get 0 rfl)).1), ((six_cells ((SPR.spl hz6).get 0 rfl)).2.1), ((six_cells ((SPR.spl hz6).get 0 rfl)).2.2.1), ((six_cells ((SPR.spl hz6).get 0 rfl)).2.2.2.1), ((six_cells ((SPR.spl hz6).get 0 rfl)).2.2.2.2.1), ((six_cells ((SPR.spl hz6).get 0 rfl)).2.2.2.2.2.1), ((sev_cells ((SPR.spl hz6).get 1 rfl)).1), ((sev_cells ((SPR.spl hz6).get 1 rfl)).2.1), ((sev_cells ((SPR.spl hz6).get 1 rfl)).2.2.1), ((sev_cells ((SPR.spl hz6).get 1 rfl)).2.2.2.1), ((sev_cells ((SPR.spl hz6).get 1 rfl)).2.2.2.2.1), ((sev_cells ((SPR.spl hz6).get 1 rfl)).2.2.2.2.2.1), ((sev_cells ((SPR.spl hz6).get 1 rfl)).2.2.2.2.2.2.1), ((sev_cells ((SPR.spl hz6).get 2 rfl)).1), ((sev_cells ((SPR.spl hz6).get 2 rfl)).2.1), ((sev_cells ((SPR.spl hz6).get 2 rfl)).2.2.1), ((sev_cells ((SPR.spl hz6).get 2 rfl)).2.2.2.1), ((sev_cells ((SPR.spl hz6).get 2 rfl)).2.2.2.2.1), ((sev_cells ((SPR.spl hz6).get 2 rfl)).2.2.2.2.2.1), ((sev_cells ((SPR.spl hz6).get 2 rfl)).2.2.2.2.2.2.1), hz6, hB6⟩ (fun hHeld => ?_)
  clear hK K
  refine norm_ (a' := ?_) ?_ ?_
  rotate_left
  · show Act.put _ (some 84) _ = _
    simp only [Act.put, List.setIfInBounds_toArray, List.set_cons_zero, List.set_cons_succ, i64_w, i32_w]
    rfl
  refine pure_ (i := 25) (N := some 85) (v := ?_) (a' := ?_) #[true, true, true, true, true, true, true, true, true, true, true, true, true, true, true, true, true, true, true, true, true, true, true, true, true, true, false] rfl rfl (by kernel_rfl) (fun _ _ _ h => h) (Or.inl ⟨by rfl, ?_⟩) ?_ ?_
  rotate_left
  · intro w'
    go_simp
    with_reducible rfl
  rotate_left
  · simp only [Act.put, List.setIfInBounds_toArray, List.set_cons_zero, List.set_cons_succ, i64_w, i32_w]
    rfl
  refine pure_ (i := 26) (N := some 4) (v := ?_) (a' := ?_) #[true, true, true, true, true, true, true, true, true, true, true, true, true, true, true, true, true, true, true, true, true, true, true, true, true, true, true] rfl rfl (by kernel_rfl) (fun _ _ _ h => h) (Or.inl ⟨by rfl, ?_⟩) ?_ ?_
  rotate_left
  · intro w'
    go_simp
    with_reducible rfl
  rotate_left
  · simp only [Act.put, List.setIfInBounds_toArray, List.set_cons_zero, List.set_cons_succ, i64_w, i32_w]
    rfl
  refine done_ (by kernel_rfl) ?_
  go_wp2_with fail
  go_ret
  exact ⟨rfl, hz6.bel⟩
set_option maxRecDepth 100000 in
set_option maxHeartbeats 20000000 in
theorem fnSliceParts_0 (w0 : World) (hE : Env w0) (x : V) (hz : Sz x) (K H : Int) (s : ByteArray) (A3 A4 A5 : Option Addr) (n3 c3 n4 c4 n5 c5 : Nat) (hK : k26.K w0 x [.int .i64 K, .int .i64 H, .string s, .slice A3 n3 c3, .slice A4 n4 c4, .slice A5 n5 c5]) (m1 : Int) (zm1 : (Lit.int .i8 m1).wf = true) (hk : ¬(x.f0 = 4 ∨ x.f0 = 5)) :
    Calls Tryz.prog 8 #[.agg #[.int .i64 K, .int .i64 H, .string s, .slice A3 n3 c3, .slice A4 n4 c4, .slice A5 n5 c5], .int .i8 m1] w0 fun e w' => e = .returned (.bool true) ∧ Below w0.heap.size w0 w' := by
  have HKX := Lib.hid hk
  clear hk
  obtain ⟨w, hw⟩ : ∃ w, w = w0 := ⟨_, rfl⟩
  obtain ⟨B3, e3, B4, e4, B5, e5, he, l3, g3, l4, g4, l5, g5⟩ := k26_open hK
  simp only [List.cons.injEq, Value.int.injEq, Value.string.injEq, Value.slice.injEq, true_and, and_true] at he
  obtain ⟨rfl, rfl, rfl, ⟨rfl, rfl, rfl⟩, ⟨rfl, rfl, rfl⟩, ⟨rfl, rfl, rfl⟩⟩ := he
  clear l3 g3 l4 g4 l5 g5
  have bm1 := i8_in zm1
  clear zm1
  have HZ := Lib.hid hz
  have HF1 := Lib.hid (fun w1 hb => fits1_size w0 x x.f0 x.f1 x.f2 A3 A4 A5 x.f3.length c3 x.f4.length c4 x.f5.length c5 hK w1 hb)
  have HF := Lib.hid (fun w1 g (hg : g = w1.heap.size) hb => fits_at w0 hE hz hK w1 g hg hb)
  have HT := Lib.hid (fun h => toGo_any w0 _ x (Nat.lt_succ_self _) hz h _ hK)
  have HNU := Lib.hid (fun n w => number_any n w)
  have HKW := Lib.hid hK
  clear hE hz hK
  subst hw
  go_enter Tryz.func8, Tryz.ntmps8
  go_wp2_with fail
  obtain ⟨V, hV⟩ : ∃ V, V = w.heap.size := ⟨_, rfl⟩
  obtain ⟨W0, hW0⟩ : ∃ W0, W0 = w.alloc (.cells #[.int .i64 x.f0, .int .i64 x.f1, .string x.f2, .slice A3 x.f3.length c3, .slice A4 x.f4.length c4, .slice A5 x.f5.length c5] 26) := ⟨_, rfl⟩
  have hS0 : SPR w [(V, cv x A3 c3 A4 c4 A5 c5, 26)] [] W0 := by rw [hV, hW0]; exact (spr0 (Below.refl _ w)).more _ _
  rw [← hW0]
  try rw [← hV]
  have H0 := Lib.hid hS0
  clear hS0 hW0 hV
  have y := six_cells (H0.out.get 0 rfl)
  try go_wp2_with fail
  refine (HF1.out W0 H0.out.bel).mono ?_
  rintro e w1 ⟨r, rfl, hr, hb⟩
  have H1 := Lib.hid (H0.out.below hb)
  clear hb H0 y HF1
  cases r with
  | false =>
    go_wp2_with fail
    go_ret
    exact ⟨rfl, H1.out.bel⟩
  | true =>
  have SZ := Lib.hid (hr (by trivial))
  clear hr
  have y := six_cells (H1.out.get 0 rfl)
  go_wp2_with fail
  refine (HF.out w1 _ rfl H1.out.bel).mono ?_
  rintro e w2 ⟨r, rfl, hr, hb⟩
  have H2 := Lib.hid (((H1.out.more _ _).below hb).tk 1 0)
  clear hb H1 HF y
  have ya := six_cells (H2.out.get 0 rfl)
  cases r with
  | false =>
    go_wp2_with fail
    go_ret
    exact ⟨rfl, H2.out.bel⟩
  | true =>
  have HW := Lib.hid (hr (by trivial))
  clear hr
  have q3 : (x.f0 != 5) = true := by have := HKX.out; simp; omega
  have q4 : (x.f0 != 4) = true := by have := HKX.out; simp; omega
  go_wp2_with fail
  go_ret
  exact ⟨rfl, H2.out.bel⟩
set_option maxRecDepth 100000 in
set_option maxHeartbeats 20000000 in
theorem fnSliceParts_any (w0 : World) (hE : Env w0) (x : V) (hz : Sz x) (K H : Int) (s : ByteArray) (A3 A4 A5 : Option Addr) (n3 c3 n4 c4 n5 c5 : Nat) (hK : k26.K w0 x [.int .i64 K, .int .i64 H, .string s, .slice A3 n3 c3, .slice A4 n4 c4, .slice A5 n5 c5]) (m1 : Int) (zm1 : (Lit.int .i8 m1).wf = true) :
    Calls Tryz.prog 8 #[.agg #[.int .i64 K, .int .i64 H, .string s, .slice A3 n3 c3, .slice A4 n4 c4, .slice A5 n5 c5], .int .i8 m1] w0 fun e w' => e = .returned (.bool true) ∧ Below w0.heap.size w0 w' := by
  by_cases k : x.f0 = 4 ∨ x.f0 = 5
  · exact fnSliceParts_45 w0 hE x hz K H s A3 A4 A5 n3 c3 n4 c4 n5 c5 hK m1 zm1 k
  exact fnSliceParts_0 w0 hE x hz K H s A3 A4 A5 n3 c3 n4 c4 n5 c5 hK m1 zm1 k
end Go.Proofs.YtdaiodiafahkkaaGreatDoor.ValA
