/-
FnContainsAll: an array contains another one exactly if it contains each of its elements.
-/
import Derived.Test.YtcoahpcjhhnkkaaGreatDoorMO
set_option linter.unusedSimpArgs false
set_option linter.unusedVariables false
namespace Go.Proofs.YtcoahpcjhhnkkaaGreatDoor.ValA
open Go.RowKit Go.Lib Go.Proofs.YtcoahpcjhhnkkaaGreatDoorW.PrintWords Go.Proofs.YtcoahpcjhhnkkaaGreatDoorW.PrintLast Go.Proofs.YtcoahpcjhhnkkaaGreatDoorW.PrintMore Go.Proofs.YtcoahpcjhhnkkaaGreatDoor.PzzFits1 Go.Proofs.YtcoahpcjhhnkkaaGreatDoor.NumA
attribute [local go_sem] run_val
theorem SPN.tk1 {w w1 : World} {a b : Nat × Array Value × TypeId} (h : SPN w [a, b] w1) : SPN w [a] w1 :=
  ⟨⟨h.1.1, fun p hp => h.1.2 p (by rw [List.mem_singleton.1 hp]; exact List.mem_cons_self)⟩, by simp, fun p hp => h.2.2 p (by rw [List.mem_singleton.1 hp]; exact List.mem_cons_self)⟩
theorem all_step {l m : List V} {j : Nat} {x : V} (hj : j < m.length) (hx : x = rd_T26 m j) : ((m.take (j + 1)).all fun r => conA l r) = (((m.take j).all fun r => conA l r) && conA l x) := by
  rw [List.take_add_one, rd_at m j hj, List.all_append, hx]
  simp
set_option maxRecDepth 100000 in
set_option maxHeartbeats 20000000 in
theorem fnContainsAll_any (w0 : World) (hE : Env w0) (A1 : Option Addr) (l : List V) (c1 : Nat) (hlc1 : l.length ≤ c1) (hC1 : Kd.C k26 w0 A1 l.length l) (hz1 : ∀ y ∈ l, Sz y ∧ Tz y) (A2 : Option Addr) (m : List V) (c2 : Nat) (hlc2 : m.length ≤ c2) (hC2 : Kd.C k26 w0 A2 m.length m) (hz2 : ∀ y ∈ m, Sz y ∧ Tz y) :
    Calls Tryz.prog 4 #[.slice A1 l.length c1, .slice A2 m.length c2] w0 fun e w' => e = .returned (.bool true) ∧ Below w0.heap.size w0 w' := by
  obtain ⟨w, hw⟩ : ∃ w, w = w0 := ⟨_, rfl⟩
  have s1 : Sz (lV l) := lc_sz (fun y hy => (hz1 y hy).1)
  have s2 : Sz (lV m) := lc_sz (fun y hy => (hz2 y hy).1)
  have t1 : Tz (lV l) := lc_tz (fun y hy => (hz1 y hy).2)
  have t2 : Tz (lV m) := lc_tz (fun y hy => (hz2 y hy).2)
  have k1 := lc_K hlc1 hC1
  have k2 := lc_K hlc2 hC2
  have HFI := Lib.hid (fun w1 hb g hg => fits_two w0 hE (lV l) s1 _ _ _ _ _ _ _ _ _ _ _ _ k1 (lV m) s2 _ _ _ _ _ _ _ _ _ _ _ _ k2 w1 hb g hg)
  have HT1 := Lib.hid (fun h => toGo_any w0 _ (lV l) (Nat.lt_succ_self _) s1 h _ k1)
  have HT2 := Lib.hid (fun h => toGo_any w0 _ (lV m) (Nat.lt_succ_self _) s2 h _ k2)
  have HS := Lib.hid (And.intro s1 (And.intro t1 (And.intro s2 t2)))
  have HZ := Lib.hid hz2
  have HC := Lib.hid hC2
  have HAR := Lib.hid (fun A n c w => lc_array A n c w)
  clear hE hlc1 hC1 hz1 hlc2 hC2 hz2 s1 s2 t1 t2 k1 k2
  subst hw
  by_cases c0 : (l.length : Int) > 2147483647
  · have d0 : decide ((l.length : Int) > 2147483647) = true := decide_eq_true c0
    clear c0
    go_enter Tryz.func4, Tryz.ntmps4
    go_wp2_with fail
    go_ret
    exact ⟨rfl, Below.refl _ _⟩
  have d0 : decide ((l.length : Int) > 2147483647) = false := decide_eq_false c0
  by_cases c3 : (m.length : Int) > 2147483647
  · have d3 : decide ((m.length : Int) > 2147483647) = true := decide_eq_true c3
    clear c0 c3
    go_enter Tryz.func4, Tryz.ntmps4
    go_wp2_with fail
    go_ret
    exact ⟨rfl, Below.refl _ _⟩
  have d3 : decide ((m.length : Int) > 2147483647) = false := decide_eq_false c3
  have HN : Hid (m.length ≤ 2147483647) := Lib.hid (by omega)
  clear c0 c3
  go_enter Tryz.func4, Tryz.ntmps4
  go_wp2_with fail
  refine (HAR.out _ _ _ _).mono ?_
  rintro e w1 ⟨rfl, hb⟩
  have H1 := Lib.hid hb
  clear hb
  go_wp2_with fail
  refine (HAR.out _ _ _ _).mono ?_
  rintro e w2 ⟨rfl, hb⟩
  have H2 := Lib.hid (H1.out.trans (hb.mono H1.out.size))
  clear hb H1
  go_wp2_with fail
  refine (HFI.out _ (H2.out.alloc H2.out.size _) _ (heap_alloc_new w2 _)).mono ?_
  rintro e w3 ⟨r, rfl, hr, hb⟩
  have H3 := Lib.hid (H2.out.trans (((Below.refl _ w2).alloc (Nat.le_refl _) _).trans (hb.mono (by rw [World.size_alloc]; omega)) |>.mono H2.out.size))
  clear hb H2 HFI
  cases r with
  | false =>
    go_wp2_with fail
    go_ret
    exact ⟨rfl, H3.out⟩
  | true =>
  have HW := Lib.hid (hr (by trivial))
  clear hr d0 d3
  have HW1 := Lib.hid (loose HW.out.1)
  have HW2 := Lib.hid (loose HW.out.2)
  have HCC := Lib.hid (fun w1 hb => con_vals w (lV l) (lV m) _ _ _ _ _ _ _ _ _ _ _ _ _ _ _ _ _ _ _ _ _ _ _ _ (HT1.out HW1.out) (HT2.out HW2.out) HW1.out HS.out.1 HS.out.2.1 HW2.out HS.out.2.2.1 HS.out.2.2.2 _ (con_lists l m) w1 hb)
  obtain ⟨n, hn⟩ : ∃ n, n = m.length := ⟨_, rfl⟩
  rw [← hn] at HC HCC HN ⊢
  have HNN := Lib.hid hn
  clear hn HT2
  go_wp2_with fail
  go_loopg [5, 25] n (fun k a i wr => ∃ j : Nat, i = .int .i64 j ∧ k + j = n ∧ Below w.heap.size w wr ∧ a = .bool ((m.take j).all fun r => conA l r))
  case atStart => exact ⟨0, rfl, by omega, H3.out, by simp⟩
  case round =>
    obtain ⟨j, rfl, hkj, hbr, rfl⟩ := hrel
    by_cases hlt : j < n
    · obtain ⟨ad, B3, e3, B4, e4, B5, e5, rfl, x0, x1, x2, x3, x4, x5, hK⟩ := elem_at HC.out hbr j hlt
      obtain ⟨x, hx⟩ : ∃ x, x = rd_T26 m j := ⟨_, rfl⟩
      rw [← hx] at x0 x1 x2 x3 x4 x5 hK
      have hxm : x ∈ m := by rw [hx]; exact rd_mem m j (by have := HNN.out; omega)
      obtain ⟨bv, hbv⟩ : ∃ bv, bv = (m.take j).all fun r => conA l r := ⟨_, rfl⟩
      rw [← hbv]
      have HJ : Hid (((m.take (j + 1)).all fun r => conA l r) = (bv && conA l x)) := Lib.hid (by rw [hbv]; exact all_step (by have := HNN.out; omega) hx)
      have HX := Lib.hid (And.intro hxm hK)
      have HR := Lib.hid (And.intro hbr (And.intro hkj hlt))
      have hlt2 : (j : Int) < (n : Int) := by omega
      clear hx hxm hbv hK hkj hlt hbr
      go_wp2_with fail
      obtain ⟨X, hX⟩ : ∃ X, X = wr.heap.size := ⟨_, rfl⟩
      obtain ⟨W1, hW1⟩ : ∃ W1, W1 = wr.alloc (.cells #[.int .i64 x.f0, .int .i64 x.f1, .string x.f2, .slice B3 x.f3.length e3, .slice B4 x.f4.length e4, .slice B5 x.f5.length e5] 26) := ⟨_, rfl⟩
      have hS : SPN w [(X, #[.int .i64 x.f0, .int .i64 x.f1, .string x.f2, .slice B3 x.f3.length e3, .slice B4 x.f4.length e4, .slice B5 x.f5.length e5], 26)] W1 := by rw [hX, hW1]; exact (spn_of HR.out.1).more _ _
      rw [← hW1, ← hX]
      have HP := Lib.hid hS
      clear hS hW1 hX x0 x1 x2 x3 x4 x5
      cases bv with
      | false =>
        have HQ : Hid (((m.take (j + 1)).all fun r => conA l r) = false) := Lib.hid (by rw [HJ.out]; rfl)
        refine start_ (n := 11) (S := fun w' => w'.cell? ⟨X, 0, none⟩ = some (.int .i64 x.f0) ∧ w'.cell? ⟨X, 1, none⟩ = some (.int .i64 x.f1) ∧ w'.cell? ⟨X, 2, none⟩ = some (.string x.f2) ∧ w'.cell? ⟨X, 3, none⟩ = some (.slice B3 x.f3.length e3) ∧ w'.cell? ⟨X, 4, none⟩ = some (.slice B4 x.f4.length e4) ∧ w'.cell? ⟨X, 5, none⟩ = some (.slice B5 x.f5.length e5) ∧ SPN w [(X, #[.int .i64 x.f0, .int .i64 x.f1, .string x.f2, .slice B3 x.f3.length e3, .slice B4 x.f4.length e4, .slice B5 x.f5.length e5], 26)] w') (ds := []) #[false, false, false, false, false, false, false, false, false, false, false] (by kernel_rfl) rfl rfl ⟨((six_cells (((SPN.drew HP.out).1).get 0 rfl)).1), ((six_cells (((SPN.drew HP.out).1).get 0 rfl)).2.1), ((six_cells (((SPN.drew HP.out).1).get 0 rfl)).2.2.1), ((six_cells (((SPN.drew HP.out).1).get 0 rfl)).2.2.2.1), ((six_cells (((SPN.drew HP.out).1).get 0 rfl)).2.2.2.2.1), ((six_cells (((SPN.drew HP.out).1).get 0 rfl)).2.2.2.2.2.1), (SPN.drew HP.out)⟩ (fun hHeld => ?_)
        refine pure_ (i := 0) (N := some 29) (v := ?_) (a' := ?_) #[true, false, false, false, false, false, false, false, false, false, false] rfl rfl (by kernel_rfl) (fun _ _ _ h => h) (Or.inl ⟨by rfl, ?_⟩) ?_ ?_
        rotate_left
        · intro w'
          go_simp
          with_reducible rfl
        rotate_left
        · simp only [Act.put, List.setIfInBounds_toArray, List.set_cons_zero, List.set_cons_succ, i64_w, i32_w]
          rfl
        refine pure_ (i := 1) (N := some 30) (v := ?_) (a' := ?_) #[true, true, false, false, false, false, false, false, false, false, false] rfl rfl (by kernel_rfl) (fun _ _ _ h => h) (Or.inl ⟨by rfl, ?_⟩) ?_ ?_
        rotate_left
        · intro w'
          go_simp
          with_reducible rfl
        rotate_left
        · simp only [Act.put, List.setIfInBounds_toArray, List.set_cons_zero, List.set_cons_succ, i64_w, i32_w]
          rfl
        refine pure_ (i := 2) (N := some 31) (v := undef) (a' := ?_) #[true, true, true, false, false, false, false, false, false, false, false] rfl rfl (by kernel_rfl) (fun _ _ _ h => h) (Or.inr ⟨by rfl, rfl⟩) ?_ ?_
        rotate_left
        · simp only [Act.put, List.setIfInBounds_toArray, List.set_cons_zero, List.set_cons_succ, i64_w, i32_w]
          rfl
        refine pure_ (i := 3) (N := some 32) (v := undef) (a' := ?_) #[true, true, true, true, false, false, false, false, false, false, false] rfl rfl (by kernel_rfl) (fun _ _ _ h => h) (Or.inr ⟨by rfl, rfl⟩) ?_ ?_
        rotate_left
        · simp only [Act.put, List.setIfInBounds_toArray, List.set_cons_zero, List.set_cons_succ, i64_w, i32_w]
          rfl
        refine pure_ (i := 4) (N := some 33) (v := undef) (a' := ?_) #[true, true, true, true, true, false, false, false, false, false, false] rfl rfl (by kernel_rfl) (fun _ _ _ h => h) (Or.inr ⟨by rfl, rfl⟩) ?_ ?_
        rotate_left
        · simp only [Act.put, List.setIfInBounds_toArray, List.set_cons_zero, List.set_cons_succ, i64_w, i32_w]
          rfl
        refine pure_ (i := 5) (N := some 34) (v := undef) (a' := ?_) #[true, true, true, true, true, true, false, false, false, false, false] rfl rfl (by kernel_rfl) (fun _ _ _ h => h) (Or.inr ⟨by rfl, rfl⟩) ?_ ?_
        rotate_left
        · simp only [Act.put, List.setIfInBounds_toArray, List.set_cons_zero, List.set_cons_succ, i64_w, i32_w]
          rfl
        refine pure_ (i := 6) (N := some 35) (v := undef) (a' := ?_) #[true, true, true, true, true, true, true, false, false, false, false] rfl rfl (by kernel_rfl) (fun _ _ _ h => h) (Or.inr ⟨by rfl, rfl⟩) ?_ ?_
        rotate_left
        · simp only [Act.put, List.setIfInBounds_toArray, List.set_cons_zero, List.set_cons_succ, i64_w, i32_w]
          rfl
        refine pure_ (i := 7) (N := some 36) (v := undef) (a' := ?_) #[true, true, true, true, true, true, true, true, false, false, false] rfl rfl (by kernel_rfl) (fun _ _ _ h => h) (Or.inr ⟨by rfl, rfl⟩) ?_ ?_
        rotate_left
        · simp only [Act.put, List.setIfInBounds_toArray, List.set_cons_zero, List.set_cons_succ, i64_w, i32_w]
          rfl
        refine pure_ (i := 8) (N := some 37) (v := undef) (a' := ?_) #[true, true, true, true, true, true, true, true, true, false, false] rfl rfl (by kernel_rfl) (fun _ _ _ h => h) (Or.inr ⟨by rfl, rfl⟩) ?_ ?_
        rotate_left
        · simp only [Act.put, List.setIfInBounds_toArray, List.set_cons_zero, List.set_cons_succ, i64_w, i32_w]
          rfl
        refine pure_ (i := 9) (N := some 38) (v := ?_) (a' := ?_) #[true, true, true, true, true, true, true, true, true, true, false] rfl rfl (by kernel_rfl) (fun _ _ _ h => h) (Or.inl ⟨by rfl, ?_⟩) ?_ ?_
        rotate_left
        · intro w'
          go_simp
          with_reducible rfl
        rotate_left
        · simp only [Act.put, List.setIfInBounds_toArray, List.set_cons_zero, List.set_cons_succ, i64_w, i32_w]
          rfl
        refine pure_ (i := 10) (N := some 5) (v := ?_) (a' := ?_) #[true, true, true, true, true, true, true, true, true, true, true] rfl rfl (by kernel_rfl) (fun _ _ _ h => h) (Or.inl ⟨by rfl, ?_⟩) ?_ ?_
        rotate_left
        · intro w'
          go_simp
          with_reducible rfl
        rotate_left
        · simp only [Act.put, List.setIfInBounds_toArray, List.set_cons_zero, List.set_cons_succ, i64_w, i32_w]
          rfl
        refine done_ (by kernel_rfl) ?_
        go_wp2_with fail
        go_roundg (gk - 1)
        case measure => have := HR.out.2; omega
        case rel =>
          have hw : wrap64 ((j : Int) + 1) = ((j + 1 : Nat) : Int) := by have := HN.out; have := HR.out.2; unfold wrap64; omega
          try rw [hw]
          exact ⟨j + 1, rfl, by have := HR.out.2; omega, hHeld.2.2.2.2.2.2.1.1, by rw [HQ.out]⟩
      | true =>
        obtain ⟨bx, hbx⟩ : ∃ bx, bx = conA l x := ⟨_, rfl⟩
        have HQ : Hid (((m.take (j + 1)).all fun r => conA l r) = bx) := Lib.hid (by rw [HJ.out, hbx]; rfl)
        have HCO : Hid (∀ w1 G, SPN w [(X, #[.int .i64 x.f0, .int .i64 x.f1, .string x.f2, .slice B3 x.f3.length e3, .slice B4 x.f4.length e4, .slice B5 x.f5.length e5], 26), (G, #[.int .i64 x.f0, .int .i64 x.f1, .string x.f2, .slice B3 x.f3.length e3, .slice B4 x.f4.length e4, .slice B5 x.f5.length e5], 26)] w1 → Calls Tryz.prog 20 #[.agg #[.int .i64 5, .int .i64 0, .string ⟨#[]⟩, .slice A1 l.length c1, .slice none 0 0, .slice none 0 0], .agg #[.int .i64 5, .int .i64 0, .string ⟨#[]⟩, .slice (some ⟨G, 0, none⟩) 1 1, .slice none 0 0, .slice none 0 0]] w1 fun e w' => e = .returned (resB bx) ∧ Below w1.heap.size w1 w') := Lib.hid (by
          intro w1 G h
          have hb := h.1.1
          have hKx := k26.K_below hb HX.out.2
          have hKl := lc_K (l := [x]) (c := 1) (Nat.le_refl _) (lc_one hKx (h.1.get 1 rfl))
          have hsx : Sz (lV [x]) := lc_sz (fun y hy => by rw [List.mem_singleton.1 hy]; exact (HZ.out x HX.out.1).1)
          have htx : Tz (lV [x]) := lc_tz (fun y hy => by rw [List.mem_singleton.1 hy]; exact (HZ.out x HX.out.1).2)
          have hwx : WL (lV [x]) := lc_wl (by simp) (fun y hy => by rw [List.mem_singleton.1 hy]; exact lc_h3 HW2.out x HX.out.1)
          rw [hbx]
          exact con_vals w1 (lV l) (lV [x]) _ _ _ _ _ _ _ _ _ _ _ _ _ _ _ _ _ _ _ _ _ _ _ _ ((HT1.out HW1.out).later hb) (toGo_any w1 _ (lV [x]) (Nat.lt_succ_self _) hsx hwx _ hKl) HW1.out HS.out.1 HS.out.2.1 hwx hsx htx _ (con_single l x) w1 (Below.refl _ _))
        clear hbx
        refine start_ (n := 11) (S := fun w' => w'.cell? ⟨X, 0, none⟩ = some (.int .i64 x.f0) ∧ w'.cell? ⟨X, 1, none⟩ = some (.int .i64 x.f1) ∧ w'.cell? ⟨X, 2, none⟩ = some (.string x.f2) ∧ w'.cell? ⟨X, 3, none⟩ = some (.slice B3 x.f3.length e3) ∧ w'.cell? ⟨X, 4, none⟩ = some (.slice B4 x.f4.length e4) ∧ w'.cell? ⟨X, 5, none⟩ = some (.slice B5 x.f5.length e5) ∧ SPN w [(X, #[.int .i64 x.f0, .int .i64 x.f1, .string x.f2, .slice B3 x.f3.length e3, .slice B4 x.f4.length e4, .slice B5 x.f5.length e5], 26)] w') (ds := []) #[false, false, false, false, false, false, false, false, false, false, false] (by kernel_rfl) rfl rfl ⟨((six_cells (((SPN.drew HP.out).1).get 0 rfl)).1), ((six_cells (((SPN.drew HP.out).1).get 0 rfl)).2.1), ((six_cells (((SPN.drew HP.out).1).get 0 rfl)).2.2.1), ((six_cells (((SPN.drew HP.out).1).get 0 rfl)).2.2.2.1), ((six_cells (((SPN.drew HP.out).1).get 0 rfl)).2.2.2.2.1), ((six_cells (((SPN.drew HP.out).1).get 0 rfl)).2.2.2.2.2.1), (SPN.drew HP.out)⟩ (fun hHeld => ?_)
        refine pure_ (i := 0) (N := some 29) (v := ?_) (a' := ?_) #[true, false, false, false, false, false, false, false, false, false, false] rfl rfl (by kernel_rfl) (fun _ _ _ h => h) (Or.inl ⟨by rfl, ?_⟩) ?_ ?_
        rotate_left
        · intro w'
          go_simp
          with_reducible rfl
        rotate_left
        · simp only [Act.put, List.setIfInBounds_toArray, List.set_cons_zero, List.set_cons_succ, i64_w, i32_w]
          rfl
        refine pure_ (i := 1) (N := some 30) (v := ?_) (a' := ?_) #[true, true, false, false, false, false, false, false, false, false, false] rfl rfl (by kernel_rfl) (fun _ _ _ h => h) (Or.inl ⟨by rfl, ?_⟩) ?_ ?_
        rotate_left
        · intro w'
          go_simp
          with_reducible rfl
        rotate_left
        · simp only [Act.put, List.setIfInBounds_toArray, List.set_cons_zero, List.set_cons_succ, i64_w, i32_w]
          rfl
        refine pure_ (i := 2) (N := some 31) (v := ?_) (a' := ?_) #[true, true, true, false, false, false, false, false, false, false, false] rfl rfl (by kernel_rfl) (fun _ _ _ h => h) (Or.inl ⟨by rfl, ?_⟩) ?_ ?_
        rotate_left
        · intro w'
          go_simp
          with_reducible rfl
        rotate_left
        · simp only [Act.put, List.setIfInBounds_toArray, List.set_cons_zero, List.set_cons_succ, i64_w, i32_w]
          rfl
        refine take_ (i := 4) (N := some 33) (v := ?_) (a' := ?_) #[true, true, true, false, true, false, false, false, false, false, false] rfl rfl (by kernel_rfl) (fun _ _ _ h => h) (Or.inl ⟨by rfl, ?_⟩) hHeld ?_ ?_
        rotate_left
        · rintro w' ⟨s0, s1, s2, s3, s4, s5, s6⟩
          go_simp
          with_reducible rfl
        rotate_left
        · simp only [Act.put, List.setIfInBounds_toArray, List.set_cons_zero, List.set_cons_succ, i64_w, i32_w]
          rfl
        refine join_ (σ := Nat × Unit) 5 #[true, true, true, true, true, true, false, false, false, false, false] (fun s => [(32, .agg #[.int .i64 5, .int .i64 0, .string ⟨#[]⟩, .slice A1 l.length c1, .slice none 0 0, .slice none 0 0]), (34, .slice (some ⟨s.1, 0, none⟩) 1 1)]) (fun s w' => SPN w [(X, #[.int .i64 x.f0, .int .i64 x.f1, .string x.f2, .slice B3 x.f3.length e3, .slice B4 x.f4.length e4, .slice B5 x.f5.length e5], 26), (s.1, #[.int .i64 x.f0, .int .i64 x.f1, .string x.f2, .slice B3 x.f3.length e3, .slice B4 x.f4.length e4, .slice B5 x.f5.length e5], 26)] w') ?_ ?_
        rotate_left
        · intro hCont
          refine two_ (i := 3) (j := 5) (Ni := some 32) (Nj := some 34) #[true, true, true, true, true, false, false, false, false, false, false] #[true, true, true, false, true, true, false, false, false, false, false] rfl rfl rfl rfl (by kernel_rfl) (by decide) (by decide) (fun K hK => ?_) (fun K hK => ?_)
          · skip
            refine goes_ Tryz.func18 (by kernel_rfl) rfl #[.slice A1 l.length c1] (by rfl) rfl rfl (by simp only [List.map_toArray, List.map_cons, List.map_nil]; rfl) ?_
            with_reducible refine ((HAR.out A1 l.length c1 _)).mono ?_
            rintro e wz ⟨rfl, hb⟩
            refine ⟨_, rfl, ?_⟩
            have hz := SPN.below hHeld.2.2.2.2.2.2 hb
            refine hK.out _ _ ⟨((six_cells ((hz.1).get 0 rfl)).1), ((six_cells ((hz.1).get 0 rfl)).2.1), ((six_cells ((hz.1).get 0 rfl)).2.2.1), ((six_cells ((hz.1).get 0 rfl)).2.2.2.1), ((six_cells ((hz.1).get 0 rfl)).2.2.2.2.1), ((six_cells ((hz.1).get 0 rfl)).2.2.2.2.2.1), hz⟩ (fun hHeld => ?_)
            clear hK K
            refine norm_ (a' := ?_) ?_ ?_
            rotate_left
            · show Act.put _ (some 32) _ = _
              simp only [Act.put, List.setIfInBounds_toArray, List.set_cons_zero, List.set_cons_succ, i64_w, i32_w]
              rfl
            refine one_ (i := 5) (N := some 34) #[true, true, true, true, true, true, false, false, false, false, false] rfl rfl (by kernel_rfl) (by decide) (fun K hK => ?_)
            refine boxN_ (c := #[.int .i64 x.f0, .int .i64 x.f1, .string x.f2, .slice B3 x.f3.length e3, .slice B4 x.f4.length e4, .slice B5 x.f5.length e5]) (t := 26) hz (by rfl) rfl ?_ ?_
            · first | (go_simp; done) | (go_simp; rfl)
            intro G wz5 hz5
            change SPN w [(X, #[.int .i64 x.f0, .int .i64 x.f1, .string x.f2, .slice B3 x.f3.length e3, .slice B4 x.f4.length e4, .slice B5 x.f5.length e5], 26), (G, #[.int .i64 x.f0, .int .i64 x.f1, .string x.f2, .slice B3 x.f3.length e3, .slice B4 x.f4.length e4, .slice B5 x.f5.length e5], 26)] wz5 at hz5
            refine hK.out _ _ ⟨((six_cells (((SPN.tk1 hz5).1).get 0 rfl)).1), ((six_cells (((SPN.tk1 hz5).1).get 0 rfl)).2.1), ((six_cells (((SPN.tk1 hz5).1).get 0 rfl)).2.2.1), ((six_cells (((SPN.tk1 hz5).1).get 0 rfl)).2.2.2.1), ((six_cells (((SPN.tk1 hz5).1).get 0 rfl)).2.2.2.2.1), ((six_cells (((SPN.tk1 hz5).1).get 0 rfl)).2.2.2.2.2.1), (SPN.tk1 hz5)⟩ (fun hHeld => ?_)
            clear hK K
            refine norm_ (a' := ?_) ?_ ?_
            rotate_left
            · show Act.put _ (some 34) _ = _
              simp only [Act.put, List.setIfInBounds_toArray, List.set_cons_zero, List.set_cons_succ, i64_w, i32_w]
              rfl
            exact norm_ (by simp only [putAll, Act.put, List.setIfInBounds_toArray, List.set_cons_zero, List.set_cons_succ]) (hCont (G, ()) _ hz5)
          · skip
            refine boxN_ (c := #[.int .i64 x.f0, .int .i64 x.f1, .string x.f2, .slice B3 x.f3.length e3, .slice B4 x.f4.length e4, .slice B5 x.f5.length e5]) (t := 26) hHeld.2.2.2.2.2.2 (by rfl) rfl ?_ ?_
            · first | (go_simp; done) | (go_simp; rfl)
            intro G wz5 hz5
            change SPN w [(X, #[.int .i64 x.f0, .int .i64 x.f1, .string x.f2, .slice B3 x.f3.length e3, .slice B4 x.f4.length e4, .slice B5 x.f5.length e5], 26), (G, #[.int .i64 x.f0, .int .i64 x.f1, .string x.f2, .slice B3 x.f3.length e3, .slice B4 x.f4.length e4, .slice B5 x.f5.length e5], 26)] wz5 at hz5
            refine hK.out _ _ ⟨((six_cells (((SPN.tk1 hz5).1).get 0 rfl)).1), ((six_cells (((SPN.tk1 hz5).1).get 0 rfl)).2.1), ((six_cells (((SPN.tk1 hz5).1).get 0 rfl)).2.2.1), ((six_cells (((SPN.tk1 hz5).1).get 0 rfl)).2.2.2.1), ((six_cells (((SPN.tk1 hz5).1).get 0 rfl)).2.2.2.2.1), ((six_cells (((SPN.tk1 hz5).1).get 0 rfl)).2.2.2.2.2.1), (SPN.tk1 hz5)⟩ (fun hHeld => ?_)
            clear hK K
            refine norm_ (a' := ?_) ?_ ?_
            rotate_left
            · show Act.put _ (some 34) _ = _
              simp only [Act.put, List.setIfInBounds_toArray, List.set_cons_zero, List.set_cons_succ, i64_w, i32_w]
              rfl
            refine one_ (i := 3) (N := some 32) #[true, true, true, true, true, true, false, false, false, false, false] rfl rfl (by kernel_rfl) (by decide) (fun K hK => ?_)
            refine goes_ Tryz.func18 (by kernel_rfl) rfl #[.slice A1 l.length c1] (by rfl) rfl rfl (by simp only [List.map_toArray, List.map_cons, List.map_nil]; rfl) ?_
            with_reducible refine ((HAR.out A1 l.length c1 _)).mono ?_
            rintro e wz ⟨rfl, hb⟩
            refine ⟨_, rfl, ?_⟩
            have hz := SPN.below hz5 hb
            refine hK.out _ _ ⟨((six_cells (((SPN.tk1 hz).1).get 0 rfl)).1), ((six_cells (((SPN.tk1 hz).1).get 0 rfl)).2.1), ((six_cells (((SPN.tk1 hz).1).get 0 rfl)).2.2.1), ((six_cells (((SPN.tk1 hz).1).get 0 rfl)).2.2.2.1), ((six_cells (((SPN.tk1 hz).1).get 0 rfl)).2.2.2.2.1), ((six_cells (((SPN.tk1 hz).1).get 0 rfl)).2.2.2.2.2.1), (SPN.tk1 hz)⟩ (fun hHeld => ?_)
            clear hK K
            refine norm_ (a' := ?_) ?_ ?_
            rotate_left
            · show Act.put _ (some 32) _ = _
              simp only [Act.put, List.setIfInBounds_toArray, List.set_cons_zero, List.set_cons_succ, i64_w, i32_w]
              rfl
            exact norm_ (by simp only [putAll, Act.put, List.setIfInBounds_toArray, List.set_cons_zero, List.set_cons_succ]) (hCont (G, ()) _ hz)
        rintro ⟨G, _⟩ w' hF
        change SPN w [(X, #[.int .i64 x.f0, .int .i64 x.f1, .string x.f2, .slice B3 x.f3.length e3, .slice B4 x.f4.length e4, .slice B5 x.f5.length e5], 26), (G, #[.int .i64 x.f0, .int .i64 x.f1, .string x.f2, .slice B3 x.f3.length e3, .slice B4 x.f4.length e4, .slice B5 x.f5.length e5], 26)] w' at hF
        have hHeld := (⟨((six_cells (((SPN.tk1 hF).1).get 0 rfl)).1), ((six_cells (((SPN.tk1 hF).1).get 0 rfl)).2.1), ((six_cells (((SPN.tk1 hF).1).get 0 rfl)).2.2.1), ((six_cells (((SPN.tk1 hF).1).get 0 rfl)).2.2.2.1), ((six_cells (((SPN.tk1 hF).1).get 0 rfl)).2.2.2.2.1), ((six_cells (((SPN.tk1 hF).1).get 0 rfl)).2.2.2.2.2.1), (SPN.tk1 hF)⟩ : w'.cell? ⟨X, 0, none⟩ = some (.int .i64 x.f0) ∧ w'.cell? ⟨X, 1, none⟩ = some (.int .i64 x.f1) ∧ w'.cell? ⟨X, 2, none⟩ = some (.string x.f2) ∧ w'.cell? ⟨X, 3, none⟩ = some (.slice B3 x.f3.length e3) ∧ w'.cell? ⟨X, 4, none⟩ = some (.slice B4 x.f4.length e4) ∧ w'.cell? ⟨X, 5, none⟩ = some (.slice B5 x.f5.length e5) ∧ SPN w [(X, #[.int .i64 x.f0, .int .i64 x.f1, .string x.f2, .slice B3 x.f3.length e3, .slice B4 x.f4.length e4, .slice B5 x.f5.length e5], 26)] w')
        refine norm_ (a' := ?_) ?_ ?_
        rotate_left
        · simp only [putAll, Act.put, List.setIfInBounds_toArray, List.set_cons_zero, List.set_cons_succ]
          rfl
        refine one_ (i := 6) (N := some 35) #[true, true, true, true, true, true, true, false, false, false, false] rfl rfl (by kernel_rfl) (by decide) (fun K hK => ?_)
        refine goes_ Tryz.func18 (by kernel_rfl) rfl #[.slice (some ⟨G, 0, none⟩) 1 1] (by rfl) rfl rfl (by simp only [List.map_toArray, List.map_cons, List.map_nil]; rfl) ?_
        with_reducible refine ((HAR.out (some ⟨G, 0, none⟩) 1 1 _)).mono ?_
        rintro e wy6 ⟨rfl, hb6⟩
        refine ⟨_, rfl, ?_⟩
        have hz6 := SPN.below hF hb6
        refine hK.out _ _ ⟨((six_cells (((SPN.tk1 hz6).1).get 0 rfl)).1), ((six_cells (((SPN.tk1 hz6).1).get 0 rfl)).2.1), ((six_cells (((SPN.tk1 hz6).1).get 0 rfl)).2.2.1), ((six_cells (((SPN.tk1 hz6).1).get 0 rfl)).2.2.2.1), ((six_cells (((SPN.tk1 hz6).1).get 0 rfl)).2.2.2.2.1), ((six_cells (((SPN.tk1 hz6).1).get 0 rfl)).2.2.2.2.2.1), (SPN.tk1 hz6)⟩ (fun hHeld => ?_)
        clear hK K
        refine norm_ (a' := ?_) ?_ ?_
        rotate_left
        · show Act.put _ (some 35) _ = _
          simp only [Act.put, List.setIfInBounds_toArray, List.set_cons_zero, List.set_cons_succ, i64_w, i32_w]
          rfl
        refine one_ (i := 7) (N := some 36) #[true, true, true, true, true, true, true, true, false, false, false] rfl rfl (by kernel_rfl) (by decide) (fun K hK => ?_)
        refine goes_ Tryz.func20 (by kernel_rfl) rfl #[.agg #[.int .i64 5, .int .i64 0, .string ⟨#[]⟩, .slice A1 l.length c1, .slice none 0 0, .slice none 0 0], .agg #[.int .i64 5, .int .i64 0, .string ⟨#[]⟩, .slice (some ⟨G, 0, none⟩) 1 1, .slice none 0 0, .slice none 0 0]] (by rfl) rfl rfl (by simp only [List.map_toArray, List.map_cons, List.map_nil]; rfl) ?_
        with_reducible refine ((HCO.out _ G hz6)).mono ?_
        rintro e wy7 ⟨rfl, hb7⟩
        refine ⟨_, rfl, ?_⟩
        have hz7 := SPN.below hz6 hb7
        refine hK.out _ _ ⟨((six_cells (((SPN.tk1 hz7).1).get 0 rfl)).1), ((six_cells (((SPN.tk1 hz7).1).get 0 rfl)).2.1), ((six_cells (((SPN.tk1 hz7).1).get 0 rfl)).2.2.1), ((six_cells (((SPN.tk1 hz7).1).get 0 rfl)).2.2.2.1), ((six_cells (((SPN.tk1 hz7).1).get 0 rfl)).2.2.2.2.1), ((six_cells (((SPN.tk1 hz7).1).get 0 rfl)).2.2.2.2.2.1), (SPN.tk1 hz7)⟩ (fun hHeld => ?_)
        clear hK K
        refine norm_ (a' := ?_) ?_ ?_
        rotate_left
        · show Act.put _ (some 36) _ = _
          simp only [Act.put, List.setIfInBounds_toArray, List.set_cons_zero, List.set_cons_succ, i64_w, i32_w]
          rfl
        refine one_ (i := 8) (N := some 37) #[true, true, true, true, true, true, true, true, true, false, false] rfl rfl (by kernel_rfl) (by decide) (fun K hK => ?_)
        refine goes_ Tryz.func19 (by kernel_rfl) rfl #[resB bx] (by rfl) rfl rfl (by simp only [List.map_toArray, List.map_cons, List.map_nil]; rfl) ?_
        with_reducible refine ((lc_yes bx _)).mono ?_
        rintro e wy8 ⟨rfl, hb8⟩
        refine ⟨_, rfl, ?_⟩
        have hz8 := SPN.below hz7 hb8
        refine hK.out _ _ ⟨((six_cells (((SPN.tk1 hz8).1).get 0 rfl)).1), ((six_cells (((SPN.tk1 hz8).1).get 0 rfl)).2.1), ((six_cells (((SPN.tk1 hz8).1).get 0 rfl)).2.2.1), ((six_cells (((SPN.tk1 hz8).1).get 0 rfl)).2.2.2.1), ((six_cells (((SPN.tk1 hz8).1).get 0 rfl)).2.2.2.2.1), ((six_cells (((SPN.tk1 hz8).1).get 0 rfl)).2.2.2.2.2.1), (SPN.tk1 hz8)⟩ (fun hHeld => ?_)
        clear hK K
        refine norm_ (a' := ?_) ?_ ?_
        rotate_left
        · show Act.put _ (some 37) _ = _
          simp only [Act.put, List.setIfInBounds_toArray, List.set_cons_zero, List.set_cons_succ, i64_w, i32_w]
          rfl
        refine pure_ (i := 9) (N := some 38) (v := ?_) (a' := ?_) #[true, true, true, true, true, true, true, true, true, true, false] rfl rfl (by kernel_rfl) (fun _ _ _ h => h) (Or.inl ⟨by rfl, ?_⟩) ?_ ?_
        rotate_left
        · intro w'
          go_simp
          with_reducible rfl
        rotate_left
        · simp only [Act.put, List.setIfInBounds_toArray, List.set_cons_zero, List.set_cons_succ, i64_w, i32_w]
          rfl
        refine pure_ (i := 10) (N := some 5) (v := ?_) (a' := ?_) #[true, true, true, true, true, true, true, true, true, true, true] rfl rfl (by kernel_rfl) (fun _ _ _ h => h) (Or.inl ⟨by rfl, ?_⟩) ?_ ?_
        rotate_left
        · intro w'
          go_simp
          with_reducible rfl
        rotate_left
        · simp only [Act.put, List.setIfInBounds_toArray, List.set_cons_zero, List.set_cons_succ, i64_w, i32_w]
          rfl
        refine done_ (by kernel_rfl) ?_
        go_wp2_with fail
        go_roundg (gk - 1)
        case measure => have := HR.out.2; omega
        case rel =>
          have hw : wrap64 ((j : Int) + 1) = ((j + 1 : Nat) : Int) := by have := HN.out; have := HR.out.2; unfold wrap64; omega
          try rw [hw]
          exact ⟨j + 1, rfl, by have := HR.out.2; omega, hz8.1.1, by rw [HQ.out]⟩
    · have q2 : ¬ (j : Int) < (n : Int) := by omega
      have q4 : decide ((j : Int) < (n : Int)) = false := decide_eq_false q2
      have q5 : decide (j < n) = false := decide_eq_false hlt
      have HE : Hid (((m.take j).all fun r => conA l r) = (m.all fun r => conA l r)) := Lib.hid (by rw [List.take_of_length_le (by have := HNN.out; omega)])
      have HR := Lib.hid hbr
      obtain ⟨bv, hbv⟩ : ∃ bv, bv = m.all fun r => conA l r := ⟨_, rfl⟩
      rw [HE.out]
      rw [← hbv] at HCC ⊢
      clear hbv hbr hkj hlt q2
      go_wp2_with fail
      refine (HAR.out _ _ _ _).mono ?_
      rintro e w4 ⟨rfl, hb⟩
      have H4 := Lib.hid (HR.out.trans (hb.mono HR.out.size))
      clear hb
      go_wp2_with fail
      refine (HAR.out _ _ _ _).mono ?_
      rintro e w5 ⟨rfl, hb⟩
      have H5 := Lib.hid (H4.out.trans (hb.mono H4.out.size))
      clear hb
      go_wp2_with fail
      refine (HCC.out _ H5.out).mono ?_
      rintro e w6 ⟨rfl, hb⟩
      have H6 := Lib.hid (H5.out.trans (hb.mono H5.out.size))
      clear hb
      go_wp2_with fail
      refine (lc_bool _ _).mono ?_
      rintro e w7 ⟨rfl, hb⟩
      have H7 := Lib.hid (H6.out.trans (hb.mono H6.out.size))
      clear hb
      go_wp2_with fail
      refine (lc_given _ _).mono ?_
      rintro e w8 ⟨rfl, hb⟩
      have H8 := Lib.hid (H7.out.trans (hb.mono H7.out.size))
      clear hb
      go_wp2_with fail
      go_ret
      exact ⟨rfl, H8.out⟩
end Go.Proofs.YtcoahpcjhhnkkaaGreatDoor.ValA
