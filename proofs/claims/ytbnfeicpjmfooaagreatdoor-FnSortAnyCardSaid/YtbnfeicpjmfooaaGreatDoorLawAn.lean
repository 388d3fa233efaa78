/-
FnSortAny: sort does not depend on the order of the elements: of two elements exchanged the result is the same.
-/
import Derived.Test.YtbnfeicpjmfooaaGreatDoorSrtS
set_option linter.unusedSimpArgs false
set_option linter.unusedVariables false
namespace Go.Proofs.YtbnfeicpjmfooaaGreatDoor.ValA
open Go.RowKit Go.Lib Go.Proofs.YtbnfeicpjmfooaaGreatDoorW.PrintWords Go.Proofs.YtbnfeicpjmfooaaGreatDoorW.PrintLast Go.Proofs.YtbnfeicpjmfooaaGreatDoorW.PrintMore Go.Proofs.YtbnfeicpjmfooaaGreatDoor.PzzFits1 Go.Proofs.YtbnfeicpjmfooaaGreatDoor.NumA
attribute [local go_sem] run_val
theorem list_Kb {w0 : World} {A : Option Addr} {l : List V} {n c : Nat} (hn : l.length = n) (hlc : n ≤ c) (hC : Kd.C k26 w0 A n l) :
    k26.K w0 (lV l) [.int .i64 5, .int .i64 0, .string ⟨#[]⟩, .slice A n c, .slice none 0 0, .slice none 0 0] := by
  subst hn
  exact k26_mk w0 (lV l) hlc hC (Nat.le_refl _) (Kd.C_nil _ _) (Nat.le_refl _) (Kd.C_nil _ _)
theorem spec_arrayB (A : Option Addr) (n c : Nat) (w : World) : Calls Tryz.prog 15 #[.slice A n c] w fun e w' => e = .returned (.agg #[.int .i64 5, .int .i64 0, .string ⟨#[]⟩, .slice A n c, .slice none 0 0, .slice none 0 0]) ∧ Below w.heap.size w w' := by
  go_enter Tryz.func15, Tryz.ntmps15
  go_wp2_with fail
  refine bodyPost_ret (v := .agg #[.int .i64 5, .int .i64 0, .string ⟨#[]⟩, .slice A n c, .slice none 0 0, .slice none 0 0]) (by simp [results, Tryz.results15, go_sem]) rfl ?_
  exact ⟨rfl, (Below.refl _ w).alloc (Nat.le_refl _) _⟩
/-- The copy: a row of its own, each element's cells. -/
theorem own_form {W0 W : World} {v : Value} {l : List V} (h : OwnL W0 v l W) (h0 : 0 < l.length) : ∃ g cap cur, v = .slice (some ⟨g, 0, none⟩) l.length cap ∧ W0.heap.size ≤ g ∧ l.length ≤ cap ∧ W.heap[g]? = some (.cells cur 26 (0, 0)) ∧ l.length * 6 ≤ cur.size ∧ ReadsRow (k26.K W0) 6 W (some ⟨g, 0, none⟩) l.length l ∧ Below W0.heap.size W0 W := by
  obtain ⟨⟨inner, hown, hr⟩, hb⟩ := h
  obtain ⟨A, c, e, hle, hR⟩ := OwnRow.reads ⟨inner, hown, hr⟩
  rcases hown.2 with ⟨rfl, hn⟩ | ⟨g, cap, cur, rfl, hbg, hg, hnc, hcap, hsz, htk⟩
  · omega
  · cases e
    exact ⟨g, _, cur, rfl, hbg, hnc, hg, by rw [hsz]; exact Nat.mul_le_mul_right 6 hnc, hR, hb⟩
theorem elem_of {W0 W : World} {g n : Nat} {l : List V} (hR : ReadsRow (k26.K W0) 6 W (some ⟨g, 0, none⟩) n l) {q : Nat} (hq : q < n) : ∃ C3 e3 C4 e4 C5 e5, k26.K W0 (rd_T26 l q) [.int .i64 (rd_T26 l q).f0, .int .i64 (rd_T26 l q).f1, .string (rd_T26 l q).f2, .slice C3 (rd_T26 l q).f3.length e3, .slice C4 (rd_T26 l q).f4.length e4, .slice C5 (rd_T26 l q).f5.length e5] ∧
    W.cell? ⟨g, q * 6, none⟩ = some (.int .i64 (rd_T26 l q).f0) ∧ W.cell? ⟨g, q * 6 + 1, none⟩ = some (.int .i64 (rd_T26 l q).f1) ∧ W.cell? ⟨g, q * 6 + 2, none⟩ = some (.string (rd_T26 l q).f2) ∧ W.cell? ⟨g, q * 6 + 3, none⟩ = some (.slice C3 (rd_T26 l q).f3.length e3) ∧ W.cell? ⟨g, q * 6 + 4, none⟩ = some (.slice C4 (rd_T26 l q).f4.length e4) ∧ W.cell? ⟨g, q * 6 + 5, none⟩ = some (.slice C5 (rd_T26 l q).f5.length e5) := by
  obtain ⟨ad, e, hh⟩ := hR.2.2 (by omega)
  obtain rfl : (⟨g, 0, none⟩ : Addr) = ad := Option.some.inj e
  obtain ⟨cs, h6, hK, hu⟩ := hh q _ (rd_at l q (by have := hR.1; omega))
  have hK' := hK
  obtain ⟨C3, e3, C4, e4, C5, e5, he, _⟩ := k26_open hK
  subst he
  have hadd : ∀ t : Nat, (⟨g, 0, none⟩ : Addr).add (q * 6 + t) = ⟨g, q * 6 + t, none⟩ := fun t => by
    simp [Addr.add]
    try (intro h1 h2; omega)
  have hu' : ∀ t u, [Value.int .i64 (rd_T26 l q).f0, .int .i64 (rd_T26 l q).f1, .string (rd_T26 l q).f2, .slice C3 (rd_T26 l q).f3.length e3, .slice C4 (rd_T26 l q).f4.length e4, .slice C5 (rd_T26 l q).f5.length e5][t]? = some u → W.cell? ⟨g, q * 6 + t, none⟩ = some u := fun t u h => by
    have := hu t u h
    rwa [hadd] at this
  exact ⟨C3, e3, C4, e4, C5, e5, hK', hu' 0 _ rfl, hu' 1 _ rfl, hu' 2 _ rfl, hu' 3 _ rfl, hu' 4 _ rfl, hu' 5 _ rfl⟩
set_option maxRecDepth 100000 in
set_option maxHeartbeats 20000000 in
theorem fnSortAny_any (w0 : World) (hE : Env w0) (A1 : Option Addr) (l : List V) (c1 : Nat) (hlc1 : l.length ≤ c1) (hC1 : Kd.C k26 w0 A1 l.length l) (hz1 : ∀ y ∈ l, Sz y) (i : Int) (zi : (Lit.int .i64 i).wf = true) (j : Int) (zj : (Lit.int .i64 j).wf = true) :
    Calls Tryz.prog 3 #[.slice A1 l.length c1, .int .i64 i, .int .i64 j] w0 fun e w' => e = .returned (.bool true) ∧ Below w0.heap.size w0 w' := by
  obtain ⟨w, hw⟩ : ∃ w, w = w0 := ⟨_, rfl⟩
  have s1 : Sz (lV l) := sz_lV hz1
  have k1 := list_Kb rfl hlc1 hC1
  have HFI := Lib.hid (fun w1 hb => fit_any w0 hE (lV l) s1 _ _ _ _ _ _ _ _ _ _ _ _ k1 w1 hb)
  have HT1 := Lib.hid (fun h => toGo_any w0 _ (lV l) (Nat.lt_succ_self _) s1 h _ k1)
  have HS := Lib.hid s1
  have HC := Lib.hid hC1
  have HAR := Lib.hid (fun A n c w => spec_arrayB A n c w)
  clear hE hlc1 hC1 hz1 s1 k1 zi zj
  subst hw
  by_cases c0 : (l.length : Int) > 2147483647
  · have d0 : decide ((l.length : Int) > 2147483647) = true := decide_eq_true c0
    clear c0
    go_enter Tryz.func3, Tryz.ntmps3
    go_wp2_with fail
    go_ret
    exact ⟨rfl, Below.refl _ _⟩
  have d0 : decide ((l.length : Int) > 2147483647) = false := decide_eq_false c0
  clear c0
  go_enter Tryz.func3, Tryz.ntmps3
  go_wp2_with fail
  refine (HAR.out _ _ _ _).mono ?_
  rintro e w2 ⟨rfl, hb⟩
  have H2 := Lib.hid hb
  clear hb
  go_wp2_with fail
  obtain ⟨V, hV⟩ : ∃ V, V = w2.heap.size := ⟨_, rfl⟩
  obtain ⟨W3, hW3⟩ : ∃ W3, W3 = w2.alloc (.cells #[.int .i64 5, .int .i64 0, .string ⟨#[]⟩, .slice A1 l.length c1, .slice none 0 0, .slice none 0 0] 26) := ⟨_, rfl⟩
  have hS3 : SPN w [(V, #[.int .i64 5, .int .i64 0, .string ⟨#[]⟩, .slice A1 l.length c1, .slice none 0 0, .slice none 0 0], 26)] W3 := by rw [hV, hW3]; exact SPN.more (L := []) ⟨⟨H2.out, fun p hp => by cases hp⟩, List.nodup_nil, fun p hp => by cases hp⟩ _ _
  rw [← hW3]
  try rw [← hV]
  have H3 := Lib.hid hS3
  have yv := six_cells (hS3.1.get 0 rfl)
  clear hS3 hW3 hV H2
  try go_wp2_with fail
  refine (HFI.out W3 H3.out.1.1).mono ?_
  rintro e w4 ⟨r, rfl, hr, hb⟩
  have H4 := Lib.hid (SPN.below H3.out hb)
  clear hb H3 HFI yv
  cases r with
  | false =>
    go_wp2_with fail
    go_ret
    exact ⟨rfl, H4.out.1.1⟩
  | true =>
  have HW := Lib.hid (loose (hr (by trivial)))
  have HN : Hid (l.length ≤ 1000000) := Lib.hid (by
    have h1 := HW.out
    cases h1
    assumption)
  clear hr
  by_cases i0 : i < 0
  · have d1 : decide (i < 0) = true := decide_eq_true i0
    go_wp2_with fail
    go_ret
    exact ⟨rfl, H4.out.1.1⟩
  have d1 : decide (i < 0) = false := decide_eq_false i0
  by_cases j0 : j < 0
  · have d2 : decide (j < 0) = true := decide_eq_true j0
    go_wp2_with fail
    go_ret
    exact ⟨rfl, H4.out.1.1⟩
  have d2 : decide (j < 0) = false := decide_eq_false j0
  by_cases i1 : i ≥ (l.length : Int)
  · have d3 : decide (i ≥ (l.length : Int)) = true := decide_eq_true i1
    have d5 : decide ((l.length : Int) ≤ i) = true := decide_eq_true i1
    go_wp2_with fail
    go_ret
    exact ⟨rfl, H4.out.1.1⟩
  have d3 : decide (i ≥ (l.length : Int)) = false := decide_eq_false i1
  have d5 : decide ((l.length : Int) ≤ i) = false := decide_eq_false i1
  by_cases j1 : j ≥ (l.length : Int)
  · have d4 : decide (j ≥ (l.length : Int)) = true := decide_eq_true j1
    have d6 : decide ((l.length : Int) ≤ j) = true := decide_eq_true j1
    go_wp2_with fail
    go_ret
    exact ⟨rfl, H4.out.1.1⟩
  have d4 : decide (j ≥ (l.length : Int)) = false := decide_eq_false j1
  have d6 : decide ((l.length : Int) ≤ j) = false := decide_eq_false j1
  obtain ⟨v1, w5, hrun, hO⟩ := (OwnL.lit0 (Below.refl _ w4)).appended (Kd.C_below HC.out H4.out.1.1) (by have := HN.out; simp; omega)
  rw [List.nil_append] at hO
  obtain ⟨g, cap, cur, rfl, hg0, hcap, hg, hsz, hRR, hb5⟩ := own_form hO (by omega)
  have HO := Lib.hid (And.intro hg0 (And.intro hcap (And.intro hg (And.intro hsz (And.intro hRR hb5)))))
  have HRUN := Lib.hid hrun
  have HIJ := Lib.hid (And.intro i0 (And.intro j0 (And.intro i1 j1)))
  have HCAP := Lib.hid hcap
  clear hrun hO hg0 hcap hg hsz hRR hb5
  go_wp2_with ((with_reducible refine gate_builtin (b := .append) (xs := #[.tmp 38, .tmp 39]) rfl ?_); at_builtin; refine wp_append_run rfl (.tmp 38) (.tmp 39) 22 rfl _ _ rfl rfl HRUN.out ?_)
  obtain ⟨a, rfl⟩ : ∃ a : Nat, i = a := ⟨i.toNat, by have := HIJ.out; omega⟩
  obtain ⟨b, rfl⟩ : ∃ b : Nat, j = b := ⟨j.toNat, by have := HIJ.out; omega⟩
  have ha : a < l.length := by have := HIJ.out; omega
  have hb : b < l.length := by have := HIJ.out; omega
  clear d1 d2 d3 d4 d5 d6
  obtain ⟨C3, e3, C4, e4, C5, e5, hKa, x0, x1, x2, x3, x4, x5⟩ := elem_of HO.out.2.2.2.2.1 ha
  obtain ⟨D3, h3, D4, h4, D5, h5, hKb, u0, u1, u2, u3, u4, u5⟩ := elem_of HO.out.2.2.2.2.1 hb
  have HSW := Lib.hid (fun (W1 : World) (cur1 : Array Value) hW1 hc => swap_reads (cur := cur) (cur1 := cur1) (W1 := W1) HO.out.2.2.2.2.1 ha hb HO.out.2.2.2.1 HO.out.2.2.1 hW1 hc hKa hKb)
  obtain ⟨x, hx⟩ : ∃ x, x = rd_T26 l a := ⟨_, rfl⟩
  obtain ⟨y, hy⟩ : ∃ y, y = rd_T26 l b := ⟨_, rfl⟩
  rw [← hx] at x0 x1 x2 x3 x4 x5 HSW
  rw [← hy] at u0 u1 u2 u3 u4 u5 HSW
  have ha2 : (a : Int) < (l.length : Int) := by omega
  have hb2 : (b : Int) < (l.length : Int) := by omega
  have HAB := Lib.hid (And.intro ha hb)
  clear hx hy hKa hKb
  refine start_ (n := 16) (S := fun w' => w'.cell? ⟨g, a * 6, none⟩ = some (.int .i64 x.f0) ∧ w'.cell? ⟨g, a * 6 + 1, none⟩ = some (.int .i64 x.f1) ∧ w'.cell? ⟨g, a * 6 + 2, none⟩ = some (.string x.f2) ∧ w'.cell? ⟨g, a * 6 + 3, none⟩ = some (.slice C3 x.f3.length e3) ∧ w'.cell? ⟨g, a * 6 + 4, none⟩ = some (.slice C4 x.f4.length e4) ∧ w'.cell? ⟨g, a * 6 + 5, none⟩ = some (.slice C5 x.f5.length e5) ∧ w'.cell? ⟨g, b * 6, none⟩ = some (.int .i64 y.f0) ∧ w'.cell? ⟨g, b * 6 + 1, none⟩ = some (.int .i64 y.f1) ∧ w'.cell? ⟨g, b * 6 + 2, none⟩ = some (.string y.f2) ∧ w'.cell? ⟨g, b * 6 + 3, none⟩ = some (.slice D3 y.f3.length h3) ∧ w'.cell? ⟨g, b * 6 + 4, none⟩ = some (.slice D4 y.f4.length h4) ∧ w'.cell? ⟨g, b * 6 + 5, none⟩ = some (.slice D5 y.f5.length h5)) (ds := [13, 15]) #[false, false, false, false, false, false, false, false, false, false, false, false, false, false, false, false] (by kernel_rfl) rfl rfl ⟨x0, x1, x2, x3, x4, x5, u0, u1, u2, u3, u4, u5⟩ (fun hHeld => ?_)
  refine pure_ (i := 0) (N := some 41) (v := ?_) (a' := ?_) #[true, false, false, false, false, false, false, false, false, false, false, false, false, false, false, false] rfl rfl (by kernel_rfl) (fun _ _ _ h => h) (Or.inl ⟨by rfl, ?_⟩) ?_ ?_
  rotate_left
  · intro w'
    go_simp
    with_reducible rfl
  rotate_left
  · simp only [Act.put, List.setIfInBounds_toArray, List.set_cons_zero, List.set_cons_succ, i64_w, i32_w]
    rfl
  refine pure_ (i := 1) (N := some 42) (v := ?_) (a' := ?_) #[true, true, false, false, false, false, false, false, false, false, false, false, false, false, false, false] rfl rfl (by kernel_rfl) (fun _ _ _ h => h) (Or.inl ⟨by rfl, ?_⟩) ?_ ?_
  rotate_left
  · intro w'
    go_simp
    with_reducible rfl
  rotate_left
  · simp only [Act.put, List.setIfInBounds_toArray, List.set_cons_zero, List.set_cons_succ, i64_w, i32_w]
    rfl
  refine pure_ (i := 2) (N := some 43) (v := ?_) (a' := ?_) #[true, true, true, false, false, false, false, false, false, false, false, false, false, false, false, false] rfl rfl (by kernel_rfl) (fun _ _ _ h => h) (Or.inl ⟨by rfl, ?_⟩) ?_ ?_
  rotate_left
  · intro w'
    go_simp
    with_reducible rfl
  rotate_left
  · simp only [Act.put, List.setIfInBounds_toArray, List.set_cons_zero, List.set_cons_succ, i64_w, i32_w]
    rfl
  refine pure_ (i := 3) (N := some 44) (v := ?_) (a' := ?_) #[true, true, true, true, false, false, false, false, false, false, false, false, false, false, false, false] rfl rfl (by kernel_rfl) (fun _ _ _ h => h) (Or.inl ⟨by rfl, ?_⟩) ?_ ?_
  rotate_left
  · intro w'
    go_simp
    with_reducible rfl
  rotate_left
  · simp only [Act.put, List.setIfInBounds_toArray, List.set_cons_zero, List.set_cons_succ, i64_w, i32_w]
    rfl
  refine pure_ (i := 4) (N := some 45) (v := ?_) (a' := ?_) #[true, true, true, true, true, false, false, false, false, false, false, false, false, false, false, false] rfl rfl (by kernel_rfl) (fun _ _ _ h => h) (Or.inl ⟨by rfl, ?_⟩) ?_ ?_
  rotate_left
  · intro w'
    go_simp
    with_reducible rfl
  rotate_left
  · simp only [Act.put, List.setIfInBounds_toArray, List.set_cons_zero, List.set_cons_succ, i64_w, i32_w]
    rfl
  refine pure_ (i := 5) (N := some 46) (v := ?_) (a' := ?_) #[true, true, true, true, true, true, false, false, false, false, false, false, false, false, false, false] rfl rfl (by kernel_rfl) (fun _ _ _ h => h) (Or.inl ⟨by rfl, ?_⟩) ?_ ?_
  rotate_left
  · intro w'
    go_simp
    with_reducible rfl
  rotate_left
  · simp only [Act.put, List.setIfInBounds_toArray, List.set_cons_zero, List.set_cons_succ, i64_w, i32_w]
    rfl
  refine pure_ (i := 6) (N := some 47) (v := ?_) (a' := ?_) #[true, true, true, true, true, true, true, false, false, false, false, false, false, false, false, false] rfl rfl (by kernel_rfl) (fun _ _ _ h => h) (Or.inl ⟨by rfl, ?_⟩) ?_ ?_
  rotate_left
  · intro w'
    go_simp
    with_reducible rfl
  rotate_left
  · simp only [Act.put, List.setIfInBounds_toArray, List.set_cons_zero, List.set_cons_succ, i64_w, i32_w]
    rfl
  refine pure_ (i := 8) (N := some 49) (v := ?_) (a' := ?_) #[true, true, true, true, true, true, true, false, true, false, false, false, false, false, false, false] rfl rfl (by kernel_rfl) (fun _ _ _ h => h) (Or.inl ⟨by rfl, ?_⟩) ?_ ?_
  rotate_left
  · intro w'
    go_simp
    with_reducible rfl
  rotate_left
  · simp only [Act.put, List.setIfInBounds_toArray, List.set_cons_zero, List.set_cons_succ, i64_w, i32_w]
    rfl
  refine pure_ (i := 9) (N := some 50) (v := ?_) (a' := ?_) #[true, true, true, true, true, true, true, false, true, true, false, false, false, false, false, false] rfl rfl (by kernel_rfl) (fun _ _ _ h => h) (Or.inl ⟨by rfl, ?_⟩) ?_ ?_
  rotate_left
  · intro w'
    go_simp
    with_reducible rfl
  rotate_left
  · simp only [Act.put, List.setIfInBounds_toArray, List.set_cons_zero, List.set_cons_succ, i64_w, i32_w]
    rfl
  refine pure_ (i := 10) (N := some 51) (v := ?_) (a' := ?_) #[true, true, true, true, true, true, true, false, true, true, true, false, false, false, false, false] rfl rfl (by kernel_rfl) (fun _ _ _ h => h) (Or.inl ⟨by rfl, ?_⟩) ?_ ?_
  rotate_left
  · intro w'
    go_simp
    with_reducible rfl
  rotate_left
  · simp only [Act.put, List.setIfInBounds_toArray, List.set_cons_zero, List.set_cons_succ, i64_w, i32_w]
    rfl
  refine take_ (i := 7) (N := some 48) (v := ?_) (a' := ?_) #[true, true, true, true, true, true, true, true, true, true, true, false, false, false, false, false] rfl rfl (by kernel_rfl) (fun _ _ _ h => h) (Or.inl ⟨by rfl, ?_⟩) hHeld ?_ ?_
  rotate_left
  · rintro w' ⟨s0, s1, s2, s3, s4, s5, s6, s7, s8, s9, s10, s11⟩
    go_simp
    with_reducible rfl
  rotate_left
  · simp only [Act.put, List.setIfInBounds_toArray, List.set_cons_zero, List.set_cons_succ, i64_w, i32_w]
    rfl
  refine take_ (i := 11) (N := some 52) (v := ?_) (a' := ?_) #[true, true, true, true, true, true, true, true, true, true, true, true, false, false, false, false] rfl rfl (by kernel_rfl) (fun _ _ _ h => h) (Or.inl ⟨by rfl, ?_⟩) hHeld ?_ ?_
  rotate_left
  · rintro w' ⟨s0, s1, s2, s3, s4, s5, s6, s7, s8, s9, s10, s11⟩
    go_simp
    with_reducible rfl
  rotate_left
  · simp only [Act.put, List.setIfInBounds_toArray, List.set_cons_zero, List.set_cons_succ, i64_w, i32_w]
    rfl
  refine pure_ (i := 12) (N := some 53) (v := ?_) (a' := ?_) #[true, true, true, true, true, true, true, true, true, true, true, true, true, false, false, false] rfl rfl (by kernel_rfl) (fun _ _ _ h => h) (Or.inl ⟨by rfl, ?_⟩) ?_ ?_
  rotate_left
  · intro w'
    go_simp
    with_reducible rfl
  rotate_left
  · simp only [Act.put, List.setIfInBounds_toArray, List.set_cons_zero, List.set_cons_succ, i64_w, i32_w]
    rfl
  refine last_ (i := 13) (N := none) #[true, true, true, true, true, true, true, true, true, true, true, true, true, true, false, false] rfl rfl (by kernel_rfl) (by decide) (fun K hK => ?_)
  obtain ⟨⟨o0, p0⟩, f0⟩ := row_cell HO.out.2.2.1 HAB.out.1 HO.out.2.2.2.1 0 (by omega)
  obtain ⟨⟨o1, p1⟩, f1⟩ := row_cell HO.out.2.2.1 HAB.out.1 HO.out.2.2.2.1 1 (by omega)
  obtain ⟨⟨o2, p2⟩, f2⟩ := row_cell HO.out.2.2.1 HAB.out.1 HO.out.2.2.2.1 2 (by omega)
  obtain ⟨⟨o3, p3⟩, f3⟩ := row_cell HO.out.2.2.1 HAB.out.1 HO.out.2.2.2.1 3 (by omega)
  obtain ⟨⟨o4, p4⟩, f4⟩ := row_cell HO.out.2.2.1 HAB.out.1 HO.out.2.2.2.1 4 (by omega)
  obtain ⟨⟨o5, p5⟩, f5⟩ := row_cell HO.out.2.2.1 HAB.out.1 HO.out.2.2.2.1 5 (by omega)
  rw [Nat.add_zero] at p0 f0
  refine put6R_ (v0 := .int .i64 y.f0) (v1 := .int .i64 y.f1) (v2 := .string y.f2) (v3 := .slice D3 y.f3.length h3) (v4 := .slice D4 y.f4.length h4) (v5 := .slice D5 y.f5.length h5) (q := a) (pw_below_drewN HO.out.2.2.2.2.2 1) HO.out.1 HO.out.2.2.1 (by rfl) rfl ?_ ?_
  · first | (go_simp; done) | (go_simp; rfl)
  clear p0 f0 p1 f1 p2 f2 p3 f3 p4 f4 p5 f5
  intro ws1 cur1 hb1' hg1 hc1
  refine hK.out _ _ ?_
  clear hK K
  refine pure_ (i := 14) (N := some 54) (v := ?_) (a' := ?_) #[true, true, true, true, true, true, true, true, true, true, true, true, true, true, true, false] rfl rfl (by kernel_rfl) (fun _ _ _ h => h) (Or.inl ⟨by rfl, ?_⟩) ?_ ?_
  rotate_left
  · intro w'
    go_simp
    with_reducible rfl
  rotate_left
  · simp only [Act.put, List.setIfInBounds_toArray, List.set_cons_zero, List.set_cons_succ, i64_w, i32_w]
    rfl
  refine last_ (i := 15) (N := none) #[true, true, true, true, true, true, true, true, true, true, true, true, true, true, true, true] rfl rfl (by kernel_rfl) (by decide) (fun K hK => ?_)
  obtain ⟨⟨o0, p0⟩, f0⟩ := row_cell hg1 HAB.out.2 (by rw [← Array.length_toList, hc1, put6L_len, Array.length_toList]; exact HO.out.2.2.2.1) 0 (by omega)
  obtain ⟨⟨o1, p1⟩, f1⟩ := row_cell hg1 HAB.out.2 (by rw [← Array.length_toList, hc1, put6L_len, Array.length_toList]; exact HO.out.2.2.2.1) 1 (by omega)
  obtain ⟨⟨o2, p2⟩, f2⟩ := row_cell hg1 HAB.out.2 (by rw [← Array.length_toList, hc1, put6L_len, Array.length_toList]; exact HO.out.2.2.2.1) 2 (by omega)
  obtain ⟨⟨o3, p3⟩, f3⟩ := row_cell hg1 HAB.out.2 (by rw [← Array.length_toList, hc1, put6L_len, Array.length_toList]; exact HO.out.2.2.2.1) 3 (by omega)
  obtain ⟨⟨o4, p4⟩, f4⟩ := row_cell hg1 HAB.out.2 (by rw [← Array.length_toList, hc1, put6L_len, Array.length_toList]; exact HO.out.2.2.2.1) 4 (by omega)
  obtain ⟨⟨o5, p5⟩, f5⟩ := row_cell hg1 HAB.out.2 (by rw [← Array.length_toList, hc1, put6L_len, Array.length_toList]; exact HO.out.2.2.2.1) 5 (by omega)
  rw [Nat.add_zero] at p0 f0
  refine put6R_ (v0 := .int .i64 x.f0) (v1 := .int .i64 x.f1) (v2 := .string x.f2) (v3 := .slice C3 x.f3.length e3) (v4 := .slice C4 x.f4.length e4) (v5 := .slice C5 x.f5.length e5) (q := b) hb1' HO.out.1 hg1 (by rfl) rfl ?_ ?_
  · first | (go_simp; done) | (go_simp; rfl)
  clear p0 f0 p1 f1 p2 f2 p3 f3 p4 f4 p5 f5
  intro ws2 cur2 hb2' hg2 hc2
  refine hK.out _ _ ?_
  clear hK K
  refine done_ (by kernel_rfl) ?_
  have HC7 := Lib.hid (HSW.out _ _ hg2 (by rw [hc2, hc1]))
  have H7 := Lib.hid (SPN.below H4.out hb2')
  have HB7 := Lib.hid hb2'
  clear HSW hg1 hg2 hc1 hc2 hb1' hb2' x0 x1 x2 x3 x4 x5 u0 u1 u2 u3 u4 u5 ha2 hb2 ha hb HO HRUN H4
  obtain ⟨s, hs⟩ : ∃ s, s = lV (sortV l) := ⟨_, rfl⟩
  have HEL : Hid (∀ y ∈ l, WL y ∧ Sz y) := Lib.hid (fun y hy => ⟨(HW.out).h3 y hy, sz_h3 HS.out y hy⟩)
  have HF0 : Hid (s.f0 = 5) := Lib.hid (by rw [hs]; rfl)
  have HSW2 : Hid (lV (sortV (swpV l a b)) = s) := Lib.hid (by rw [hs, sort_one (fun y hy => (HEL.out y hy).1) ((sortV_perm _).trans (swpV_perm HAB.out.1 HAB.out.2)) (sortV_ris _)])
  have HWS : Hid (WL s) := Lib.hid (by rw [hs]; exact wl_lV (by rw [sortV_len]; exact HN.out) (fun y hy => (HEL.out y (mem_sortV.1 hy)).1))
  have HSM : Hid (∀ y ∈ swpV l a b, WL y ∧ Sz y) := Lib.hid (fun y hy => HEL.out y ((swpV_perm HAB.out.1 HAB.out.2).mem_iff.1 hy))
  have HSU := Lib.hid (fun w1 hb => impl_Sort w (lV l) s _ _ _ _ _ _ _ _ _ _ _ _ (HT1.out HW.out) (fun g n w hg => by rw [hs]; exact zz_sort rfl HW.out HS.out hg) w1 hb)
  clear hs
  have yv := six_cells (H7.out.1.get 0 rfl)
  go_wp2_with fail
  refine (HSU.out _ H7.out.1.1).mono ?_
  rintro e w8 ⟨R3, r3, R4, r4, R5, r5, rfl, hM, hb⟩
  have HKS := Lib.hid (k26.K_of_M hM)
  have H8 := Lib.hid (And.intro (SPN.below H7.out hb) (HB7.out.trans (hb.mono HB7.out.size)))
  have HC8 := Lib.hid (HC7.out.imp_ hb (fun p cs h => h))
  clear hb hM H7 HC7 HB7 yv HSU
  go_wp2_with fail
  obtain ⟨R, hR⟩ : ∃ R, R = w8.heap.size := ⟨_, rfl⟩
  obtain ⟨W9, hW9⟩ : ∃ W9, W9 = w8.alloc (.cells #[.int .i64 s.f0, .int .i64 s.f1, .string s.f2, .slice R3 s.f3.length r3, .slice R4 s.f4.length r4, .slice R5 s.f5.length r5, .int .i64 0] 30) := ⟨_, rfl⟩
  have hS9 : SPN w8 [(R, #[.int .i64 s.f0, .int .i64 s.f1, .string s.f2, .slice R3 s.f3.length r3, .slice R4 s.f4.length r4, .slice R5 s.f5.length r5, .int .i64 0], 30)] W9 := by rw [hR, hW9]; exact (sp_nil w8).more _ _
  rw [← hW9]
  try rw [← hR]
  have H9 := Lib.hid hS9
  clear hS9 hW9 hR
  have hbool : (s.f0 == 5) = true := by rw [HF0.out]; rfl
  have HKM : Hid (k26.K w8 (lV (swpV l a b)) [.int .i64 5, .int .i64 0, .string ⟨#[]⟩, .slice (some ⟨g, 0, none⟩) l.length cap, .slice none 0 0, .slice none 0 0]) := Lib.hid (list_Kb (swpV_len l a b) HCAP.out (ReadsRow.imp_ HC8.out (Below.refl _ w8) (fun p cs h => k26.K_below H8.out.2 h)))
  have HSX : Hid (Sz (lV (swpV l a b))) := Lib.hid (sz_lV (fun y hy => (HSM.out y hy).2))
  have HWX : Hid (WL (lV (swpV l a b))) := Lib.hid (wl_lV (by rw [swpV_len]; exact HN.out) (fun y hy => (HSM.out y hy).1))
  have HSU2 := Lib.hid (fun w1 hb => impl_Sort w8 (lV (swpV l a b)) s _ _ _ _ _ _ _ _ _ _ _ _ (toGo_any w8 _ (lV (swpV l a b)) (Nat.lt_succ_self _) HSX.out HWX.out _ HKM.out) (fun g n w hg => by rw [← HSW2.out]; exact zz_sort rfl HWX.out HSX.out hg) w1 hb)
  refine start_ (n := 13) (S := fun w' => w'.cell? ⟨R, 0, none⟩ = some (.int .i64 s.f0) ∧ w'.cell? ⟨R, 1, none⟩ = some (.int .i64 s.f1) ∧ w'.cell? ⟨R, 2, none⟩ = some (.string s.f2) ∧ w'.cell? ⟨R, 3, none⟩ = some (.slice R3 s.f3.length r3) ∧ w'.cell? ⟨R, 4, none⟩ = some (.slice R4 s.f4.length r4) ∧ w'.cell? ⟨R, 5, none⟩ = some (.slice R5 s.f5.length r5) ∧ w'.cell? ⟨R, 6, none⟩ = some (.int .i64 0) ∧ SPN w8 [(R, #[.int .i64 s.f0, .int .i64 s.f1, .string s.f2, .slice R3 s.f3.length r3, .slice R4 s.f4.length r4, .slice R5 s.f5.length r5, .int .i64 0], 30)] w') (ds := []) #[false, false, false, false, false, false, false, false, false, false, false, false, false] (by kernel_rfl) rfl rfl ⟨((sev_cells (((SPN.drew H9.out).1).get 0 rfl)).1), ((sev_cells (((SPN.drew H9.out).1).get 0 rfl)).2.1), ((sev_cells (((SPN.drew H9.out).1).get 0 rfl)).2.2.1), ((sev_cells (((SPN.drew H9.out).1).get 0 rfl)).2.2.2.1), ((sev_cells (((SPN.drew H9.out).1).get 0 rfl)).2.2.2.2.1), ((sev_cells (((SPN.drew H9.out).1).get 0 rfl)).2.2.2.2.2.1), ((sev_cells (((SPN.drew H9.out).1).get 0 rfl)).2.2.2.2.2.2.1), (SPN.drew H9.out)⟩ (fun hHeld => ?_)
  refine pure_ (i := 0) (N := some 57) (v := ?_) (a' := ?_) #[true, false, false, false, false, false, false, false, false, false, false, false, false] rfl rfl (by kernel_rfl) (fun _ _ _ h => h) (Or.inl ⟨by rfl, ?_⟩) ?_ ?_
  rotate_left
  · intro w'
    go_simp
    with_reducible rfl
  rotate_left
  · simp only [Act.put, List.setIfInBounds_toArray, List.set_cons_zero, List.set_cons_succ, i64_w, i32_w]
    rfl
  refine pure_ (i := 1) (N := some 58) (v := ?_) (a' := ?_) #[true, true, false, false, false, false, false, false, false, false, false, false, false] rfl rfl (by kernel_rfl) (fun _ _ _ h => h) (Or.inl ⟨by rfl, ?_⟩) ?_ ?_
  rotate_left
  · intro w'
    go_simp
    with_reducible rfl
  rotate_left
  · simp only [Act.put, List.setIfInBounds_toArray, List.set_cons_zero, List.set_cons_succ, i64_w, i32_w]
    rfl
  refine take_ (i := 2) (N := some 59) (v := ?_) (a' := ?_) #[true, true, true, false, false, false, false, false, false, false, false, false, false] rfl rfl (by kernel_rfl) (fun _ _ _ h => h) (Or.inl ⟨by rfl, ?_⟩) hHeld ?_ ?_
  rotate_left
  · rintro w' ⟨s0, s1, s2, s3, s4, s5, s6, s7⟩
    go_simp
    with_reducible rfl
  rotate_left
  · simp only [Act.put, List.setIfInBounds_toArray, List.set_cons_zero, List.set_cons_succ, i64_w, i32_w]
    rfl
  refine pure_ (i := 3) (N := some 60) (v := ?_) (a' := ?_) #[true, true, true, true, false, false, false, false, false, false, false, false, false] rfl rfl (by kernel_rfl) (fun _ _ _ h => h) (Or.inl ⟨by rfl, ?_⟩) ?_ ?_
  rotate_left
  · intro w'
    go_simp
    with_reducible rfl
  rotate_left
  · simp only [Act.put, List.setIfInBounds_toArray, List.set_cons_zero, List.set_cons_succ, i64_w, i32_w]
    rfl
  refine pure_ (i := 4) (N := some 61) (v := ?_) (a' := ?_) #[true, true, true, true, true, false, false, false, false, false, false, false, false] rfl rfl (by kernel_rfl) (fun _ _ _ h => h) (Or.inl ⟨by rfl, ?_⟩) ?_ ?_
  rotate_left
  · intro w'
    go_simp
    with_reducible rfl
  rotate_left
  · simp only [Act.put, List.setIfInBounds_toArray, List.set_cons_zero, List.set_cons_succ, i64_w, i32_w]
    rfl
  refine pure_ (i := 5) (N := some 62) (v := ?_) (a' := ?_) #[true, true, true, true, true, true, false, false, false, false, false, false, false] rfl rfl (by kernel_rfl) (fun _ _ _ h => h) (Or.inl ⟨by rfl, ?_⟩) ?_ ?_
  rotate_left
  · intro w'
    go_simp
    with_reducible rfl
  rotate_left
  · simp only [Act.put, List.setIfInBounds_toArray, List.set_cons_zero, List.set_cons_succ, i64_w, i32_w]
    rfl
  refine pure_ (i := 8) (N := some 65) (v := ?_) (a' := ?_) #[true, true, true, true, true, true, false, false, true, false, false, false, false] rfl rfl (by kernel_rfl) (fun _ _ _ h => h) (Or.inl ⟨by rfl, ?_⟩) ?_ ?_
  rotate_left
  · intro w'
    go_simp
    with_reducible rfl
  rotate_left
  · simp only [Act.put, List.setIfInBounds_toArray, List.set_cons_zero, List.set_cons_succ, i64_w, i32_w]
    rfl
  refine take_ (i := 9) (N := some 66) (v := ?_) (a' := ?_) #[true, true, true, true, true, true, false, false, true, true, false, false, false] rfl rfl (by kernel_rfl) (fun _ _ _ h => h) (Or.inl ⟨by rfl, ?_⟩) hHeld ?_ ?_
  rotate_left
  · rintro w' ⟨s0, s1, s2, s3, s4, s5, s6, s7⟩
    go_simp
    with_reducible rfl
  rotate_left
  · simp only [Act.put, List.setIfInBounds_toArray, List.set_cons_zero, List.set_cons_succ, i64_w, i32_w]
    rfl
  refine one_ (i := 6) (N := some 63) #[true, true, true, true, true, true, true, false, true, true, false, false, false] rfl rfl (by kernel_rfl) (by decide) (fun K hK => ?_)
  refine goes_ Tryz.func15 (by kernel_rfl) rfl #[.slice (some ⟨g, 0, none⟩) l.length cap] (by rfl) rfl rfl (by simp only [List.map_toArray, List.map_cons, List.map_nil]; rfl) ?_
  with_reducible refine ((HAR.out _ _ _ _)).mono ?_
  rintro e wz ⟨rfl, hb1⟩
  refine ⟨_, rfl, ?_⟩
  have hz1 := SPN.below hHeld.2.2.2.2.2.2.2 hb1
  refine hK.out _ _ ⟨((sev_cells ((hz1.1).get 0 rfl)).1), ((sev_cells ((hz1.1).get 0 rfl)).2.1), ((sev_cells ((hz1.1).get 0 rfl)).2.2.1), ((sev_cells ((hz1.1).get 0 rfl)).2.2.2.1), ((sev_cells ((hz1.1).get 0 rfl)).2.2.2.2.1), ((sev_cells ((hz1.1).get 0 rfl)).2.2.2.2.2.1), ((sev_cells ((hz1.1).get 0 rfl)).2.2.2.2.2.2.1), hz1⟩ (fun hHeld => ?_)
  clear hK K
  refine norm_ (a' := ?_) ?_ ?_
  rotate_left
  · show Act.put _ (some 63) _ = _
    simp only [Act.put, List.setIfInBounds_toArray, List.set_cons_zero, List.set_cons_succ, i64_w, i32_w]
    rfl
  refine one_ (i := 7) (N := some 64) #[true, true, true, true, true, true, true, true, true, true, false, false, false] rfl rfl (by kernel_rfl) (by decide) (fun K hK => ?_)
  refine goes_ Tryz.func17 (by kernel_rfl) rfl #[.agg #[.int .i64 5, .int .i64 0, .string ⟨#[]⟩, .slice (some ⟨g, 0, none⟩) l.length cap, .slice none 0 0, .slice none 0 0]] (by rfl) rfl rfl (by simp only [List.map_toArray, List.map_cons, List.map_nil]; rfl) ?_
  with_reducible refine ((HSU2.out _ (SPN.bel hHeld.2.2.2.2.2.2.2))).mono ?_
  rintro e wz ⟨Q3, k3, Q4, k4, Q5, k5, rfl, hM, hb2⟩
  refine ⟨_, rfl, ?_⟩
  have hz2 := SPN.below hHeld.2.2.2.2.2.2.2 hb2
  have HGV : Hid (Calls Tryz.prog 18 #[.agg #[.int .i64 s.f0, .int .i64 s.f1, .string s.f2, .slice Q3 s.f3.length k3, .slice Q4 s.f4.length k4, .slice Q5 s.f5.length k5, .int .i64 0], .agg #[.int .i64 s.f0, .int .i64 s.f1, .string s.f2, .slice R3 s.f3.length r3, .slice R4 s.f4.length r4, .slice R5 s.f5.length r5]] wz fun e w' => e = .returned (.bool (cmpV s s == 0)) ∧ Below wz.heap.size wz w') := Lib.hid (given_any wz s s HWS.out HWS.out (k26.K_of_M hM) (k26.K_below (SPN.bel hz2) HKS.out) wz (Below.refl _ _))
  rw [show (cmpV s s == 0) = true by rw [cmpV_self]; rfl] at HGV
  clear hM
  refine hK.out _ _ ⟨((sev_cells ((hz2.1).get 0 rfl)).1), ((sev_cells ((hz2.1).get 0 rfl)).2.1), ((sev_cells ((hz2.1).get 0 rfl)).2.2.1), ((sev_cells ((hz2.1).get 0 rfl)).2.2.2.1), ((sev_cells ((hz2.1).get 0 rfl)).2.2.2.2.1), ((sev_cells ((hz2.1).get 0 rfl)).2.2.2.2.2.1), ((sev_cells ((hz2.1).get 0 rfl)).2.2.2.2.2.2.1), hz2⟩ (fun hHeld => ?_)
  clear hK K
  refine norm_ (a' := ?_) ?_ ?_
  rotate_left
  · show Act.put _ (some 64) _ = _
    simp only [Act.put, List.setIfInBounds_toArray, List.set_cons_zero, List.set_cons_succ, i64_w, i32_w]
    rfl
  refine one_ (i := 10) (N := some 67) #[true, true, true, true, true, true, true, true, true, true, true, false, false] rfl rfl (by kernel_rfl) (by decide) (fun K hK => ?_)
  refine goes_ Tryz.func18 (by kernel_rfl) rfl #[.agg #[.int .i64 s.f0, .int .i64 s.f1, .string s.f2, .slice Q3 s.f3.length k3, .slice Q4 s.f4.length k4, .slice Q5 s.f5.length k5, .int .i64 0], .agg #[.int .i64 s.f0, .int .i64 s.f1, .string s.f2, .slice R3 s.f3.length r3, .slice R4 s.f4.length r4, .slice R5 s.f5.length r5]] (by rfl) rfl rfl (by simp only [List.map_toArray, List.map_cons, List.map_nil]; rfl) ?_
  with_reducible refine (HGV.out).mono ?_
  rintro e wy ⟨rfl, hb3⟩
  refine ⟨_, rfl, ?_⟩
  have hz3 := SPN.below hHeld.2.2.2.2.2.2.2 hb3
  refine hK.out _ _ ⟨((sev_cells ((hz3.1).get 0 rfl)).1), ((sev_cells ((hz3.1).get 0 rfl)).2.1), ((sev_cells ((hz3.1).get 0 rfl)).2.2.1), ((sev_cells ((hz3.1).get 0 rfl)).2.2.2.1), ((sev_cells ((hz3.1).get 0 rfl)).2.2.2.2.1), ((sev_cells ((hz3.1).get 0 rfl)).2.2.2.2.2.1), ((sev_cells ((hz3.1).get 0 rfl)).2.2.2.2.2.2.1), hz3⟩ (fun hHeld => ?_)
  clear hK K
  refine norm_ (a' := ?_) ?_ ?_
  rotate_left
  · show Act.put _ (some 67) _ = _
    simp only [Act.put, List.setIfInBounds_toArray, List.set_cons_zero, List.set_cons_succ, i64_w, i32_w]
    rfl
  refine pure_ (i := 11) (N := some 68) (v := ?_) (a' := ?_) #[true, true, true, true, true, true, true, true, true, true, true, true, false] rfl rfl (by kernel_rfl) (fun _ _ _ h => h) (Or.inl ⟨by rfl, ?_⟩) ?_ ?_
  rotate_left
  · intro w'
    go_simp
    with_reducible rfl
  rotate_left
  · simp only [Act.put, List.setIfInBounds_toArray, List.set_cons_zero, List.set_cons_succ, i64_w, i32_w]
    rfl
  refine pure_ (i := 12) (N := some 6) (v := ?_) (a' := ?_) #[true, true, true, true, true, true, true, true, true, true, true, true, true] rfl rfl (by kernel_rfl) (fun _ _ _ h => h) (Or.inl ⟨by rfl, ?_⟩) ?_ ?_
  rotate_left
  · intro w'
    go_simp
    with_reducible rfl
  rotate_left
  · simp only [Act.put, List.setIfInBounds_toArray, List.set_cons_zero, List.set_cons_succ, i64_w, i32_w]
    rfl
  refine done_ (by kernel_rfl) ?_
  go_wp2_with fail
  go_ret
  exact ⟨rfl, H8.out.1.1.1.trans ((SPN.bel hz3).mono H8.out.1.1.1.size)⟩
end Go.Proofs.YtbnfeicpjmfooaaGreatDoor.ValA
