/-
FnAddLists: sums of arrays, of texts.
-/
import Derived.Test.YtdaiodiafahkkaaGreatDoorMJ
set_option linter.unusedSimpArgs false
set_option linter.unusedVariables false
namespace Go.Proofs.YtdaiodiafahkkaaGreatDoor.ValA
open Go.RowKit Go.Lib Go.Proofs.YtdaiodiafahkkaaGreatDoorW.PrintWords Go.Proofs.YtdaiodiafahkkaaGreatDoorW.PrintLast Go.Proofs.YtdaiodiafahkkaaGreatDoorW.PrintMore Go.Proofs.YtdaiodiafahkkaaGreatDoor.PzzFits1 Go.Proofs.YtdaiodiafahkkaaGreatDoor.NumA
attribute [local go_sem] run_val
set_option maxRecDepth 100000 in
set_option maxHeartbeats 20000000 in
theorem fnAddLists_4 (w0 : World) (hE : Env w0) (xa : V) (hza : Sz xa) (Ka Ha : Int) (sa : ByteArray) (A3a A4a A5a : Option Addr) (n3a c3a n4a c4a n5a c5a : Nat) (hKa : k26.K w0 xa [.int .i64 Ka, .int .i64 Ha, .string sa, .slice A3a n3a c3a, .slice A4a n4a c4a, .slice A5a n5a c5a]) (xb : V) (hzb : Sz xb) (Kb Hb : Int) (sb : ByteArray) (A3b A4b A5b : Option Addr) (n3b c3b n4b c4b n5b c5b : Nat) (hKb : k26.K w0 xb [.int .i64 Kb, .int .i64 Hb, .string sb, .slice A3b n3b c3b, .slice A4b n4b c4b, .slice A5b n5b c5b]) (xc : V) (hzc : Sz xc) (Kc Hc : Int) (sc : ByteArray) (A3c A4c A5c : Option Addr) (n3c c3c n4c c4c n5c c5c : Nat) (hKc : k26.K w0 xc [.int .i64 Kc, .int .i64 Hc, .string sc, .slice A3c n3c c3c, .slice A4c n4c c4c, .slice A5c n5c c5c]) (hk : xa.f0 = 4) :
    Calls Tryz.prog 3 #[.agg #[.int .i64 Ka, .int .i64 Ha, .string sa, .slice A3a n3a c3a, .slice A4a n4a c4a, .slice A5a n5a c5a], .agg #[.int .i64 Kb, .int .i64 Hb, .string sb, .slice A3b n3b c3b, .slice A4b n4b c4b, .slice A5b n5b c5b], .agg #[.int .i64 Kc, .int .i64 Hc, .string sc, .slice A3c n3c c3c, .slice A4c n4c c4c, .slice A5c n5c c5c]] w0 fun e w' => e = .returned (.bool true) ∧ Below w0.heap.size w0 w' := by
  have HKX := Lib.hid hk
  clear hk
  obtain ⟨w, hw⟩ : ∃ w, w = w0 := ⟨_, rfl⟩
  obtain ⟨B3, e3, B4, e4, B5, e5, he, l3, g3, l4, g4, l5, g5⟩ := k26_open hKa
  simp only [List.cons.injEq, Value.int.injEq, Value.string.injEq, Value.slice.injEq, true_and, and_true] at he
  obtain ⟨rfl, rfl, rfl, ⟨rfl, rfl, rfl⟩, ⟨rfl, rfl, rfl⟩, ⟨rfl, rfl, rfl⟩⟩ := he
  clear l3 g3 l4 g4 l5 g5
  obtain ⟨B3, e3, B4, e4, B5, e5, he, l3, g3, l4, g4, l5, g5⟩ := k26_open hKb
  simp only [List.cons.injEq, Value.int.injEq, Value.string.injEq, Value.slice.injEq, true_and, and_true] at he
  obtain ⟨rfl, rfl, rfl, ⟨rfl, rfl, rfl⟩, ⟨rfl, rfl, rfl⟩, ⟨rfl, rfl, rfl⟩⟩ := he
  clear l3 g3 l4 g4 l5 g5
  obtain ⟨B3, e3, B4, e4, B5, e5, he, l3, g3, l4, g4, l5, g5⟩ := k26_open hKc
  simp only [List.cons.injEq, Value.int.injEq, Value.string.injEq, Value.slice.injEq, true_and, and_true] at he
  obtain ⟨rfl, rfl, rfl, ⟨rfl, rfl, rfl⟩, ⟨rfl, rfl, rfl⟩, ⟨rfl, rfl, rfl⟩⟩ := he
  clear l3 g3 l4 g4 l5 g5
  have HFa := Lib.hid (fun w1 hb => fits1_size w0 xa xa.f0 xa.f1 xa.f2 A3a A4a A5a xa.f3.length c3a xa.f4.length c4a xa.f5.length c5a hKa w1 hb)
  have HTa := Lib.hid (fun h => toGo_any w0 _ xa (Nat.lt_succ_self _) hza h _ hKa)
  have HFb := Lib.hid (fun w1 hb => fits1_size w0 xb xb.f0 xb.f1 xb.f2 A3b A4b A5b xb.f3.length c3b xb.f4.length c4b xb.f5.length c5b hKb w1 hb)
  have HTb := Lib.hid (fun h => toGo_any w0 _ xb (Nat.lt_succ_self _) hzb h _ hKb)
  have HFc := Lib.hid (fun w1 hb => fits1_size w0 xc xc.f0 xc.f1 xc.f2 A3c A4c A5c xc.f3.length c3c xc.f4.length c4c xc.f5.length c5c hKc w1 hb)
  have HTc := Lib.hid (fun h => toGo_any w0 _ xc (Nat.lt_succ_self _) hzc h _ hKc)
  have HFI := Lib.hid (fun w1 hb => fit_two w0 hE xa hza xa.f0 xa.f1 xa.f2 A3a A4a A5a xa.f3.length c3a xa.f4.length c4a xa.f5.length c5a hKa xb hzb xb.f0 xb.f1 xb.f2 A3b A4b A5b xb.f3.length c3b xb.f4.length c4b xb.f5.length c5b hKb w1 hb)
  have HFC := Lib.hid (fun w1 hb => fit_any w0 hE xc hzc xc.f0 xc.f1 xc.f2 A3c A4c A5c xc.f3.length c3c xc.f4.length c4c xc.f5.length c5c hKc w1 hb)
  have HSZ := Lib.hid (And.intro hza (And.intro hzb hzc))
  clear hE hza hKa hzb hKb hzc hKc
  subst hw
  go_enter Tryz.func3, Tryz.ntmps3
  go_wp2_with fail
  obtain ⟨A, hA⟩ : ∃ A, A = w.heap.size := ⟨_, rfl⟩
  obtain ⟨B, hB⟩ : ∃ B, B = w.heap.size + 1 := ⟨_, rfl⟩
  obtain ⟨C, hC⟩ : ∃ C, C = w.heap.size + 1 + 1 := ⟨_, rfl⟩
  obtain ⟨W0, hW0⟩ : ∃ W0, W0 = ((w.alloc (.cells #[.int .i64 xa.f0, .int .i64 xa.f1, .string xa.f2, .slice A3a xa.f3.length c3a, .slice A4a xa.f4.length c4a, .slice A5a xa.f5.length c5a] 26)).alloc (.cells #[.int .i64 xb.f0, .int .i64 xb.f1, .string xb.f2, .slice A3b xb.f3.length c3b, .slice A4b xb.f4.length c4b, .slice A5b xb.f5.length c5b] 26)).alloc (.cells #[.int .i64 xc.f0, .int .i64 xc.f1, .string xc.f2, .slice A3c xc.f3.length c3c, .slice A4c xc.f4.length c4c, .slice A5c xc.f5.length c5c] 26) := ⟨_, rfl⟩
  have hd0 : A ≠ B ∧ A ≠ C ∧ B ≠ C ∧ w.heap.size ≤ A ∧ w.heap.size ≤ B ∧ w.heap.size ≤ C := by omega
  have h0 : SPL w [(A, #[.int .i64 xa.f0, .int .i64 xa.f1, .string xa.f2, .slice A3a xa.f3.length c3a, .slice A4a xa.f4.length c4a, .slice A5a xa.f5.length c5a], 26), (B, #[.int .i64 xb.f0, .int .i64 xb.f1, .string xb.f2, .slice A3b xb.f3.length c3b, .slice A4b xb.f4.length c4b, .slice A5b xb.f5.length c5b], 26), (C, #[.int .i64 xc.f0, .int .i64 xc.f1, .string xc.f2, .slice A3c xc.f3.length c3c, .slice A4c xc.f4.length c4c, .slice A5c xc.f5.length c5c], 26)] W0 := by rw [hA, hB, hC, hW0]; exact SPL.three w _ _ _ _ _ _
  rw [← hW0, ← hC, ← hB, ← hA]
  have H0 := Lib.hid h0
  have HD := Lib.hid hd0
  clear h0 hW0 hA hB hC hd0
  have y := six_cells (H0.out.get 0 rfl)
  go_wp2_with fail
  refine (HFa.out W0 H0.out.1).mono ?_
  rintro e w1 ⟨r, rfl, hr, hb⟩
  have H1 := Lib.hid (H0.out.below hb)
  clear hb H0 y HFa
  cases r with
  | false =>
    go_wp2_with fail
    go_ret
    exact ⟨rfl, H1.out.1⟩
  | true =>
  have SZa := Lib.hid (hr (by trivial))
  clear hr
  have y := six_cells (H1.out.get 1 rfl)
  go_wp2_with fail
  refine (HFb.out w1 H1.out.1).mono ?_
  rintro e w2 ⟨r, rfl, hr, hb⟩
  have H2 := Lib.hid (H1.out.below hb)
  clear hb H1 y HFb
  cases r with
  | false =>
    go_wp2_with fail
    go_ret
    exact ⟨rfl, H2.out.1⟩
  | true =>
  have SZb := Lib.hid (hr (by trivial))
  clear hr
  have y := six_cells (H2.out.get 2 rfl)
  go_wp2_with fail
  refine (HFc.out w2 H2.out.1).mono ?_
  rintro e w3 ⟨r, rfl, hr, hb⟩
  have H3 := Lib.hid (H2.out.below hb)
  clear hb H2 y HFc
  cases r with
  | false =>
    go_wp2_with fail
    go_ret
    exact ⟨rfl, H3.out.1⟩
  | true =>
  have SZc := Lib.hid (hr (by trivial))
  clear hr
  have ya := six_cells (H3.out.get 0 rfl)
  have yb := six_cells (H3.out.get 1 rfl)
  go_wp2_with fail
  refine (HFI.out w3 H3.out.1).mono ?_
  rintro e w4 ⟨r, rfl, hr, hb⟩
  have H4 := Lib.hid (H3.out.below hb)
  clear hb H3 ya yb HFI
  cases r with
  | false =>
    go_wp2_with fail
    go_ret
    exact ⟨rfl, H4.out.1⟩
  | true =>
  have HW := Lib.hid (hr (by trivial))
  clear hr
  have yc := six_cells (H4.out.get 2 rfl)
  go_wp2_with fail
  refine (HFC.out w4 H4.out.1).mono ?_
  rintro e w5 ⟨r, rfl, hr, hb⟩
  have H5 := Lib.hid (H4.out.below hb)
  clear hb H4 yc HFC
  cases r with
  | false =>
    go_wp2_with fail
    go_ret
    exact ⟨rfl, H5.out.1⟩
  | true =>
  have HWC := Lib.hid (hr (by trivial))
  clear hr
  have ya := six_cells (H5.out.get 0 rfl)
  have yb := six_cells (H5.out.get 1 rfl)
  have yc := six_cells (H5.out.get 2 rfl)
  by_cases k1 : xa.f0 = xb.f0
  case neg =>
    have q1 : (xa.f0 != xb.f0) = true := by simpa using k1
    clear k1
    go_wp2_with fail
    go_ret
    exact ⟨rfl, H5.out.1⟩
  have q1 : (xa.f0 != xb.f0) = false := by simpa using k1
  by_cases k2 : xb.f0 = xc.f0
  case neg =>
    have q2 : (xb.f0 != xc.f0) = true := by simpa using k2
    clear k1 k2
    go_wp2_with fail
    go_ret
    exact ⟨rfl, H5.out.1⟩
  have q2 : (xb.f0 != xc.f0) = false := by simpa using k2
  have k3 : xa.f0 = 4 ∨ xa.f0 = 5 := Or.inl HKX.out
  have HW1 := Lib.hid (loose HW.out.1)
  have HW2 := Lib.hid (loose HW.out.2)
  have HW3 := Lib.hid (loose HWC.out)
  have HN : Hid (xa.f3.length ≤ 400 ∧ xb.f3.length ≤ 400 ∧ xc.f3.length ≤ 400) := Lib.hid ⟨wf_n3 HW.out.1, wf_n3 HW.out.2, wf_n3 HWC.out⟩
  have HKK := Lib.hid (And.intro k1 (And.intro k2 k3))
  obtain ⟨ja, jb, jp, jq, HJ⟩ : ∃ ja jb jp jq : V, Hid (ja = joinV xa xb ∧ jb = joinV xb xc ∧ jp = joinV ja xc ∧ jq = joinV xa jb) := ⟨_, _, _, _, Lib.hid ⟨rfl, rfl, rfl, rfl⟩⟩
  have HWJ : Hid (WL ja ∧ WL jb) := Lib.hid ⟨by rw [HJ.out.1]; exact wl_joinV HW1.out HW2.out (by have := HN.out; omega), by rw [HJ.out.2.1]; exact wl_joinV HW2.out HW3.out (by have := HN.out; omega)⟩
  have HZJ : Hid (Sz ja ∧ Sz jb) := Lib.hid ⟨by rw [HJ.out.1]; exact sz_joinV HSZ.out.1 HSZ.out.2.1 (by have := SZa.out; have := SZb.out; omega), by rw [HJ.out.2.1]; exact sz_joinV HSZ.out.2.1 HSZ.out.2.2 (by have := SZb.out; have := SZc.out; omega)⟩
  have HJF : Hid (ja.f0 = xa.f0 ∧ jb.f0 = xb.f0 ∧ ja.f3.length = xa.f3.length + xb.f3.length ∧ jb.f3.length = xb.f3.length + xc.f3.length ∧ ja.f2.size = xa.f2.size + xb.f2.size ∧ jb.f2.size = xb.f2.size + xc.f2.size) := by
    refine Lib.hid ?_
    rw [HJ.out.1, HJ.out.2.1]
    exact ⟨joinV_f0 k3, joinV_f0 (by omega), joinV_f3 HW1.out HW2.out k1 k3, joinV_f3 HW2.out HW3.out k2 (by omega), joinV_f2 HW1.out HW2.out k1 k3, joinV_f2 HW2.out HW3.out k2 (by omega)⟩
  have HEQ : Hid (jp = jq) := Lib.hid (by rw [HJ.out.2.2.1, HJ.out.2.2.2, HJ.out.1, HJ.out.2.1]; exact joinV_assoc xa xb xc k1 k3)
  have HAB := Lib.hid (fun L rs w1 (h : SPR w L rs w1) => opAdd_joinE HJ.out.1 w (HTa.out HW1.out) (HTb.out HW2.out) HW1.out HW2.out HSZ.out.1 HSZ.out.2.1 HKK.out.1 HKK.out.2.2 (by have := HN.out; omega) (by have := SZa.out; have := SZb.out; omega) h h.bel)
  have HBC := Lib.hid (fun L rs w1 (h : SPR w L rs w1) => opAdd_joinE HJ.out.2.1 w (HTb.out HW2.out) (HTc.out HW3.out) HW2.out HW3.out HSZ.out.2.1 HSZ.out.2.2 HKK.out.2.1 (by have := HKK.out; omega) (by have := HN.out; omega) (by have := SZb.out; have := SZc.out; omega) h h.bel)
  have HZ : Hid (SPR w [(A, cv xa A3a c3a A4a c4a A5a c5a, 26), (B, cv xb A3b c3b A4b c4b A5b c5b, 26), (C, cv xc A3c c3c A4c c4c A5c c5c, 26)] [] w5) := Lib.hid (SPR.start ⟨H5.out, by have := HD.out; simp [this.1, this.2.1, this.2.2.1], by have := HD.out; intro p hp; simp at hp; rcases hp with rfl | rfl | rfl <;> simp [this]⟩)
  have HLEN0 : ((ja.f3.length : Int) == wrap64 ((xa.f3.length : Int) + (xb.f3.length : Int))) = true ∧ ((ja.f2.size : Int) == wrap64 ((xa.f2.size : Int) + (xb.f2.size : Int))) = true := by have h1 := HJF.out; have h2 := HN.out; have h3 := SZa.out; have h4 := SZb.out; simp only [beq_iff_eq]; unfold wrap64; omega
  have HLEN := Lib.hid HLEN0
  clear HLEN0 H5 HD k1 k2
  have q3 : (xa.f0 != 5) = true := by have := HKX.out; simp; omega
  have q4 : (xa.f0 != 4) = false := by have := HKX.out; simp; omega
  clear k3
  go_wp2_with fail
  have HS5 : ∀ w', SPR w [(A, cv xa A3a c3a A4a c4a A5a c5a, 26), (B, cv xb A3b c3b A4b c4b A5b c5b, 26), (C, cv xc A3c c3c A4c c4c A5c c5c, 26)] [] w' → w'.cell? ⟨A, 0, none⟩ = some (.int .i64 xa.f0) ∧ w'.cell? ⟨A, 1, none⟩ = some (.int .i64 xa.f1) ∧ w'.cell? ⟨A, 2, none⟩ = some (.string xa.f2) ∧ w'.cell? ⟨A, 3, none⟩ = some (.slice A3a xa.f3.length c3a) ∧ w'.cell? ⟨A, 4, none⟩ = some (.slice A4a xa.f4.length c4a) ∧ w'.cell? ⟨A, 5, none⟩ = some (.slice A5a xa.f5.length c5a) ∧ w'.cell? ⟨B, 0, none⟩ = some (.int .i64 xb.f0) ∧ w'.cell? ⟨B, 1, none⟩ = some (.int .i64 xb.f1) ∧ w'.cell? ⟨B, 2, none⟩ = some (.string xb.f2) ∧ w'.cell? ⟨B, 3, none⟩ = some (.slice A3b xb.f3.length c3b) ∧ w'.cell? ⟨B, 4, none⟩ = some (.slice A4b xb.f4.length c4b) ∧ w'.cell? ⟨B, 5, none⟩ = some (.slice A5b xb.f5.length c5b) ∧ w'.cell? ⟨C, 0, none⟩ = some (.int .i64 xc.f0) ∧ w'.cell? ⟨C, 1, none⟩ = some (.int .i64 xc.f1) ∧ w'.cell? ⟨C, 2, none⟩ = some (.string xc.f2) ∧ w'.cell? ⟨C, 3, none⟩ = some (.slice A3c xc.f3.length c3c) ∧ w'.cell? ⟨C, 4, none⟩ = some (.slice A4c xc.f4.length c4c) ∧ w'.cell? ⟨C, 5, none⟩ = some (.slice A5c xc.f5.length c5c) ∧ SPR w [(A, cv xa A3a c3a A4a c4a A5a c5a, 26), (B, cv xb A3b c3b A4b c4b A5b c5b, 26), (C, cv xc A3c c3c A4c c4c A5c c5c, 26)] [] w' := fun w' h => ⟨((six_cells (h.get 0 rfl)).1), ((six_cells (h.get 0 rfl)).2.1), ((six_cells (h.get 0 rfl)).2.2.1), ((six_cells (h.get 0 rfl)).2.2.2.1), ((six_cells (h.get 0 rfl)).2.2.2.2.1), ((six_cells (h.get 0 rfl)).2.2.2.2.2.1), ((six_cells (h.get 1 rfl)).1), ((six_cells (h.get 1 rfl)).2.1), ((six_cells (h.get 1 rfl)).2.2.1), ((six_cells (h.get 1 rfl)).2.2.2.1), ((six_cells (h.get 1 rfl)).2.2.2.2.1), ((six_cells (h.get 1 rfl)).2.2.2.2.2.1), ((six_cells (h.get 2 rfl)).1), ((six_cells (h.get 2 rfl)).2.1), ((six_cells (h.get 2 rfl)).2.2.1), ((six_cells (h.get 2 rfl)).2.2.2.1), ((six_cells (h.get 2 rfl)).2.2.2.2.1), ((six_cells (h.get 2 rfl)).2.2.2.2.2.1), h⟩
  refine start_ (n := 10) (S := fun w' => w'.cell? ⟨A, 0, none⟩ = some (.int .i64 xa.f0) ∧ w'.cell? ⟨A, 1, none⟩ = some (.int .i64 xa.f1) ∧ w'.cell? ⟨A, 2, none⟩ = some (.string xa.f2) ∧ w'.cell? ⟨A, 3, none⟩ = some (.slice A3a xa.f3.length c3a) ∧ w'.cell? ⟨A, 4, none⟩ = some (.slice A4a xa.f4.length c4a) ∧ w'.cell? ⟨A, 5, none⟩ = some (.slice A5a xa.f5.length c5a) ∧ w'.cell? ⟨B, 0, none⟩ = some (.int .i64 xb.f0) ∧ w'.cell? ⟨B, 1, none⟩ = some (.int .i64 xb.f1) ∧ w'.cell? ⟨B, 2, none⟩ = some (.string xb.f2) ∧ w'.cell? ⟨B, 3, none⟩ = some (.slice A3b xb.f3.length c3b) ∧ w'.cell? ⟨B, 4, none⟩ = some (.slice A4b xb.f4.length c4b) ∧ w'.cell? ⟨B, 5, none⟩ = some (.slice A5b xb.f5.length c5b) ∧ w'.cell? ⟨C, 0, none⟩ = some (.int .i64 xc.f0) ∧ w'.cell? ⟨C, 1, none⟩ = some (.int .i64 xc.f1) ∧ w'.cell? ⟨C, 2, none⟩ = some (.string xc.f2) ∧ w'.cell? ⟨C, 3, none⟩ = some (.slice A3c xc.f3.length c3c) ∧ w'.cell? ⟨C, 4, none⟩ = some (.slice A4c xc.f4.length c4c) ∧ w'.cell? ⟨C, 5, none⟩ = some (.slice A5c xc.f5.length c5c) ∧ SPR w [(A, cv xa A3a c3a A4a c4a A5a c5a, 26), (B, cv xb A3b c3b A4b c4b A5b c5b, 26), (C, cv xc A3c c3c A4c c4c A5c c5c, 26)] [] w') (ds := []) #[false, false, false, false, false, false, false, false, false, false] (by kernel_rfl) rfl rfl (HS5 _ (SPR.drew HZ.out)) (fun hHeld => ?_)
  refine take_ (i := 0) (N := some 57) (v := ?_) (a' := ?_) #[true, false, false, false, false, false, false, false, false, false] rfl rfl (by kernel_rfl) (fun _ _ _ h => h) (Or.inl ⟨by rfl, ?_⟩) hHeld ?_ ?_
  rotate_left
  · rintro w' ⟨s0, s1, s2, s3, s4, s5, s6, s7, s8, s9, s10, s11, s12, s13, s14, s15, s16, s17, s18⟩
    go_simp
    with_reducible rfl
  rotate_left
  · simp only [Act.put, List.setIfInBounds_toArray, List.set_cons_zero, List.set_cons_succ, i64_w, i32_w]
    rfl
  refine take_ (i := 1) (N := some 58) (v := ?_) (a' := ?_) #[true, true, false, false, false, false, false, false, false, false] rfl rfl (by kernel_rfl) (fun _ _ _ h => h) (Or.inl ⟨by rfl, ?_⟩) hHeld ?_ ?_
  rotate_left
  · rintro w' ⟨s0, s1, s2, s3, s4, s5, s6, s7, s8, s9, s10, s11, s12, s13, s14, s15, s16, s17, s18⟩
    go_simp
    with_reducible rfl
  rotate_left
  · simp only [Act.put, List.setIfInBounds_toArray, List.set_cons_zero, List.set_cons_succ, i64_w, i32_w]
    rfl
  refine take_ (i := 3) (N := some 60) (v := ?_) (a' := ?_) #[true, true, false, true, false, false, false, false, false, false] rfl rfl (by kernel_rfl) (fun _ _ _ h => h) (Or.inl ⟨by rfl, ?_⟩) hHeld ?_ ?_
  rotate_left
  · rintro w' ⟨s0, s1, s2, s3, s4, s5, s6, s7, s8, s9, s10, s11, s12, s13, s14, s15, s16, s17, s18⟩
    go_simp
    with_reducible rfl
  rotate_left
  · simp only [Act.put, List.setIfInBounds_toArray, List.set_cons_zero, List.set_cons_succ, i64_w, i32_w]
    rfl
  refine take_ (i := 4) (N := some 61) (v := ?_) (a' := ?_) #[true, true, false, true, true, false, false, false, false, false] rfl rfl (by kernel_rfl) (fun _ _ _ h => h) (Or.inl ⟨by rfl, ?_⟩) hHeld ?_ ?_
  rotate_left
  · rintro w' ⟨s0, s1, s2, s3, s4, s5, s6, s7, s8, s9, s10, s11, s12, s13, s14, s15, s16, s17, s18⟩
    go_simp
    with_reducible rfl
  rotate_left
  · simp only [Act.put, List.setIfInBounds_toArray, List.set_cons_zero, List.set_cons_succ, i64_w, i32_w]
    rfl
  refine join_ (σ := Nat × Nat × Array Value × Array Value) 2 #[true, true, true, true, true, true, true, true, false, false] (fun s => [(59, .agg s.2.2.1), (62, .agg s.2.2.2), (7, .pointer (some ⟨s.1, 0, none⟩)), (8, .pointer (some ⟨s.2.1, 0, none⟩))]) (fun s w' => SPR w [(A, cv xa A3a c3a A4a c4a A5a c5a, 26), (B, cv xb A3b c3b A4b c4b A5b c5b, 26), (C, cv xc A3c c3c A4c c4c A5c c5c, 26), (s.1, z7, 30), (s.2.1, z7, 30)] [(ja, s.2.2.1), (jb, s.2.2.2)] w') ?_ ?_
  rotate_left
  · intro hCont
    refine three_ (i := 2) (j := 6) (k := 7) (Ni := some 59) (Nj := some 7) (Nk := some 8) #[true, true, true, true, true, false, false, false, false, false] #[true, true, false, true, true, false, true, false, false, false] #[true, true, false, true, true, false, false, true, false, false] rfl rfl rfl rfl rfl rfl (by kernel_rfl) (by decide) (by decide) (by decide) (fun K hK => ?_) (fun K hK => ?_) (fun K hK => ?_)
    · skip
      refine goes_ Tryz.func18 (by kernel_rfl) rfl #[.agg #[.int .i64 xa.f0, .int .i64 xa.f1, .string xa.f2, .slice A3a xa.f3.length c3a, .slice A4a xa.f4.length c4a, .slice A5a xa.f5.length c5a], .agg #[.int .i64 xb.f0, .int .i64 xb.f1, .string xb.f2, .slice A3b xb.f3.length c3b, .slice A4b xb.f4.length c4b, .slice A5b xb.f5.length c5b]] (by rfl) rfl rfl (by simp only [List.map_toArray, List.map_cons, List.map_nil]; rfl) ?_
      with_reducible refine ((HAB.out _ _ _ (hHeld.2.2.2.2.2.2.2.2.2.2.2.2.2.2.2.2.2.2))).mono ?_
      rintro e w61 ⟨u2, rfl, hz1⟩
      refine ⟨_, rfl, ?_⟩
      refine hK.out _ _ (HS5 _ (SPR.pre3 hz1)) (fun hHeld => ?_)
      clear hK K
      refine norm_ (a' := ?_) ?_ ?_
      rotate_left
      · show Act.put _ (some 59) _ = _
        simp only [Act.put, List.setIfInBounds_toArray, List.set_cons_zero, List.set_cons_succ, i64_w, i32_w]
        rfl
      refine three_ (i := 5) (j := 6) (k := 7) (Ni := some 62) (Nj := some 7) (Nk := some 8) #[true, true, true, true, true, true, false, false, false, false] #[true, true, true, true, true, false, true, false, false, false] #[true, true, true, true, true, false, false, true, false, false] rfl rfl rfl rfl rfl rfl (by kernel_rfl) (by decide) (by decide) (by decide) (fun K hK => ?_) (fun K hK => ?_) (fun K hK => ?_)
      · skip
        refine goes_ Tryz.func18 (by kernel_rfl) rfl #[.agg #[.int .i64 xb.f0, .int .i64 xb.f1, .string xb.f2, .slice A3b xb.f3.length c3b, .slice A4b xb.f4.length c4b, .slice A5b xb.f5.length c5b], .agg #[.int .i64 xc.f0, .int .i64 xc.f1, .string xc.f2, .slice A3c xc.f3.length c3c, .slice A4c xc.f4.length c4c, .slice A5c xc.f5.length c5c]] (by rfl) rfl rfl (by simp only [List.map_toArray, List.map_cons, List.map_nil]; rfl) ?_
        with_reducible refine ((HBC.out _ _ _ (hz1))).mono ?_
        rintro e w62 ⟨u5, rfl, hz2⟩
        refine ⟨_, rfl, ?_⟩
        refine hK.out _ _ (HS5 _ (SPR.pre3 hz2)) (fun hHeld => ?_)
        clear hK K
        refine norm_ (a' := ?_) ?_ ?_
        rotate_left
        · show Act.put _ (some 62) _ = _
          simp only [Act.put, List.setIfInBounds_toArray, List.set_cons_zero, List.set_cons_succ, i64_w, i32_w]
          rfl
        refine two_ (i := 6) (j := 7) (Ni := some 7) (Nj := some 8) #[true, true, true, true, true, true, true, false, false, false] #[true, true, true, true, true, true, false, true, false, false] rfl rfl rfl rfl (by kernel_rfl) (by decide) (by decide) (fun K hK => ?_) (fun K hK => ?_)
        · skip
          refine freshR_ (c := #[.int .i64 0, .int .i64 0, .string ⟨#[]⟩, .slice none 0 0, .slice none 0 0, .slice none 0 0, .int .i64 0]) (t := 30) (hz2) (by rfl) rfl ?_ ?_
          · first | (go_simp; done) | (go_simp; rfl)
          intro R6 w63 hz3
          refine hK.out _ _ (HS5 _ (SPR.pre3 hz3)) (fun hHeld => ?_)
          clear hK K
          refine norm_ (a' := ?_) ?_ ?_
          rotate_left
          · show Act.put _ (some 7) _ = _
            simp only [Act.put, List.setIfInBounds_toArray, List.set_cons_zero, List.set_cons_succ, i64_w, i32_w]
            rfl
          refine one_ (i := 7) (N := some 8) #[true, true, true, true, true, true, true, true, false, false] rfl rfl (by kernel_rfl) (by decide) (fun K hK => ?_)
          refine freshR_ (c := #[.int .i64 0, .int .i64 0, .string ⟨#[]⟩, .slice none 0 0, .slice none 0 0, .slice none 0 0, .int .i64 0]) (t := 30) (hz3) (by rfl) rfl ?_ ?_
          · first | (go_simp; done) | (go_simp; rfl)
          intro R7 w64 hz4
          refine hK.out _ _ (HS5 _ (SPR.pre3 hz4)) (fun hHeld => ?_)
          clear hK K
          refine norm_ (a' := ?_) ?_ ?_
          rotate_left
          · show Act.put _ (some 8) _ = _
            simp only [Act.put, List.setIfInBounds_toArray, List.set_cons_zero, List.set_cons_succ, i64_w, i32_w]
            rfl
          exact norm_ (by first | (simp only [putAll, Act.put, List.setIfInBounds_toArray, List.set_cons_zero, List.set_cons_succ]; done) | (simp only [putAll, Act.put, List.setIfInBounds_toArray, List.set_cons_zero, List.set_cons_succ, World.size_alloc]; done) | (simp only [putAll, Act.put, List.setIfInBounds_toArray, List.set_cons_zero, List.set_cons_succ, World.size_alloc]; rfl)) (hCont (R6, R7, u2, u5) _ hz4)
        · skip
          refine freshR_ (c := #[.int .i64 0, .int .i64 0, .string ⟨#[]⟩, .slice none 0 0, .slice none 0 0, .slice none 0 0, .int .i64 0]) (t := 30) (hz2) (by rfl) rfl ?_ ?_
          · first | (go_simp; done) | (go_simp; rfl)
          intro R7 w63 hz3
          refine hK.out _ _ (HS5 _ (SPR.pre3 hz3)) (fun hHeld => ?_)
          clear hK K
          refine norm_ (a' := ?_) ?_ ?_
          rotate_left
          · show Act.put _ (some 8) _ = _
            simp only [Act.put, List.setIfInBounds_toArray, List.set_cons_zero, List.set_cons_succ, i64_w, i32_w]
            rfl
          refine one_ (i := 6) (N := some 7) #[true, true, true, true, true, true, true, true, false, false] rfl rfl (by kernel_rfl) (by decide) (fun K hK => ?_)
          refine freshR_ (c := #[.int .i64 0, .int .i64 0, .string ⟨#[]⟩, .slice none 0 0, .slice none 0 0, .slice none 0 0, .int .i64 0]) (t := 30) (hz3) (by rfl) rfl ?_ ?_
          · first | (go_simp; done) | (go_simp; rfl)
          intro R6 w64 hz4
          refine hK.out _ _ (HS5 _ (SPR.pre3 hz4)) (fun hHeld => ?_)
          clear hK K
          refine norm_ (a' := ?_) ?_ ?_
          rotate_left
          · show Act.put _ (some 7) _ = _
            simp only [Act.put, List.setIfInBounds_toArray, List.set_cons_zero, List.set_cons_succ, i64_w, i32_w]
            rfl
          exact norm_ (by first | (simp only [putAll, Act.put, List.setIfInBounds_toArray, List.set_cons_zero, List.set_cons_succ]; done) | (simp only [putAll, Act.put, List.setIfInBounds_toArray, List.set_cons_zero, List.set_cons_succ, World.size_alloc]; done) | (simp only [putAll, Act.put, List.setIfInBounds_toArray, List.set_cons_zero, List.set_cons_succ, World.size_alloc]; rfl)) (hCont (R6, R7, u2, u5) _ (SPR.swap hz4))
      · skip
        refine freshR_ (c := #[.int .i64 0, .int .i64 0, .string ⟨#[]⟩, .slice none 0 0, .slice none 0 0, .slice none 0 0, .int .i64 0]) (t := 30) (hz1) (by rfl) rfl ?_ ?_
        · first | (go_simp; done) | (go_simp; rfl)
        intro R6 w62 hz2
        refine hK.out _ _ (HS5 _ (SPR.pre3 hz2)) (fun hHeld => ?_)
        clear hK K
        refine norm_ (a' := ?_) ?_ ?_
        rotate_left
        · show Act.put _ (some 7) _ = _
          simp only [Act.put, List.setIfInBounds_toArray, List.set_cons_zero, List.set_cons_succ, i64_w, i32_w]
          rfl
        refine two_ (i := 5) (j := 7) (Ni := some 62) (Nj := some 8) #[true, true, true, true, true, true, true, false, false, false] #[true, true, true, true, true, false, true, true, false, false] rfl rfl rfl rfl (by kernel_rfl) (by decide) (by decide) (fun K hK => ?_) (fun K hK => ?_)
        · skip
          refine goes_ Tryz.func18 (by kernel_rfl) rfl #[.agg #[.int .i64 xb.f0, .int .i64 xb.f1, .string xb.f2, .slice A3b xb.f3.length c3b, .slice A4b xb.f4.length c4b, .slice A5b xb.f5.length c5b], .agg #[.int .i64 xc.f0, .int .i64 xc.f1, .string xc.f2, .slice A3c xc.f3.length c3c, .slice A4c xc.f4.length c4c, .slice A5c xc.f5.length c5c]] (by rfl) rfl rfl (by simp only [List.map_toArray, List.map_cons, List.map_nil]; rfl) ?_
          with_reducible refine ((HBC.out _ _ _ (hz2))).mono ?_
          rintro e w63 ⟨u5, rfl, hz3⟩
          refine ⟨_, rfl, ?_⟩
          refine hK.out _ _ (HS5 _ (SPR.pre3 hz3)) (fun hHeld => ?_)
          clear hK K
          refine norm_ (a' := ?_) ?_ ?_
          rotate_left
          · show Act.put _ (some 62) _ = _
            simp only [Act.put, List.setIfInBounds_toArray, List.set_cons_zero, List.set_cons_succ, i64_w, i32_w]
            rfl
          refine one_ (i := 7) (N := some 8) #[true, true, true, true, true, true, true, true, false, false] rfl rfl (by kernel_rfl) (by decide) (fun K hK => ?_)
          refine freshR_ (c := #[.int .i64 0, .int .i64 0, .string ⟨#[]⟩, .slice none 0 0, .slice none 0 0, .slice none 0 0, .int .i64 0]) (t := 30) (hz3) (by rfl) rfl ?_ ?_
          · first | (go_simp; done) | (go_simp; rfl)
          intro R7 w64 hz4
          refine hK.out _ _ (HS5 _ (SPR.pre3 hz4)) (fun hHeld => ?_)
          clear hK K
          refine norm_ (a' := ?_) ?_ ?_
          rotate_left
          · show Act.put _ (some 8) _ = _
            simp only [Act.put, List.setIfInBounds_toArray, List.set_cons_zero, List.set_cons_succ, i64_w, i32_w]
            rfl
          exact norm_ (by first | (simp only [putAll, Act.put, List.setIfInBounds_toArray, List.set_cons_zero, List.set_cons_succ]; done) | (simp only [putAll, Act.put, List.setIfInBounds_toArray, List.set_cons_zero, List.set_cons_succ, World.size_alloc]; done) | (simp only [putAll, Act.put, List.setIfInBounds_toArray, List.set_cons_zero, List.set_cons_succ, World.size_alloc]; rfl)) (hCont (R6, R7, u2, u5) _ hz4)
        · skip
          refine freshR_ (c := #[.int .i64 0, .int .i64 0, .string ⟨#[]⟩, .slice none 0 0, .slice none 0 0, .slice none 0 0, .int .i64 0]) (t := 30) (hz2) (by rfl) rfl ?_ ?_
          · first | (go_simp; done) | (go_simp; rfl)
          intro R7 w63 hz3
          refine hK.out _ _ (HS5 _ (SPR.pre3 hz3)) (fun hHeld => ?_)
          clear hK K
          refine norm_ (a' := ?_) ?_ ?_
          rotate_left
          · show Act.put _ (some 8) _ = _
            simp only [Act.put, List.setIfInBounds_toArray, List.set_cons_zero, List.set_cons_succ, i64_w, i32_w]
            rfl
          refine one_ (i := 5) (N := some 62) #[true, true, true, true, true, true, true, true, false, false] rfl rfl (by kernel_rfl) (by decide) (fun K hK => ?_)
          refine goes_ Tryz.func18 (by kernel_rfl) rfl #[.agg #[.int .i64 xb.f0, .int .i64 xb.f1, .string xb.f2, .slice A3b xb.f3.length c3b, .slice A4b xb.f4.length c4b, .slice A5b xb.f5.length c5b], .agg #[.int .i64 xc.f0, .int .i64 xc.f1, .string xc.f2, .slice A3c xc.f3.length c3c, .slice A4c xc.f4.length c4c, .slice A5c xc.f5.length c5c]] (by rfl) rfl rfl (by simp only [List.map_toArray, List.map_cons, List.map_nil]; rfl) ?_
          with_reducible refine ((HBC.out _ _ _ (hz3))).mono ?_
          rintro e w64 ⟨u5, rfl, hz4⟩
          refine ⟨_, rfl, ?_⟩
          refine hK.out _ _ (HS5 _ (SPR.pre3 hz4)) (fun hHeld => ?_)
          clear hK K
          refine norm_ (a' := ?_) ?_ ?_
          rotate_left
          · show Act.put _ (some 62) _ = _
            simp only [Act.put, List.setIfInBounds_toArray, List.set_cons_zero, List.set_cons_succ, i64_w, i32_w]
            rfl
          exact norm_ (by first | (simp only [putAll, Act.put, List.setIfInBounds_toArray, List.set_cons_zero, List.set_cons_succ]; done) | (simp only [putAll, Act.put, List.setIfInBounds_toArray, List.set_cons_zero, List.set_cons_succ, World.size_alloc]; done) | (simp only [putAll, Act.put, List.setIfInBounds_toArray, List.set_cons_zero, List.set_cons_succ, World.size_alloc]; rfl)) (hCont (R6, R7, u2, u5) _ hz4)
      · skip
        refine freshR_ (c := #[.int .i64 0, .int .i64 0, .string ⟨#[]⟩, .slice none 0 0, .slice none 0 0, .slice none 0 0, .int .i64 0]) (t := 30) (hz1) (by rfl) rfl ?_ ?_
        · first | (go_simp; done) | (go_simp; rfl)
        intro R7 w62 hz2
        refine hK.out _ _ (HS5 _ (SPR.pre3 hz2)) (fun hHeld => ?_)
        clear hK K
        refine norm_ (a' := ?_) ?_ ?_
        rotate_left
        · show Act.put _ (some 8) _ = _
          simp only [Act.put, List.setIfInBounds_toArray, List.set_cons_zero, List.set_cons_succ, i64_w, i32_w]
          rfl
        refine two_ (i := 5) (j := 6) (Ni := some 62) (Nj := some 7) #[true, true, true, true, true, true, false, true, false, false] #[true, true, true, true, true, false, true, true, false, false] rfl rfl rfl rfl (by kernel_rfl) (by decide) (by decide) (fun K hK => ?_) (fun K hK => ?_)
        · skip
          refine goes_ Tryz.func18 (by kernel_rfl) rfl #[.agg #[.int .i64 xb.f0, .int .i64 xb.f1, .string xb.f2, .slice A3b xb.f3.length c3b, .slice A4b xb.f4.length c4b, .slice A5b xb.f5.length c5b], .agg #[.int .i64 xc.f0, .int .i64 xc.f1, .string xc.f2, .slice A3c xc.f3.length c3c, .slice A4c xc.f4.length c4c, .slice A5c xc.f5.length c5c]] (by rfl) rfl rfl (by simp only [List.map_toArray, List.map_cons, List.map_nil]; rfl) ?_
          with_reducible refine ((HBC.out _ _ _ (hz2))).mono ?_
          rintro e w63 ⟨u5, rfl, hz3⟩
          refine ⟨_, rfl, ?_⟩
          refine hK.out _ _ (HS5 _ (SPR.pre3 hz3)) (fun hHeld => ?_)
          clear hK K
          refine norm_ (a' := ?_) ?_ ?_
          rotate_left
          · show Act.put _ (some 62) _ = _
            simp only [Act.put, List.setIfInBounds_toArray, List.set_cons_zero, List.set_cons_succ, i64_w, i32_w]
            rfl
          refine one_ (i := 6) (N := some 7) #[true, true, true, true, true, true, true, true, false, false] rfl rfl (by kernel_rfl) (by decide) (fun K hK => ?_)
          refine freshR_ (c := #[.int .i64 0, .int .i64 0, .string ⟨#[]⟩, .slice none 0 0, .slice none 0 0, .slice none 0 0, .int .i64 0]) (t := 30) (hz3) (by rfl) rfl ?_ ?_
          · first | (go_simp; done) | (go_simp; rfl)
          intro R6 w64 hz4
          refine hK.out _ _ (HS5 _ (SPR.pre3 hz4)) (fun hHeld => ?_)
          clear hK K
          refine norm_ (a' := ?_) ?_ ?_
          rotate_left
          · show Act.put _ (some 7) _ = _
            simp only [Act.put, List.setIfInBounds_toArray, List.set_cons_zero, List.set_cons_succ, i64_w, i32_w]
            rfl
          exact norm_ (by first | (simp only [putAll, Act.put, List.setIfInBounds_toArray, List.set_cons_zero, List.set_cons_succ]; done) | (simp only [putAll, Act.put, List.setIfInBounds_toArray, List.set_cons_zero, List.set_cons_succ, World.size_alloc]; done) | (simp only [putAll, Act.put, List.setIfInBounds_toArray, List.set_cons_zero, List.set_cons_succ, World.size_alloc]; rfl)) (hCont (R6, R7, u2, u5) _ (SPR.swap hz4))
        · skip
          refine freshR_ (c := #[.int .i64 0, .int .i64 0, .string ⟨#[]⟩, .slice none 0 0, .slice none 0 0, .slice none 0 0, .int .i64 0]) (t := 30) (hz2) (by rfl) rfl ?_ ?_
          · first | (go_simp; done) | (go_simp; rfl)
          intro R6 w63 hz3
          refine hK.out _ _ (HS5 _ (SPR.pre3 hz3)) (fun hHeld => ?_)
          clear hK K
          refine norm_ (a' := ?_) ?_ ?_
          rotate_left
          · show Act.put _ (some 7) _ = _
            simp only [Act.put, List.setIfInBounds_toArray, List.set_cons_zero, List.set_cons_succ, i64_w, i32_w]
            rfl
          refine one_ (i := 5) (N := some 62) #[true, true, true, true, true, true, true, true, false, false] rfl rfl (by kernel_rfl) (by decide) (fun K hK => ?_)
          refine goes_ Tryz.func18 (by kernel_rfl) rfl #[.agg #[.int .i64 xb.f0, .int .i64 xb.f1, .string xb.f2, .slice A3b xb.f3.length c3b, .slice A4b xb.f4.length c4b, .slice A5b xb.f5.length c5b], .agg #[.int .i64 xc.f0, .int .i64 xc.f1, .string xc.f2, .slice A3c xc.f3.length c3c, .slice A4c xc.f4.length c4c, .slice A5c xc.f5.length c5c]] (by rfl) rfl rfl (by simp only [List.map_toArray, List.map_cons, List.map_nil]; rfl) ?_
          with_reducible refine ((HBC.out _ _ _ (hz3))).mono ?_
          rintro e w64 ⟨u5, rfl, hz4⟩
          refine ⟨_, rfl, ?_⟩
          refine hK.out _ _ (HS5 _ (SPR.pre3 hz4)) (fun hHeld => ?_)
          clear hK K
          refine norm_ (a' := ?_) ?_ ?_
          rotate_left
          · show Act.put _ (some 62) _ = _
            simp only [Act.put, List.setIfInBounds_toArray, List.set_cons_zero, List.set_cons_succ, i64_w, i32_w]
            rfl
          exact norm_ (by first | (simp only [putAll, Act.put, List.setIfInBounds_toArray, List.set_cons_zero, List.set_cons_succ]; done) | (simp only [putAll, Act.put, List.setIfInBounds_toArray, List.set_cons_zero, List.set_cons_succ, World.size_alloc]; done) | (simp only [putAll, Act.put, List.setIfInBounds_toArray, List.set_cons_zero, List.set_cons_succ, World.size_alloc]; rfl)) (hCont (R6, R7, u2, u5) _ (SPR.swap hz4))
    · skip
      refine freshR_ (c := #[.int .i64 0, .int .i64 0, .string ⟨#[]⟩, .slice none 0 0, .slice none 0 0, .slice none 0 0, .int .i64 0]) (t := 30) (hHeld.2.2.2.2.2.2.2.2.2.2.2.2.2.2.2.2.2.2) (by rfl) rfl ?_ ?_
      · first | (go_simp; done) | (go_simp; rfl)
      intro R6 w61 hz1
      refine hK.out _ _ (HS5 _ (SPR.pre3 hz1)) (fun hHeld => ?_)
      clear hK K
      refine norm_ (a' := ?_) ?_ ?_
      rotate_left
      · show Act.put _ (some 7) _ = _
        simp only [Act.put, List.setIfInBounds_toArray, List.set_cons_zero, List.set_cons_succ, i64_w, i32_w]
        rfl
      refine two_ (i := 2) (j := 7) (Ni := some 59) (Nj := some 8) #[true, true, true, true, true, false, true, false, false, false] #[true, true, false, true, true, false, true, true, false, false] rfl rfl rfl rfl (by kernel_rfl) (by decide) (by decide) (fun K hK => ?_) (fun K hK => ?_)
      · skip
        refine goes_ Tryz.func18 (by kernel_rfl) rfl #[.agg #[.int .i64 xa.f0, .int .i64 xa.f1, .string xa.f2, .slice A3a xa.f3.length c3a, .slice A4a xa.f4.length c4a, .slice A5a xa.f5.length c5a], .agg #[.int .i64 xb.f0, .int .i64 xb.f1, .string xb.f2, .slice A3b xb.f3.length c3b, .slice A4b xb.f4.length c4b, .slice A5b xb.f5.length c5b]] (by rfl) rfl rfl (by simp only [List.map_toArray, List.map_cons, List.map_nil]; rfl) ?_
        with_reducible refine ((HAB.out _ _ _ (hz1))).mono ?_
        rintro e w62 ⟨u2, rfl, hz2⟩
        refine ⟨_, rfl, ?_⟩
        refine hK.out _ _ (HS5 _ (SPR.pre3 hz2)) (fun hHeld => ?_)
        clear hK K
        refine norm_ (a' := ?_) ?_ ?_
        rotate_left
        · show Act.put _ (some 59) _ = _
          simp only [Act.put, List.setIfInBounds_toArray, List.set_cons_zero, List.set_cons_succ, i64_w, i32_w]
          rfl
        refine two_ (i := 5) (j := 7) (Ni := some 62) (Nj := some 8) #[true, true, true, true, true, true, true, false, false, false] #[true, true, true, true, true, false, true, true, false, false] rfl rfl rfl rfl (by kernel_rfl) (by decide) (by decide) (fun K hK => ?_) (fun K hK => ?_)
        · skip
          refine goes_ Tryz.func18 (by kernel_rfl) rfl #[.agg #[.int .i64 xb.f0, .int .i64 xb.f1, .string xb.f2, .slice A3b xb.f3.length c3b, .slice A4b xb.f4.length c4b, .slice A5b xb.f5.length c5b], .agg #[.int .i64 xc.f0, .int .i64 xc.f1, .string xc.f2, .slice A3c xc.f3.length c3c, .slice A4c xc.f4.length c4c, .slice A5c xc.f5.length c5c]] (by rfl) rfl rfl (by simp only [List.map_toArray, List.map_cons, List.map_nil]; rfl) ?_
          with_reducible refine ((HBC.out _ _ _ (hz2))).mono ?_
          rintro e w63 ⟨u5, rfl, hz3⟩
          refine ⟨_, rfl, ?_⟩
          refine hK.out _ _ (HS5 _ (SPR.pre3 hz3)) (fun hHeld => ?_)
          clear hK K
          refine norm_ (a' := ?_) ?_ ?_
          rotate_left
          · show Act.put _ (some 62) _ = _
            simp only [Act.put, List.setIfInBounds_toArray, List.set_cons_zero, List.set_cons_succ, i64_w, i32_w]
            rfl
          refine one_ (i := 7) (N := some 8) #[true, true, true, true, true, true, true, true, false, false] rfl rfl (by kernel_rfl) (by decide) (fun K hK => ?_)
          refine freshR_ (c := #[.int .i64 0, .int .i64 0, .string ⟨#[]⟩, .slice none 0 0, .slice none 0 0, .slice none 0 0, .int .i64 0]) (t := 30) (hz3) (by rfl) rfl ?_ ?_
          · first | (go_simp; done) | (go_simp; rfl)
          intro R7 w64 hz4
          refine hK.out _ _ (HS5 _ (SPR.pre3 hz4)) (fun hHeld => ?_)
          clear hK K
          refine norm_ (a' := ?_) ?_ ?_
          rotate_left
          · show Act.put _ (some 8) _ = _
            simp only [Act.put, List.setIfInBounds_toArray, List.set_cons_zero, List.set_cons_succ, i64_w, i32_w]
            rfl
          exact norm_ (by first | (simp only [putAll, Act.put, List.setIfInBounds_toArray, List.set_cons_zero, List.set_cons_succ]; done) | (simp only [putAll, Act.put, List.setIfInBounds_toArray, List.set_cons_zero, List.set_cons_succ, World.size_alloc]; done) | (simp only [putAll, Act.put, List.setIfInBounds_toArray, List.set_cons_zero, List.set_cons_succ, World.size_alloc]; rfl)) (hCont (R6, R7, u2, u5) _ hz4)
        · skip
          refine freshR_ (c := #[.int .i64 0, .int .i64 0, .string ⟨#[]⟩, .slice none 0 0, .slice none 0 0, .slice none 0 0, .int .i64 0]) (t := 30) (hz2) (by rfl) rfl ?_ ?_
          · first | (go_simp; done) | (go_simp; rfl)
          intro R7 w63 hz3
          refine hK.out _ _ (HS5 _ (SPR.pre3 hz3)) (fun hHeld => ?_)
          clear hK K
          refine norm_ (a' := ?_) ?_ ?_
          rotate_left
          · show Act.put _ (some 8) _ = _
            simp only [Act.put, List.setIfInBounds_toArray, List.set_cons_zero, List.set_cons_succ, i64_w, i32_w]
            rfl
          refine one_ (i := 5) (N := some 62) #[true, true, true, true, true, true, true, true, false, false] rfl rfl (by kernel_rfl) (by decide) (fun K hK => ?_)
          refine goes_ Tryz.func18 (by kernel_rfl) rfl #[.agg #[.int .i64 xb.f0, .int .i64 xb.f1, .string xb.f2, .slice A3b xb.f3.length c3b, .slice A4b xb.f4.length c4b, .slice A5b xb.f5.length c5b], .agg #[.int .i64 xc.f0, .int .i64 xc.f1, .string xc.f2, .slice A3c xc.f3.length c3c, .slice A4c xc.f4.length c4c, .slice A5c xc.f5.length c5c]] (by rfl) rfl rfl (by simp only [List.map_toArray, List.map_cons, List.map_nil]; rfl) ?_
          with_reducible refine ((HBC.out _ _ _ (hz3))).mono ?_
          rintro e w64 ⟨u5, rfl, hz4⟩
          refine ⟨_, rfl, ?_⟩
          refine hK.out _ _ (HS5 _ (SPR.pre3 hz4)) (fun hHeld => ?_)
          clear hK K
          refine norm_ (a' := ?_) ?_ ?_
          rotate_left
          · show Act.put _ (some 62) _ = _
            simp only [Act.put, List.setIfInBounds_toArray, List.set_cons_zero, List.set_cons_succ, i64_w, i32_w]
            rfl
          exact norm_ (by first | (simp only [putAll, Act.put, List.setIfInBounds_toArray, List.set_cons_zero, List.set_cons_succ]; done) | (simp only [putAll, Act.put, List.setIfInBounds_toArray, List.set_cons_zero, List.set_cons_succ, World.size_alloc]; done) | (simp only [putAll, Act.put, List.setIfInBounds_toArray, List.set_cons_zero, List.set_cons_succ, World.size_alloc]; rfl)) (hCont (R6, R7, u2, u5) _ hz4)
      · skip
        refine freshR_ (c := #[.int .i64 0, .int .i64 0, .string ⟨#[]⟩, .slice none 0 0, .slice none 0 0, .slice none 0 0, .int .i64 0]) (t := 30) (hz1) (by rfl) rfl ?_ ?_
        · first | (go_simp; done) | (go_simp; rfl)
        intro R7 w62 hz2
        refine hK.out _ _ (HS5 _ (SPR.pre3 hz2)) (fun hHeld => ?_)
        clear hK K
        refine norm_ (a' := ?_) ?_ ?_
        rotate_left
        · show Act.put _ (some 8) _ = _
          simp only [Act.put, List.setIfInBounds_toArray, List.set_cons_zero, List.set_cons_succ, i64_w, i32_w]
          rfl
        refine one_ (i := 2) (N := some 59) #[true, true, true, true, true, false, true, true, false, false] rfl rfl (by kernel_rfl) (by decide) (fun K hK => ?_)
        refine goes_ Tryz.func18 (by kernel_rfl) rfl #[.agg #[.int .i64 xa.f0, .int .i64 xa.f1, .string xa.f2, .slice A3a xa.f3.length c3a, .slice A4a xa.f4.length c4a, .slice A5a xa.f5.length c5a], .agg #[.int .i64 xb.f0, .int .i64 xb.f1, .string xb.f2, .slice A3b xb.f3.length c3b, .slice A4b xb.f4.length c4b, .slice A5b xb.f5.length c5b]] (by rfl) rfl rfl (by simp only [List.map_toArray, List.map_cons, List.map_nil]; rfl) ?_
        with_reducible refine ((HAB.out _ _ _ (hz2))).mono ?_
        rintro e w63 ⟨u2, rfl, hz3⟩
        refine ⟨_, rfl, ?_⟩
        refine hK.out _ _ (HS5 _ (SPR.pre3 hz3)) (fun hHeld => ?_)
        clear hK K
        refine norm_ (a' := ?_) ?_ ?_
        rotate_left
        · show Act.put _ (some 59) _ = _
          simp only [Act.put, List.setIfInBounds_toArray, List.set_cons_zero, List.set_cons_succ, i64_w, i32_w]
          rfl
        refine one_ (i := 5) (N := some 62) #[true, true, true, true, true, true, true, true, false, false] rfl rfl (by kernel_rfl) (by decide) (fun K hK => ?_)
        refine goes_ Tryz.func18 (by kernel_rfl) rfl #[.agg #[.int .i64 xb.f0, .int .i64 xb.f1, .string xb.f2, .slice A3b xb.f3.length c3b, .slice A4b xb.f4.length c4b, .slice A5b xb.f5.length c5b], .agg #[.int .i64 xc.f0, .int .i64 xc.f1, .string xc.f2, .slice A3c xc.f3.length c3c, .slice A4c xc.f4.length c4c, .slice A5c xc.f5.length c5c]] (by rfl) rfl rfl (by simp only [List.map_toArray, List.map_cons, List.map_nil]; rfl) ?_
        with_reducible refine ((HBC.out _ _ _ (hz3))).mono ?_
        rintro e w64 ⟨u5, rfl, hz4⟩
        refine ⟨_, rfl, ?_⟩
        refine hK.out _ _ (HS5 _ (SPR.pre3 hz4)) (fun hHeld => ?_)
        clear hK K
        refine norm_ (a' := ?_) ?_ ?_
        rotate_left
        · show Act.put _ (some 62) _ = _
          simp only [Act.put, List.setIfInBounds_toArray, List.set_cons_zero, List.set_cons_succ, i64_w, i32_w]
          rfl
        exact norm_ (by first | (simp only [putAll, Act.put, List.setIfInBounds_toArray, List.set_cons_zero, List.set_cons_succ]; done) | (simp only [putAll, Act.put, List.setIfInBounds_toArray, List.set_cons_zero, List.set_cons_succ, World.size_alloc]; done) | (simp only [putAll, Act.put, List.setIfInBounds_toArray, List.set_cons_zero, List.set_cons_succ, World.size_alloc]; rfl)) (hCont (R6, R7, u2, u5) _ hz4)
    · skip
      refine freshR_ (c := #[.int .i64 0, .int .i64 0, .string ⟨#[]⟩, .slice none 0 0, .slice none 0 0, .slice none 0 0, .int .i64 0]) (t := 30) (hHeld.2.2.2.2.2.2.2.2.2.2.2.2.2.2.2.2.2.2) (by rfl) rfl ?_ ?_
      · first | (go_simp; done) | (go_simp; rfl)
      intro R7 w61 hz1
      refine hK.out _ _ (HS5 _ (SPR.pre3 hz1)) (fun hHeld => ?_)
      clear hK K
      refine norm_ (a' := ?_) ?_ ?_
      rotate_left
      · show Act.put _ (some 8) _ = _
        simp only [Act.put, List.setIfInBounds_toArray, List.set_cons_zero, List.set_cons_succ, i64_w, i32_w]
        rfl
      refine two_ (i := 2) (j := 6) (Ni := some 59) (Nj := some 7) #[true, true, true, true, true, false, false, true, false, false] #[true, true, false, true, true, false, true, true, false, false] rfl rfl rfl rfl (by kernel_rfl) (by decide) (by decide) (fun K hK => ?_) (fun K hK => ?_)
      · skip
        refine goes_ Tryz.func18 (by kernel_rfl) rfl #[.agg #[.int .i64 xa.f0, .int .i64 xa.f1, .string xa.f2, .slice A3a xa.f3.length c3a, .slice A4a xa.f4.length c4a, .slice A5a xa.f5.length c5a], .agg #[.int .i64 xb.f0, .int .i64 xb.f1, .string xb.f2, .slice A3b xb.f3.length c3b, .slice A4b xb.f4.length c4b, .slice A5b xb.f5.length c5b]] (by rfl) rfl rfl (by simp only [List.map_toArray, List.map_cons, List.map_nil]; rfl) ?_
        with_reducible refine ((HAB.out _ _ _ (hz1))).mono ?_
        rintro e w62 ⟨u2, rfl, hz2⟩
        refine ⟨_, rfl, ?_⟩
        refine hK.out _ _ (HS5 _ (SPR.pre3 hz2)) (fun hHeld => ?_)
        clear hK K
        refine norm_ (a' := ?_) ?_ ?_
        rotate_left
        · show Act.put _ (some 59) _ = _
          simp only [Act.put, List.setIfInBounds_toArray, List.set_cons_zero, List.set_cons_succ, i64_w, i32_w]
          rfl
        refine two_ (i := 5) (j := 6) (Ni := some 62) (Nj := some 7) #[true, true, true, true, true, true, false, true, false, false] #[true, true, true, true, true, false, true, true, false, false] rfl rfl rfl rfl (by kernel_rfl) (by decide) (by decide) (fun K hK => ?_) (fun K hK => ?_)
        · skip
          refine goes_ Tryz.func18 (by kernel_rfl) rfl #[.agg #[.int .i64 xb.f0, .int .i64 xb.f1, .string xb.f2, .slice A3b xb.f3.length c3b, .slice A4b xb.f4.length c4b, .slice A5b xb.f5.length c5b], .agg #[.int .i64 xc.f0, .int .i64 xc.f1, .string xc.f2, .slice A3c xc.f3.length c3c, .slice A4c xc.f4.length c4c, .slice A5c xc.f5.length c5c]] (by rfl) rfl rfl (by simp only [List.map_toArray, List.map_cons, List.map_nil]; rfl) ?_
          with_reducible refine ((HBC.out _ _ _ (hz2))).mono ?_
          rintro e w63 ⟨u5, rfl, hz3⟩
          refine ⟨_, rfl, ?_⟩
          refine hK.out _ _ (HS5 _ (SPR.pre3 hz3)) (fun hHeld => ?_)
          clear hK K
          refine norm_ (a' := ?_) ?_ ?_
          rotate_left
          · show Act.put _ (some 62) _ = _
            simp only [Act.put, List.setIfInBounds_toArray, List.set_cons_zero, List.set_cons_succ, i64_w, i32_w]
            rfl
          refine one_ (i := 6) (N := some 7) #[true, true, true, true, true, true, true, true, false, false] rfl rfl (by kernel_rfl) (by decide) (fun K hK => ?_)
          refine freshR_ (c := #[.int .i64 0, .int .i64 0, .string ⟨#[]⟩, .slice none 0 0, .slice none 0 0, .slice none 0 0, .int .i64 0]) (t := 30) (hz3) (by rfl) rfl ?_ ?_
          · first | (go_simp; done) | (go_simp; rfl)
          intro R6 w64 hz4
          refine hK.out _ _ (HS5 _ (SPR.pre3 hz4)) (fun hHeld => ?_)
          clear hK K
          refine norm_ (a' := ?_) ?_ ?_
          rotate_left
          · show Act.put _ (some 7) _ = _
            simp only [Act.put, List.setIfInBounds_toArray, List.set_cons_zero, List.set_cons_succ, i64_w, i32_w]
            rfl
          exact norm_ (by first | (simp only [putAll, Act.put, List.setIfInBounds_toArray, List.set_cons_zero, List.set_cons_succ]; done) | (simp only [putAll, Act.put, List.setIfInBounds_toArray, List.set_cons_zero, List.set_cons_succ, World.size_alloc]; done) | (simp only [putAll, Act.put, List.setIfInBounds_toArray, List.set_cons_zero, List.set_cons_succ, World.size_alloc]; rfl)) (hCont (R6, R7, u2, u5) _ (SPR.swap hz4))
        · skip
          refine freshR_ (c := #[.int .i64 0, .int .i64 0, .string ⟨#[]⟩, .slice none 0 0, .slice none 0 0, .slice none 0 0, .int .i64 0]) (t := 30) (hz2) (by rfl) rfl ?_ ?_
          · first | (go_simp; done) | (go_simp; rfl)
          intro R6 w63 hz3
          refine hK.out _ _ (HS5 _ (SPR.pre3 hz3)) (fun hHeld => ?_)
          clear hK K
          refine norm_ (a' := ?_) ?_ ?_
          rotate_left
          · show Act.put _ (some 7) _ = _
            simp only [Act.put, List.setIfInBounds_toArray, List.set_cons_zero, List.set_cons_succ, i64_w, i32_w]
            rfl
          refine one_ (i := 5) (N := some 62) #[true, true, true, true, true, true, true, true, false, false] rfl rfl (by kernel_rfl) (by decide) (fun K hK => ?_)
          refine goes_ Tryz.func18 (by kernel_rfl) rfl #[.agg #[.int .i64 xb.f0, .int .i64 xb.f1, .string xb.f2, .slice A3b xb.f3.length c3b, .slice A4b xb.f4.length c4b, .slice A5b xb.f5.length c5b], .agg #[.int .i64 xc.f0, .int .i64 xc.f1, .string xc.f2, .slice A3c xc.f3.length c3c, .slice A4c xc.f4.length c4c, .slice A5c xc.f5.length c5c]] (by rfl) rfl rfl (by simp only [List.map_toArray, List.map_cons, List.map_nil]; rfl) ?_
          with_reducible refine ((HBC.out _ _ _ (hz3))).mono ?_
          rintro e w64 ⟨u5, rfl, hz4⟩
          refine ⟨_, rfl, ?_⟩
          refine hK.out _ _ (HS5 _ (SPR.pre3 hz4)) (fun hHeld => ?_)
          clear hK K
          refine norm_ (a' := ?_) ?_ ?_
          rotate_left
          · show Act.put _ (some 62) _ = _
            simp only [Act.put, List.setIfInBounds_toArray, List.set_cons_zero, List.set_cons_succ, i64_w, i32_w]
            rfl
          exact norm_ (by first | (simp only [putAll, Act.put, List.setIfInBounds_toArray, List.set_cons_zero, List.set_cons_succ]; done) | (simp only [putAll, Act.put, List.setIfInBounds_toArray, List.set_cons_zero, List.set_cons_succ, World.size_alloc]; done) | (simp only [putAll, Act.put, List.setIfInBounds_toArray, List.set_cons_zero, List.set_cons_succ, World.size_alloc]; rfl)) (hCont (R6, R7, u2, u5) _ (SPR.swap hz4))
      · skip
        refine freshR_ (c := #[.int .i64 0, .int .i64 0, .string ⟨#[]⟩, .slice none 0 0, .slice none 0 0, .slice none 0 0, .int .i64 0]) (t := 30) (hz1) (by rfl) rfl ?_ ?_
        · first | (go_simp; done) | (go_simp; rfl)
        intro R6 w62 hz2
        refine hK.out _ _ (HS5 _ (SPR.pre3 hz2)) (fun hHeld => ?_)
        clear hK K
        refine norm_ (a' := ?_) ?_ ?_
        rotate_left
        · show Act.put _ (some 7) _ = _
          simp only [Act.put, List.setIfInBounds_toArray, List.set_cons_zero, List.set_cons_succ, i64_w, i32_w]
          rfl
        refine one_ (i := 2) (N := some 59) #[true, true, true, true, true, false, true, true, false, false] rfl rfl (by kernel_rfl) (by decide) (fun K hK => ?_)
        refine goes_ Tryz.func18 (by kernel_rfl) rfl #[.agg #[.int .i64 xa.f0, .int .i64 xa.f1, .string xa.f2, .slice A3a xa.f3.length c3a, .slice A4a xa.f4.length c4a, .slice A5a xa.f5.length c5a], .agg #[.int .i64 xb.f0, .int .i64 xb.f1, .string xb.f2, .slice A3b xb.f3.length c3b, .slice A4b xb.f4.length c4b, .slice A5b xb.f5.length c5b]] (by rfl) rfl rfl (by simp only [List.map_toArray, List.map_cons, List.map_nil]; rfl) ?_
        with_reducible refine ((HAB.out _ _ _ (hz2))).mono ?_
        rintro e w63 ⟨u2, rfl, hz3⟩
        refine ⟨_, rfl, ?_⟩
        refine hK.out _ _ (HS5 _ (SPR.pre3 hz3)) (fun hHeld => ?_)
        clear hK K
        refine norm_ (a' := ?_) ?_ ?_
        rotate_left
        · show Act.put _ (some 59) _ = _
          simp only [Act.put, List.setIfInBounds_toArray, List.set_cons_zero, List.set_cons_succ, i64_w, i32_w]
          rfl
        refine one_ (i := 5) (N := some 62) #[true, true, true, true, true, true, true, true, false, false] rfl rfl (by kernel_rfl) (by decide) (fun K hK => ?_)
        refine goes_ Tryz.func18 (by kernel_rfl) rfl #[.agg #[.int .i64 xb.f0, .int .i64 xb.f1, .string xb.f2, .slice A3b xb.f3.length c3b, .slice A4b xb.f4.length c4b, .slice A5b xb.f5.length c5b], .agg #[.int .i64 xc.f0, .int .i64 xc.f1, .string xc.f2, .slice A3c xc.f3.length c3c, .slice A4c xc.f4.length c4c, .slice A5c xc.f5.length c5c]] (by rfl) rfl rfl (by simp only [List.map_toArray, List.map_cons, List.map_nil]; rfl) ?_
        with_reducible refine ((HBC.out _ _ _ (hz3))).mono ?_
        rintro e w64 ⟨u5, rfl, hz4⟩
        refine ⟨_, rfl, ?_⟩
        refine hK.out _ _ (HS5 _ (SPR.pre3 hz4)) (fun hHeld => ?_)
        clear hK K
        refine norm_ (a' := ?_) ?_ ?_
        rotate_left
        · show Act.put _ (some 62) _ = _
          simp only [Act.put, List.setIfInBounds_toArray, List.set_cons_zero, List.set_cons_succ, i64_w, i32_w]
          rfl
        exact norm_ (by first | (simp only [putAll, Act.put, List.setIfInBounds_toArray, List.set_cons_zero, List.set_cons_succ]; done) | (simp only [putAll, Act.put, List.setIfInBounds_toArray, List.set_cons_zero, List.set_cons_succ, World.size_alloc]; done) | (simp only [putAll, Act.put, List.setIfInBounds_toArray, List.set_cons_zero, List.set_cons_succ, World.size_alloc]; rfl)) (hCont (R6, R7, u2, u5) _ (SPR.swap hz4))
  rintro ⟨R, T, cx, cy⟩ w' hF
  change SPR w [(A, cv xa A3a c3a A4a c4a A5a c5a, 26), (B, cv xb A3b c3b A4b c4b A5b c5b, 26), (C, cv xc A3c c3c A4c c4c A5c c5c, 26), (R, z7, 30), (T, z7, 30)] [(ja, cx), (jb, cy)] w' at hF
  obtain ⟨B3x, d3x, B4x, d4x, B5x, d5x, rfl⟩ := hF.cells 0 rfl
  obtain ⟨B3y, d3y, B4y, d4y, B5y, d5y, rfl⟩ := hF.cells 1 rfl
  have hHeld : w'.cell? ⟨A, 0, none⟩ = some (.int .i64 xa.f0) ∧ w'.cell? ⟨A, 1, none⟩ = some (.int .i64 xa.f1) ∧ w'.cell? ⟨A, 2, none⟩ = some (.string xa.f2) ∧ w'.cell? ⟨A, 3, none⟩ = some (.slice A3a xa.f3.length c3a) ∧ w'.cell? ⟨A, 4, none⟩ = some (.slice A4a xa.f4.length c4a) ∧ w'.cell? ⟨A, 5, none⟩ = some (.slice A5a xa.f5.length c5a) ∧ w'.cell? ⟨B, 0, none⟩ = some (.int .i64 xb.f0) ∧ w'.cell? ⟨B, 1, none⟩ = some (.int .i64 xb.f1) ∧ w'.cell? ⟨B, 2, none⟩ = some (.string xb.f2) ∧ w'.cell? ⟨B, 3, none⟩ = some (.slice A3b xb.f3.length c3b) ∧ w'.cell? ⟨B, 4, none⟩ = some (.slice A4b xb.f4.length c4b) ∧ w'.cell? ⟨B, 5, none⟩ = some (.slice A5b xb.f5.length c5b) ∧ w'.cell? ⟨C, 0, none⟩ = some (.int .i64 xc.f0) ∧ w'.cell? ⟨C, 1, none⟩ = some (.int .i64 xc.f1) ∧ w'.cell? ⟨C, 2, none⟩ = some (.string xc.f2) ∧ w'.cell? ⟨C, 3, none⟩ = some (.slice A3c xc.f3.length c3c) ∧ w'.cell? ⟨C, 4, none⟩ = some (.slice A4c xc.f4.length c4c) ∧ w'.cell? ⟨C, 5, none⟩ = some (.slice A5c xc.f5.length c5c) ∧ SPR w [(A, cv xa A3a c3a A4a c4a A5a c5a, 26), (B, cv xb A3b c3b A4b c4b A5b c5b, 26), (C, cv xc A3c c3c A4c c4c A5c c5c, 26)] [] w' := (HS5 _ (SPR.pre3 hF))
  refine norm_ (a' := ?_) ?_ ?_
  rotate_left
  · simp only [putAll, Act.put, List.setIfInBounds_toArray, List.set_cons_zero, List.set_cons_succ]
    rfl
  refine one_ (i := 8) (N := none) #[true, true, true, true, true, true, true, true, true, false] rfl rfl (by kernel_rfl) (by decide) (fun K hK => ?_)
  obtain ⟨y0, y1, y2, y3, y4, y5, y6, f0, f1, f2, f3, f4, f5, f6⟩ := sev_cells (hF.get 3 rfl)
  refine put7R_ (v0 := .int .i64 ja.f0) (v1 := .int .i64 ja.f1) (v2 := .string ja.f2) (v3 := .slice B3x ja.f3.length d3x) (v4 := .slice B4x ja.f4.length d4x) (v5 := .slice B5x ja.f5.length d5x) (v6 := .int .i64 0) hF 3 rfl (by rfl) rfl ?_ ?_
  · first | (go_simp; done) | (go_simp; rfl)
  clear y0 y1 y2 y3 y4 y5 y6 f0 f1 f2 f3 f4 f5 f6
  intro w68 hz8
  change SPR w [(A, cv xa A3a c3a A4a c4a A5a c5a, 26), (B, cv xb A3b c3b A4b c4b A5b c5b, 26), (C, cv xc A3c c3c A4c c4c A5c c5c, 26), (R, rc ja B3x d3x B4x d4x B5x d5x, 30), (T, z7, 30)] [(ja, rc ja B3x d3x B4x d4x B5x d5x), (jb, rc jb B3y d3y B4y d4y B5y d5y)] w68 at hz8
  refine hK.out _ _ (HS5 _ (SPR.pre3 hz8)) (fun hHeld => ?_)
  clear hK K
  refine one_ (i := 9) (N := none) #[true, true, true, true, true, true, true, true, true, true] rfl rfl (by kernel_rfl) (by decide) (fun K hK => ?_)
  obtain ⟨y0, y1, y2, y3, y4, y5, y6, f0, f1, f2, f3, f4, f5, f6⟩ := sev_cells (hz8.get 4 rfl)
  refine put7R_ (v0 := .int .i64 jb.f0) (v1 := .int .i64 jb.f1) (v2 := .string jb.f2) (v3 := .slice B3y jb.f3.length d3y) (v4 := .slice B4y jb.f4.length d4y) (v5 := .slice B5y jb.f5.length d5y) (v6 := .int .i64 0) hz8 4 rfl (by rfl) rfl ?_ ?_
  · first | (go_simp; done) | (go_simp; rfl)
  clear y0 y1 y2 y3 y4 y5 y6 f0 f1 f2 f3 f4 f5 f6
  intro w69 hz9
  change SPR w [(A, cv xa A3a c3a A4a c4a A5a c5a, 26), (B, cv xb A3b c3b A4b c4b A5b c5b, 26), (C, cv xc A3c c3c A4c c4c A5c c5c, 26), (R, rc ja B3x d3x B4x d4x B5x d5x, 30), (T, rc jb B3y d3y B4y d4y B5y d5y, 30)] [(ja, rc ja B3x d3x B4x d4x B5x d5x), (jb, rc jb B3y d3y B4y d4y B5y d5y)] w69 at hz9
  refine hK.out _ _ (HS5 _ (SPR.pre3 hz9)) (fun hHeld => ?_)
  clear hK K
  refine done_ (by kernel_rfl) ?_
  have HZ2 := Lib.hid hz9
  clear hz9 hz8 hF hHeld
  have HP := Lib.hid (fun L rs w1 (h : SPR w L rs w1) (hi : rs[0]? = some (ja, #[.int .i64 ja.f0, .int .i64 ja.f1, .string ja.f2, .slice B3x ja.f3.length d3x, .slice B4x ja.f4.length d4x, .slice B5x ja.f5.length d5x, .int .i64 0])) => opAdd_joinE HJ.out.2.2.1 w1 (h.toGo 0 hi HWJ.out.1 HZJ.out.1) (ToGo.later (HTc.out HW3.out) h.bel) HWJ.out.1 HW3.out HZJ.out.1 HSZ.out.2.2 (by have := HJF.out; have := HKK.out; omega) (by have := HJF.out; have := HKK.out; omega) (by have := HJF.out; have := HN.out; omega) (by have := HJF.out; have := SZa.out; have := SZb.out; have := SZc.out; omega) h (Below.refl _ _))
  have HQ := Lib.hid (fun L rs w1 (h : SPR w L rs w1) (hi : rs[1]? = some (jb, #[.int .i64 jb.f0, .int .i64 jb.f1, .string jb.f2, .slice B3y jb.f3.length d3y, .slice B4y jb.f4.length d4y, .slice B5y jb.f5.length d5y, .int .i64 0])) => opAdd_joinE HJ.out.2.2.2 w1 (ToGo.later (HTa.out HW1.out) h.bel) (h.toGo 1 hi HWJ.out.2 HZJ.out.2) HW1.out HWJ.out.2 HSZ.out.1 HZJ.out.2 (by have := HJF.out; have := HKK.out; omega) HKK.out.2.2 (by have := HJF.out; have := HN.out; omega) (by have := HJF.out; have := SZa.out; have := SZb.out; have := SZc.out; omega) h (Below.refl _ _))
  go_wp2_with fail
  have HS5 : ∀ w', SPR w [(A, cv xa A3a c3a A4a c4a A5a c5a, 26), (B, cv xb A3b c3b A4b c4b A5b c5b, 26), (C, cv xc A3c c3c A4c c4c A5c c5c, 26), (R, rc ja B3x d3x B4x d4x B5x d5x, 30), (T, rc jb B3y d3y B4y d4y B5y d5y, 30)] [(ja, rc ja B3x d3x B4x d4x B5x d5x), (jb, rc jb B3y d3y B4y d4y B5y d5y)] w' → w'.cell? ⟨A, 0, none⟩ = some (.int .i64 xa.f0) ∧ w'.cell? ⟨A, 1, none⟩ = some (.int .i64 xa.f1) ∧ w'.cell? ⟨A, 2, none⟩ = some (.string xa.f2) ∧ w'.cell? ⟨A, 3, none⟩ = some (.slice A3a xa.f3.length c3a) ∧ w'.cell? ⟨A, 4, none⟩ = some (.slice A4a xa.f4.length c4a) ∧ w'.cell? ⟨A, 5, none⟩ = some (.slice A5a xa.f5.length c5a) ∧ w'.cell? ⟨B, 0, none⟩ = some (.int .i64 xb.f0) ∧ w'.cell? ⟨B, 1, none⟩ = some (.int .i64 xb.f1) ∧ w'.cell? ⟨B, 2, none⟩ = some (.string xb.f2) ∧ w'.cell? ⟨B, 3, none⟩ = some (.slice A3b xb.f3.length c3b) ∧ w'.cell? ⟨B, 4, none⟩ = some (.slice A4b xb.f4.length c4b) ∧ w'.cell? ⟨B, 5, none⟩ = some (.slice A5b xb.f5.length c5b) ∧ w'.cell? ⟨C, 0, none⟩ = some (.int .i64 xc.f0) ∧ w'.cell? ⟨C, 1, none⟩ = some (.int .i64 xc.f1) ∧ w'.cell? ⟨C, 2, none⟩ = some (.string xc.f2) ∧ w'.cell? ⟨C, 3, none⟩ = some (.slice A3c xc.f3.length c3c) ∧ w'.cell? ⟨C, 4, none⟩ = some (.slice A4c xc.f4.length c4c) ∧ w'.cell? ⟨C, 5, none⟩ = some (.slice A5c xc.f5.length c5c) ∧ w'.cell? ⟨R, 0, none⟩ = some (.int .i64 ja.f0) ∧ w'.cell? ⟨R, 1, none⟩ = some (.int .i64 ja.f1) ∧ w'.cell? ⟨R, 2, none⟩ = some (.string ja.f2) ∧ w'.cell? ⟨R, 3, none⟩ = some (.slice B3x ja.f3.length d3x) ∧ w'.cell? ⟨R, 4, none⟩ = some (.slice B4x ja.f4.length d4x) ∧ w'.cell? ⟨R, 5, none⟩ = some (.slice B5x ja.f5.length d5x) ∧ w'.cell? ⟨R, 6, none⟩ = some (.int .i64 0) ∧ w'.cell? ⟨T, 0, none⟩ = some (.int .i64 jb.f0) ∧ w'.cell? ⟨T, 1, none⟩ = some (.int .i64 jb.f1) ∧ w'.cell? ⟨T, 2, none⟩ = some (.string jb.f2) ∧ w'.cell? ⟨T, 3, none⟩ = some (.slice B3y jb.f3.length d3y) ∧ w'.cell? ⟨T, 4, none⟩ = some (.slice B4y jb.f4.length d4y) ∧ w'.cell? ⟨T, 5, none⟩ = some (.slice B5y jb.f5.length d5y) ∧ w'.cell? ⟨T, 6, none⟩ = some (.int .i64 0) ∧ SPR w [(A, cv xa A3a c3a A4a c4a A5a c5a, 26), (B, cv xb A3b c3b A4b c4b A5b c5b, 26), (C, cv xc A3c c3c A4c c4c A5c c5c, 26), (R, rc ja B3x d3x B4x d4x B5x d5x, 30), (T, rc jb B3y d3y B4y d4y B5y d5y, 30)] [(ja, rc ja B3x d3x B4x d4x B5x d5x), (jb, rc jb B3y d3y B4y d4y B5y d5y)] w' := fun w' h => ⟨((six_cells (h.get 0 rfl)).1), ((six_cells (h.get 0 rfl)).2.1), ((six_cells (h.get 0 rfl)).2.2.1), ((six_cells (h.get 0 rfl)).2.2.2.1), ((six_cells (h.get 0 rfl)).2.2.2.2.1), ((six_cells (h.get 0 rfl)).2.2.2.2.2.1), ((six_cells (h.get 1 rfl)).1), ((six_cells (h.get 1 rfl)).2.1), ((six_cells (h.get 1 rfl)).2.2.1), ((six_cells (h.get 1 rfl)).2.2.2.1), ((six_cells (h.get 1 rfl)).2.2.2.2.1), ((six_cells (h.get 1 rfl)).2.2.2.2.2.1), ((six_cells (h.get 2 rfl)).1), ((six_cells (h.get 2 rfl)).2.1), ((six_cells (h.get 2 rfl)).2.2.1), ((six_cells (h.get 2 rfl)).2.2.2.1), ((six_cells (h.get 2 rfl)).2.2.2.2.1), ((six_cells (h.get 2 rfl)).2.2.2.2.2.1), ((sev_cells (h.get 3 rfl)).1), ((sev_cells (h.get 3 rfl)).2.1), ((sev_cells (h.get 3 rfl)).2.2.1), ((sev_cells (h.get 3 rfl)).2.2.2.1), ((sev_cells (h.get 3 rfl)).2.2.2.2.1), ((sev_cells (h.get 3 rfl)).2.2.2.2.2.1), ((sev_cells (h.get 3 rfl)).2.2.2.2.2.2.1), ((sev_cells (h.get 4 rfl)).1), ((sev_cells (h.get 4 rfl)).2.1), ((sev_cells (h.get 4 rfl)).2.2.1), ((sev_cells (h.get 4 rfl)).2.2.2.1), ((sev_cells (h.get 4 rfl)).2.2.2.2.1), ((sev_cells (h.get 4 rfl)).2.2.2.2.2.1), ((sev_cells (h.get 4 rfl)).2.2.2.2.2.2.1), h⟩
  refine start_ (n := 12) (S := fun w' => w'.cell? ⟨A, 0, none⟩ = some (.int .i64 xa.f0) ∧ w'.cell? ⟨A, 1, none⟩ = some (.int .i64 xa.f1) ∧ w'.cell? ⟨A, 2, none⟩ = some (.string xa.f2) ∧ w'.cell? ⟨A, 3, none⟩ = some (.slice A3a xa.f3.length c3a) ∧ w'.cell? ⟨A, 4, none⟩ = some (.slice A4a xa.f4.length c4a) ∧ w'.cell? ⟨A, 5, none⟩ = some (.slice A5a xa.f5.length c5a) ∧ w'.cell? ⟨B, 0, none⟩ = some (.int .i64 xb.f0) ∧ w'.cell? ⟨B, 1, none⟩ = some (.int .i64 xb.f1) ∧ w'.cell? ⟨B, 2, none⟩ = some (.string xb.f2) ∧ w'.cell? ⟨B, 3, none⟩ = some (.slice A3b xb.f3.length c3b) ∧ w'.cell? ⟨B, 4, none⟩ = some (.slice A4b xb.f4.length c4b) ∧ w'.cell? ⟨B, 5, none⟩ = some (.slice A5b xb.f5.length c5b) ∧ w'.cell? ⟨C, 0, none⟩ = some (.int .i64 xc.f0) ∧ w'.cell? ⟨C, 1, none⟩ = some (.int .i64 xc.f1) ∧ w'.cell? ⟨C, 2, none⟩ = some (.string xc.f2) ∧ w'.cell? ⟨C, 3, none⟩ = some (.slice A3c xc.f3.length c3c) ∧ w'.cell? ⟨C, 4, none⟩ = some (.slice A4c xc.f4.length c4c) ∧ w'.cell? ⟨C, 5, none⟩ = some (.slice A5c xc.f5.length c5c) ∧ w'.cell? ⟨R, 0, none⟩ = some (.int .i64 ja.f0) ∧ w'.cell? ⟨R, 1, none⟩ = some (.int .i64 ja.f1) ∧ w'.cell? ⟨R, 2, none⟩ = some (.string ja.f2) ∧ w'.cell? ⟨R, 3, none⟩ = some (.slice B3x ja.f3.length d3x) ∧ w'.cell? ⟨R, 4, none⟩ = some (.slice B4x ja.f4.length d4x) ∧ w'.cell? ⟨R, 5, none⟩ = some (.slice B5x ja.f5.length d5x) ∧ w'.cell? ⟨R, 6, none⟩ = some (.int .i64 0) ∧ w'.cell? ⟨T, 0, none⟩ = some (.int .i64 jb.f0) ∧ w'.cell? ⟨T, 1, none⟩ = some (.int .i64 jb.f1) ∧ w'.cell? ⟨T, 2, none⟩ = some (.string jb.f2) ∧ w'.cell? ⟨T, 3, none⟩ = some (.slice B3y jb.f3.length d3y) ∧ w'.cell? ⟨T, 4, none⟩ = some (.slice B4y jb.f4.length d4y) ∧ w'.cell? ⟨T, 5, none⟩ = some (.slice B5y jb.f5.length d5y) ∧ w'.cell? ⟨T, 6, none⟩ = some (.int .i64 0) ∧ SPR w [(A, cv xa A3a c3a A4a c4a A5a c5a, 26), (B, cv xb A3b c3b A4b c4b A5b c5b, 26), (C, cv xc A3c c3c A4c c4c A5c c5c, 26), (R, rc ja B3x d3x B4x d4x B5x d5x, 30), (T, rc jb B3y d3y B4y d4y B5y d5y, 30)] [(ja, rc ja B3x d3x B4x d4x B5x d5x), (jb, rc jb B3y d3y B4y d4y B5y d5y)] w') (ds := []) #[false, false, false, false, false, false, false, false, false, false, false, false] (by kernel_rfl) rfl rfl (HS5 _ (SPR.drew HZ2.out)) (fun hHeld => ?_)
  refine pure_ (i := 0) (N := some 63) (v := ?_) (a' := ?_) #[true, false, false, false, false, false, false, false, false, false, false, false] rfl rfl (by kernel_rfl) (fun _ _ _ h => h) (Or.inl ⟨by rfl, ?_⟩) ?_ ?_
  rotate_left
  · intro w'
    go_simp
    with_reducible rfl
  rotate_left
  · simp only [Act.put, List.setIfInBounds_toArray, List.set_cons_zero, List.set_cons_succ, i64_w, i32_w]
    rfl
  refine pure_ (i := 5) (N := some 68) (v := ?_) (a' := ?_) #[true, false, false, false, false, true, false, false, false, false, false, false] rfl rfl (by kernel_rfl) (fun _ _ _ h => h) (Or.inl ⟨by rfl, ?_⟩) ?_ ?_
  rotate_left
  · intro w'
    go_simp
    with_reducible rfl
  rotate_left
  · simp only [Act.put, List.setIfInBounds_toArray, List.set_cons_zero, List.set_cons_succ, i64_w, i32_w]
    rfl
  refine take_ (i := 1) (N := some 64) (v := ?_) (a' := ?_) #[true, true, false, false, false, true, false, false, false, false, false, false] rfl rfl (by kernel_rfl) (fun _ _ _ h => h) (Or.inl ⟨by rfl, ?_⟩) hHeld ?_ ?_
  rotate_left
  · rintro w' ⟨s0, s1, s2, s3, s4, s5, s6, s7, s8, s9, s10, s11, s12, s13, s14, s15, s16, s17, s18, s19, s20, s21, s22, s23, s24, s25, s26, s27, s28, s29, s30, s31, s32⟩
    go_simp
    with_reducible rfl
  rotate_left
  · simp only [Act.put, List.setIfInBounds_toArray, List.set_cons_zero, List.set_cons_succ, i64_w, i32_w]
    rfl
  refine take_ (i := 2) (N := some 65) (v := ?_) (a' := ?_) #[true, true, true, false, false, true, false, false, false, false, false, false] rfl rfl (by kernel_rfl) (fun _ _ _ h => h) (Or.inl ⟨by rfl, ?_⟩) hHeld ?_ ?_
  rotate_left
  · rintro w' ⟨s0, s1, s2, s3, s4, s5, s6, s7, s8, s9, s10, s11, s12, s13, s14, s15, s16, s17, s18, s19, s20, s21, s22, s23, s24, s25, s26, s27, s28, s29, s30, s31, s32⟩
    go_simp
    with_reducible rfl
  rotate_left
  · simp only [Act.put, List.setIfInBounds_toArray, List.set_cons_zero, List.set_cons_succ, i64_w, i32_w]
    rfl
  refine take_ (i := 4) (N := some 67) (v := ?_) (a' := ?_) #[true, true, true, false, true, true, false, false, false, false, false, false] rfl rfl (by kernel_rfl) (fun _ _ _ h => h) (Or.inl ⟨by rfl, ?_⟩) hHeld ?_ ?_
  rotate_left
  · rintro w' ⟨s0, s1, s2, s3, s4, s5, s6, s7, s8, s9, s10, s11, s12, s13, s14, s15, s16, s17, s18, s19, s20, s21, s22, s23, s24, s25, s26, s27, s28, s29, s30, s31, s32⟩
    go_simp
    with_reducible rfl
  rotate_left
  · simp only [Act.put, List.setIfInBounds_toArray, List.set_cons_zero, List.set_cons_succ, i64_w, i32_w]
    rfl
  refine take_ (i := 6) (N := some 69) (v := ?_) (a' := ?_) #[true, true, true, false, true, true, true, false, false, false, false, false] rfl rfl (by kernel_rfl) (fun _ _ _ h => h) (Or.inl ⟨by rfl, ?_⟩) hHeld ?_ ?_
  rotate_left
  · rintro w' ⟨s0, s1, s2, s3, s4, s5, s6, s7, s8, s9, s10, s11, s12, s13, s14, s15, s16, s17, s18, s19, s20, s21, s22, s23, s24, s25, s26, s27, s28, s29, s30, s31, s32⟩
    go_simp
    with_reducible rfl
  rotate_left
  · simp only [Act.put, List.setIfInBounds_toArray, List.set_cons_zero, List.set_cons_succ, i64_w, i32_w]
    rfl
  refine join_ (σ := Nat × Nat × Array Value × Array Value) 2 #[true, true, true, true, true, true, true, true, true, true, false, false] (fun s => [(66, .agg s.2.2.1), (70, .agg s.2.2.2), (9, .pointer (some ⟨s.1, 0, none⟩)), (10, .pointer (some ⟨s.2.1, 0, none⟩))]) (fun s w' => SPR w [(A, cv xa A3a c3a A4a c4a A5a c5a, 26), (B, cv xb A3b c3b A4b c4b A5b c5b, 26), (C, cv xc A3c c3c A4c c4c A5c c5c, 26), (R, rc ja B3x d3x B4x d4x B5x d5x, 30), (T, rc jb B3y d3y B4y d4y B5y d5y, 30), (s.1, z7, 30), (s.2.1, z7, 30)] [(ja, rc ja B3x d3x B4x d4x B5x d5x), (jb, rc jb B3y d3y B4y d4y B5y d5y), (jp, s.2.2.1), (jq, s.2.2.2)] w') ?_ ?_
  rotate_left
  · intro hCont
    refine three_ (i := 3) (j := 8) (k := 9) (Ni := some 66) (Nj := some 9) (Nk := some 10) #[true, true, true, true, true, true, true, false, false, false, false, false] #[true, true, true, false, true, true, true, false, true, false, false, false] #[true, true, true, false, true, true, true, false, false, true, false, false] rfl rfl rfl rfl rfl rfl (by kernel_rfl) (by decide) (by decide) (by decide) (fun K hK => ?_) (fun K hK => ?_) (fun K hK => ?_)
    · skip
      refine goes_ Tryz.func18 (by kernel_rfl) rfl #[.agg #[.int .i64 ja.f0, .int .i64 ja.f1, .string ja.f2, .slice B3x ja.f3.length d3x, .slice B4x ja.f4.length d4x, .slice B5x ja.f5.length d5x], .agg #[.int .i64 xc.f0, .int .i64 xc.f1, .string xc.f2, .slice A3c xc.f3.length c3c, .slice A4c xc.f4.length c4c, .slice A5c xc.f5.length c5c]] (by rfl) rfl rfl (by simp only [List.map_toArray, List.map_cons, List.map_nil]; rfl) ?_
      with_reducible refine ((HP.out _ _ _ (hHeld.2.2.2.2.2.2.2.2.2.2.2.2.2.2.2.2.2.2.2.2.2.2.2.2.2.2.2.2.2.2.2.2) rfl)).mono ?_
      rintro e w61 ⟨u3, rfl, hz1⟩
      refine ⟨_, rfl, ?_⟩
      refine hK.out _ _ (HS5 _ (SPR.pre5 hz1)) (fun hHeld => ?_)
      clear hK K
      refine norm_ (a' := ?_) ?_ ?_
      rotate_left
      · show Act.put _ (some 66) _ = _
        simp only [Act.put, List.setIfInBounds_toArray, List.set_cons_zero, List.set_cons_succ, i64_w, i32_w]
        rfl
      refine three_ (i := 7) (j := 8) (k := 9) (Ni := some 70) (Nj := some 9) (Nk := some 10) #[true, true, true, true, true, true, true, true, false, false, false, false] #[true, true, true, true, true, true, true, false, true, false, false, false] #[true, true, true, true, true, true, true, false, false, true, false, false] rfl rfl rfl rfl rfl rfl (by kernel_rfl) (by decide) (by decide) (by decide) (fun K hK => ?_) (fun K hK => ?_) (fun K hK => ?_)
      · skip
        refine goes_ Tryz.func18 (by kernel_rfl) rfl #[.agg #[.int .i64 xa.f0, .int .i64 xa.f1, .string xa.f2, .slice A3a xa.f3.length c3a, .slice A4a xa.f4.length c4a, .slice A5a xa.f5.length c5a], .agg #[.int .i64 jb.f0, .int .i64 jb.f1, .string jb.f2, .slice B3y jb.f3.length d3y, .slice B4y jb.f4.length d4y, .slice B5y jb.f5.length d5y]] (by rfl) rfl rfl (by simp only [List.map_toArray, List.map_cons, List.map_nil]; rfl) ?_
        with_reducible refine ((HQ.out _ _ _ (hz1) rfl)).mono ?_
        rintro e w62 ⟨u7, rfl, hz2⟩
        refine ⟨_, rfl, ?_⟩
        refine hK.out _ _ (HS5 _ (SPR.pre5 hz2)) (fun hHeld => ?_)
        clear hK K
        refine norm_ (a' := ?_) ?_ ?_
        rotate_left
        · show Act.put _ (some 70) _ = _
          simp only [Act.put, List.setIfInBounds_toArray, List.set_cons_zero, List.set_cons_succ, i64_w, i32_w]
          rfl
        refine two_ (i := 8) (j := 9) (Ni := some 9) (Nj := some 10) #[true, true, true, true, true, true, true, true, true, false, false, false] #[true, true, true, true, true, true, true, true, false, true, false, false] rfl rfl rfl rfl (by kernel_rfl) (by decide) (by decide) (fun K hK => ?_) (fun K hK => ?_)
        · skip
          refine freshR_ (c := #[.int .i64 0, .int .i64 0, .string ⟨#[]⟩, .slice none 0 0, .slice none 0 0, .slice none 0 0, .int .i64 0]) (t := 30) (hz2) (by rfl) rfl ?_ ?_
          · first | (go_simp; done) | (go_simp; rfl)
          intro R8 w63 hz3
          refine hK.out _ _ (HS5 _ (SPR.pre5 hz3)) (fun hHeld => ?_)
          clear hK K
          refine norm_ (a' := ?_) ?_ ?_
          rotate_left
          · show Act.put _ (some 9) _ = _
            simp only [Act.put, List.setIfInBounds_toArray, List.set_cons_zero, List.set_cons_succ, i64_w, i32_w]
            rfl
          refine one_ (i := 9) (N := some 10) #[true, true, true, true, true, true, true, true, true, true, false, false] rfl rfl (by kernel_rfl) (by decide) (fun K hK => ?_)
          refine freshR_ (c := #[.int .i64 0, .int .i64 0, .string ⟨#[]⟩, .slice none 0 0, .slice none 0 0, .slice none 0 0, .int .i64 0]) (t := 30) (hz3) (by rfl) rfl ?_ ?_
          · first | (go_simp; done) | (go_simp; rfl)
          intro R9 w64 hz4
          refine hK.out _ _ (HS5 _ (SPR.pre5 hz4)) (fun hHeld => ?_)
          clear hK K
          refine norm_ (a' := ?_) ?_ ?_
          rotate_left
          · show Act.put _ (some 10) _ = _
            simp only [Act.put, List.setIfInBounds_toArray, List.set_cons_zero, List.set_cons_succ, i64_w, i32_w]
            rfl
          exact norm_ (by first | (simp only [putAll, Act.put, List.setIfInBounds_toArray, List.set_cons_zero, List.set_cons_succ]; done) | (simp only [putAll, Act.put, List.setIfInBounds_toArray, List.set_cons_zero, List.set_cons_succ, World.size_alloc]; done) | (simp only [putAll, Act.put, List.setIfInBounds_toArray, List.set_cons_zero, List.set_cons_succ, World.size_alloc]; rfl)) (hCont (R8, R9, u3, u7) _ hz4)
        · skip
          refine freshR_ (c := #[.int .i64 0, .int .i64 0, .string ⟨#[]⟩, .slice none 0 0, .slice none 0 0, .slice none 0 0, .int .i64 0]) (t := 30) (hz2) (by rfl) rfl ?_ ?_
          · first | (go_simp; done) | (go_simp; rfl)
          intro R9 w63 hz3
          refine hK.out _ _ (HS5 _ (SPR.pre5 hz3)) (fun hHeld => ?_)
          clear hK K
          refine norm_ (a' := ?_) ?_ ?_
          rotate_left
          · show Act.put _ (some 10) _ = _
            simp only [Act.put, List.setIfInBounds_toArray, List.set_cons_zero, List.set_cons_succ, i64_w, i32_w]
            rfl
          refine one_ (i := 8) (N := some 9) #[true, true, true, true, true, true, true, true, true, true, false, false] rfl rfl (by kernel_rfl) (by decide) (fun K hK => ?_)
          refine freshR_ (c := #[.int .i64 0, .int .i64 0, .string ⟨#[]⟩, .slice none 0 0, .slice none 0 0, .slice none 0 0, .int .i64 0]) (t := 30) (hz3) (by rfl) rfl ?_ ?_
          · first | (go_simp; done) | (go_simp; rfl)
          intro R8 w64 hz4
          refine hK.out _ _ (HS5 _ (SPR.pre5 hz4)) (fun hHeld => ?_)
          clear hK K
          refine norm_ (a' := ?_) ?_ ?_
          rotate_left
          · show Act.put _ (some 9) _ = _
            simp only [Act.put, List.setIfInBounds_toArray, List.set_cons_zero, List.set_cons_succ, i64_w, i32_w]
            rfl
          exact norm_ (by first | (simp only [putAll, Act.put, List.setIfInBounds_toArray, List.set_cons_zero, List.set_cons_succ]; done) | (simp only [putAll, Act.put, List.setIfInBounds_toArray, List.set_cons_zero, List.set_cons_succ, World.size_alloc]; done) | (simp only [putAll, Act.put, List.setIfInBounds_toArray, List.set_cons_zero, List.set_cons_succ, World.size_alloc]; rfl)) (hCont (R8, R9, u3, u7) _ (SPR.swap hz4))
      · skip
        refine freshR_ (c := #[.int .i64 0, .int .i64 0, .string ⟨#[]⟩, .slice none 0 0, .slice none 0 0, .slice none 0 0, .int .i64 0]) (t := 30) (hz1) (by rfl) rfl ?_ ?_
        · first | (go_simp; done) | (go_simp; rfl)
        intro R8 w62 hz2
        refine hK.out _ _ (HS5 _ (SPR.pre5 hz2)) (fun hHeld => ?_)
        clear hK K
        refine norm_ (a' := ?_) ?_ ?_
        rotate_left
        · show Act.put _ (some 9) _ = _
          simp only [Act.put, List.setIfInBounds_toArray, List.set_cons_zero, List.set_cons_succ, i64_w, i32_w]
          rfl
        refine two_ (i := 7) (j := 9) (Ni := some 70) (Nj := some 10) #[true, true, true, true, true, true, true, true, true, false, false, false] #[true, true, true, true, true, true, true, false, true, true, false, false] rfl rfl rfl rfl (by kernel_rfl) (by decide) (by decide) (fun K hK => ?_) (fun K hK => ?_)
        · skip
          refine goes_ Tryz.func18 (by kernel_rfl) rfl #[.agg #[.int .i64 xa.f0, .int .i64 xa.f1, .string xa.f2, .slice A3a xa.f3.length c3a, .slice A4a xa.f4.length c4a, .slice A5a xa.f5.length c5a], .agg #[.int .i64 jb.f0, .int .i64 jb.f1, .string jb.f2, .slice B3y jb.f3.length d3y, .slice B4y jb.f4.length d4y, .slice B5y jb.f5.length d5y]] (by rfl) rfl rfl (by simp only [List.map_toArray, List.map_cons, List.map_nil]; rfl) ?_
          with_reducible refine ((HQ.out _ _ _ (hz2) rfl)).mono ?_
          rintro e w63 ⟨u7, rfl, hz3⟩
          refine ⟨_, rfl, ?_⟩
          refine hK.out _ _ (HS5 _ (SPR.pre5 hz3)) (fun hHeld => ?_)
          clear hK K
          refine norm_ (a' := ?_) ?_ ?_
          rotate_left
          · show Act.put _ (some 70) _ = _
            simp only [Act.put, List.setIfInBounds_toArray, List.set_cons_zero, List.set_cons_succ, i64_w, i32_w]
            rfl
          refine one_ (i := 9) (N := some 10) #[true, true, true, true, true, true, true, true, true, true, false, false] rfl rfl (by kernel_rfl) (by decide) (fun K hK => ?_)
          refine freshR_ (c := #[.int .i64 0, .int .i64 0, .string ⟨#[]⟩, .slice none 0 0, .slice none 0 0, .slice none 0 0, .int .i64 0]) (t := 30) (hz3) (by rfl) rfl ?_ ?_
          · first | (go_simp; done) | (go_simp; rfl)
          intro R9 w64 hz4
          refine hK.out _ _ (HS5 _ (SPR.pre5 hz4)) (fun hHeld => ?_)
          clear hK K
          refine norm_ (a' := ?_) ?_ ?_
          rotate_left
          · show Act.put _ (some 10) _ = _
            simp only [Act.put, List.setIfInBounds_toArray, List.set_cons_zero, List.set_cons_succ, i64_w, i32_w]
            rfl
          exact norm_ (by first | (simp only [putAll, Act.put, List.setIfInBounds_toArray, List.set_cons_zero, List.set_cons_succ]; done) | (simp only [putAll, Act.put, List.setIfInBounds_toArray, List.set_cons_zero, List.set_cons_succ, World.size_alloc]; done) | (simp only [putAll, Act.put, List.setIfInBounds_toArray, List.set_cons_zero, List.set_cons_succ, World.size_alloc]; rfl)) (hCont (R8, R9, u3, u7) _ hz4)
        · skip
          refine freshR_ (c := #[.int .i64 0, .int .i64 0, .string ⟨#[]⟩, .slice none 0 0, .slice none 0 0, .slice none 0 0, .int .i64 0]) (t := 30) (hz2) (by rfl) rfl ?_ ?_
          · first | (go_simp; done) | (go_simp; rfl)
          intro R9 w63 hz3
          refine hK.out _ _ (HS5 _ (SPR.pre5 hz3)) (fun hHeld => ?_)
          clear hK K
          refine norm_ (a' := ?_) ?_ ?_
          rotate_left
          · show Act.put _ (some 10) _ = _
            simp only [Act.put, List.setIfInBounds_toArray, List.set_cons_zero, List.set_cons_succ, i64_w, i32_w]
            rfl
          refine one_ (i := 7) (N := some 70) #[true, true, true, true, true, true, true, true, true, true, false, false] rfl rfl (by kernel_rfl) (by decide) (fun K hK => ?_)
          refine goes_ Tryz.func18 (by kernel_rfl) rfl #[.agg #[.int .i64 xa.f0, .int .i64 xa.f1, .string xa.f2, .slice A3a xa.f3.length c3a, .slice A4a xa.f4.length c4a, .slice A5a xa.f5.length c5a], .agg #[.int .i64 jb.f0, .int .i64 jb.f1, .string jb.f2, .slice B3y jb.f3.length d3y, .slice B4y jb.f4.length d4y, .slice B5y jb.f5.length d5y]] (by rfl) rfl rfl (by simp only [List.map_toArray, List.map_cons, List.map_nil]; rfl) ?_
          with_reducible refine ((HQ.out _ _ _ (hz3) rfl)).mono ?_
          rintro e w64 ⟨u7, rfl, hz4⟩
          refine ⟨_, rfl, ?_⟩
          refine hK.out _ _ (HS5 _ (SPR.pre5 hz4)) (fun hHeld => ?_)
          clear hK K
          refine norm_ (a' := ?_) ?_ ?_
          rotate_left
          · show Act.put _ (some 70) _ = _
            simp only [Act.put, List.setIfInBounds_toArray, List.set_cons_zero, List.set_cons_succ, i64_w, i32_w]
            rfl
          exact norm_ (by first | (simp only [putAll, Act.put, List.setIfInBounds_toArray, List.set_cons_zero, List.set_cons_succ]; done) | (simp only [putAll, Act.put, List.setIfInBounds_toArray, List.set_cons_zero, List.set_cons_succ, World.size_alloc]; done) | (simp only [putAll, Act.put, List.setIfInBounds_toArray, List.set_cons_zero, List.set_cons_succ, World.size_alloc]; rfl)) (hCont (R8, R9, u3, u7) _ hz4)
      · skip
        refine freshR_ (c := #[.int .i64 0, .int .i64 0, .string ⟨#[]⟩, .slice none 0 0, .slice none 0 0, .slice none 0 0, .int .i64 0]) (t := 30) (hz1) (by rfl) rfl ?_ ?_
        · first | (go_simp; done) | (go_simp; rfl)
        intro R9 w62 hz2
        refine hK.out _ _ (HS5 _ (SPR.pre5 hz2)) (fun hHeld => ?_)
        clear hK K
        refine norm_ (a' := ?_) ?_ ?_
        rotate_left
        · show Act.put _ (some 10) _ = _
          simp only [Act.put, List.setIfInBounds_toArray, List.set_cons_zero, List.set_cons_succ, i64_w, i32_w]
          rfl
        refine two_ (i := 7) (j := 8) (Ni := some 70) (Nj := some 9) #[true, true, true, true, true, true, true, true, false, true, false, false] #[true, true, true, true, true, true, true, false, true, true, false, false] rfl rfl rfl rfl (by kernel_rfl) (by decide) (by decide) (fun K hK => ?_) (fun K hK => ?_)
        · skip
          refine goes_ Tryz.func18 (by kernel_rfl) rfl #[.agg #[.int .i64 xa.f0, .int .i64 xa.f1, .string xa.f2, .slice A3a xa.f3.length c3a, .slice A4a xa.f4.length c4a, .slice A5a xa.f5.length c5a], .agg #[.int .i64 jb.f0, .int .i64 jb.f1, .string jb.f2, .slice B3y jb.f3.length d3y, .slice B4y jb.f4.length d4y, .slice B5y jb.f5.length d5y]] (by rfl) rfl rfl (by simp only [List.map_toArray, List.map_cons, List.map_nil]; rfl) ?_
          with_reducible refine ((HQ.out _ _ _ (hz2) rfl)).mono ?_
          rintro e w63 ⟨u7, rfl, hz3⟩
          refine ⟨_, rfl, ?_⟩
          refine hK.out _ _ (HS5 _ (SPR.pre5 hz3)) (fun hHeld => ?_)
          clear hK K
          refine norm_ (a' := ?_) ?_ ?_
          rotate_left
          · show Act.put _ (some 70) _ = _
            simp only [Act.put, List.setIfInBounds_toArray, List.set_cons_zero, List.set_cons_succ, i64_w, i32_w]
            rfl
          refine one_ (i := 8) (N := some 9) #[true, true, true, true, true, true, true, true, true, true, false, false] rfl rfl (by kernel_rfl) (by decide) (fun K hK => ?_)
          refine freshR_ (c := #[.int .i64 0, .int .i64 0, .string ⟨#[]⟩, .slice none 0 0, .slice none 0 0, .slice none 0 0, .int .i64 0]) (t := 30) (hz3) (by rfl) rfl ?_ ?_
          · first | (go_simp; done) | (go_simp; rfl)
          intro R8 w64 hz4
          refine hK.out _ _ (HS5 _ (SPR.pre5 hz4)) (fun hHeld => ?_)
          clear hK K
          refine norm_ (a' := ?_) ?_ ?_
          rotate_left
          · show Act.put _ (some 9) _ = _
            simp only [Act.put, List.setIfInBounds_toArray, List.set_cons_zero, List.set_cons_succ, i64_w, i32_w]
            rfl
          exact norm_ (by first | (simp only [putAll, Act.put, List.setIfInBounds_toArray, List.set_cons_zero, List.set_cons_succ]; done) | (simp only [putAll, Act.put, List.setIfInBounds_toArray, List.set_cons_zero, List.set_cons_succ, World.size_alloc]; done) | (simp only [putAll, Act.put, List.setIfInBounds_toArray, List.set_cons_zero, List.set_cons_succ, World.size_alloc]; rfl)) (hCont (R8, R9, u3, u7) _ (SPR.swap hz4))
        · skip
          refine freshR_ (c := #[.int .i64 0, .int .i64 0, .string ⟨#[]⟩, .slice none 0 0, .slice none 0 0, .slice none 0 0, .int .i64 0]) (t := 30) (hz2) (by rfl) rfl ?_ ?_
          · first | (go_simp; done) | (go_simp; rfl)
          intro R8 w63 hz3
          refine hK.out _ _ (HS5 _ (SPR.pre5 hz3)) (fun hHeld => ?_)
          clear hK K
          refine norm_ (a' := ?_) ?_ ?_
          rotate_left
          · show Act.put _ (some 9) _ = _
            simp only [Act.put, List.setIfInBounds_toArray, List.set_cons_zero, List.set_cons_succ, i64_w, i32_w]
            rfl
          refine one_ (i := 7) (N := some 70) #[true, true, true, true, true, true, true, true, true, true, false, false] rfl rfl (by kernel_rfl) (by decide) (fun K hK => ?_)
          refine goes_ Tryz.func18 (by kernel_rfl) rfl #[.agg #[.int .i64 xa.f0, .int .i64 xa.f1, .string xa.f2, .slice A3a xa.f3.length c3a, .slice A4a xa.f4.length c4a, .slice A5a xa.f5.length c5a], .agg #[.int .i64 jb.f0, .int .i64 jb.f1, .string jb.f2, .slice B3y jb.f3.length d3y, .slice B4y jb.f4.length d4y, .slice B5y jb.f5.length d5y]] (by rfl) rfl rfl (by simp only [List.map_toArray, List.map_cons, List.map_nil]; rfl) ?_
          with_reducible refine ((HQ.out _ _ _ (hz3) rfl)).mono ?_
          rintro e w64 ⟨u7, rfl, hz4⟩
          refine ⟨_, rfl, ?_⟩
          refine hK.out _ _ (HS5 _ (SPR.pre5 hz4)) (fun hHeld => ?_)
          clear hK K
          refine norm_ (a' := ?_) ?_ ?_
          rotate_left
          · show Act.put _ (some 70) _ = _
            simp only [Act.put, List.setIfInBounds_toArray, List.set_cons_zero, List.set_cons_succ, i64_w, i32_w]
            rfl
          exact norm_ (by first | (simp only [putAll, Act.put, List.setIfInBounds_toArray, List.set_cons_zero, List.set_cons_succ]; done) | (simp only [putAll, Act.put, List.setIfInBounds_toArray, List.set_cons_zero, List.set_cons_succ, World.size_alloc]; done) | (simp only [putAll, Act.put, List.setIfInBounds_toArray, List.set_cons_zero, List.set_cons_succ, World.size_alloc]; rfl)) (hCont (R8, R9, u3, u7) _ (SPR.swap hz4))
    · skip
      refine freshR_ (c := #[.int .i64 0, .int .i64 0, .string ⟨#[]⟩, .slice none 0 0, .slice none 0 0, .slice none 0 0, .int .i64 0]) (t := 30) (hHeld.2.2.2.2.2.2.2.2.2.2.2.2.2.2.2.2.2.2.2.2.2.2.2.2.2.2.2.2.2.2.2.2) (by rfl) rfl ?_ ?_
      · first | (go_simp; done) | (go_simp; rfl)
      intro R8 w61 hz1
      refine hK.out _ _ (HS5 _ (SPR.pre5 hz1)) (fun hHeld => ?_)
      clear hK K
      refine norm_ (a' := ?_) ?_ ?_
      rotate_left
      · show Act.put _ (some 9) _ = _
        simp only [Act.put, List.setIfInBounds_toArray, List.set_cons_zero, List.set_cons_succ, i64_w, i32_w]
        rfl
      refine two_ (i := 3) (j := 9) (Ni := some 66) (Nj := some 10) #[true, true, true, true, true, true, true, false, true, false, false, false] #[true, true, true, false, true, true, true, false, true, true, false, false] rfl rfl rfl rfl (by kernel_rfl) (by decide) (by decide) (fun K hK => ?_) (fun K hK => ?_)
      · skip
        refine goes_ Tryz.func18 (by kernel_rfl) rfl #[.agg #[.int .i64 ja.f0, .int .i64 ja.f1, .string ja.f2, .slice B3x ja.f3.length d3x, .slice B4x ja.f4.length d4x, .slice B5x ja.f5.length d5x], .agg #[.int .i64 xc.f0, .int .i64 xc.f1, .string xc.f2, .slice A3c xc.f3.length c3c, .slice A4c xc.f4.length c4c, .slice A5c xc.f5.length c5c]] (by rfl) rfl rfl (by simp only [List.map_toArray, List.map_cons, List.map_nil]; rfl) ?_
        with_reducible refine ((HP.out _ _ _ (hz1) rfl)).mono ?_
        rintro e w62 ⟨u3, rfl, hz2⟩
        refine ⟨_, rfl, ?_⟩
        refine hK.out _ _ (HS5 _ (SPR.pre5 hz2)) (fun hHeld => ?_)
        clear hK K
        refine norm_ (a' := ?_) ?_ ?_
        rotate_left
        · show Act.put _ (some 66) _ = _
          simp only [Act.put, List.setIfInBounds_toArray, List.set_cons_zero, List.set_cons_succ, i64_w, i32_w]
          rfl
        refine two_ (i := 7) (j := 9) (Ni := some 70) (Nj := some 10) #[true, true, true, true, true, true, true, true, true, false, false, false] #[true, true, true, true, true, true, true, false, true, true, false, false] rfl rfl rfl rfl (by kernel_rfl) (by decide) (by decide) (fun K hK => ?_) (fun K hK => ?_)
        · skip
          refine goes_ Tryz.func18 (by kernel_rfl) rfl #[.agg #[.int .i64 xa.f0, .int .i64 xa.f1, .string xa.f2, .slice A3a xa.f3.length c3a, .slice A4a xa.f4.length c4a, .slice A5a xa.f5.length c5a], .agg #[.int .i64 jb.f0, .int .i64 jb.f1, .string jb.f2, .slice B3y jb.f3.length d3y, .slice B4y jb.f4.length d4y, .slice B5y jb.f5.length d5y]] (by rfl) rfl rfl (by simp only [List.map_toArray, List.map_cons, List.map_nil]; rfl) ?_
          with_reducible refine ((HQ.out _ _ _ (hz2) rfl)).mono ?_
          rintro e w63 ⟨u7, rfl, hz3⟩
          refine ⟨_, rfl, ?_⟩
          refine hK.out _ _ (HS5 _ (SPR.pre5 hz3)) (fun hHeld => ?_)
          clear hK K
          refine norm_ (a' := ?_) ?_ ?_
          rotate_left
          · show Act.put _ (some 70) _ = _
            simp only [Act.put, List.setIfInBounds_toArray, List.set_cons_zero, List.set_cons_succ, i64_w, i32_w]
            rfl
          refine one_ (i := 9) (N := some 10) #[true, true, true, true, true, true, true, true, true, true, false, false] rfl rfl (by kernel_rfl) (by decide) (fun K hK => ?_)
          refine freshR_ (c := #[.int .i64 0, .int .i64 0, .string ⟨#[]⟩, .slice none 0 0, .slice none 0 0, .slice none 0 0, .int .i64 0]) (t := 30) (hz3) (by rfl) rfl ?_ ?_
          · first | (go_simp; done) | (go_simp; rfl)
          intro R9 w64 hz4
          refine hK.out _ _ (HS5 _ (SPR.pre5 hz4)) (fun hHeld => ?_)
          clear hK K
          refine norm_ (a' := ?_) ?_ ?_
          rotate_left
          · show Act.put _ (some 10) _ = _
            simp only [Act.put, List.setIfInBounds_toArray, List.set_cons_zero, List.set_cons_succ, i64_w, i32_w]
            rfl
          exact norm_ (by first | (simp only [putAll, Act.put, List.setIfInBounds_toArray, List.set_cons_zero, List.set_cons_succ]; done) | (simp only [putAll, Act.put, List.setIfInBounds_toArray, List.set_cons_zero, List.set_cons_succ, World.size_alloc]; done) | (simp only [putAll, Act.put, List.setIfInBounds_toArray, List.set_cons_zero, List.set_cons_succ, World.size_alloc]; rfl)) (hCont (R8, R9, u3, u7) _ hz4)
        · skip
          refine freshR_ (c := #[.int .i64 0, .int .i64 0, .string ⟨#[]⟩, .slice none 0 0, .slice none 0 0, .slice none 0 0, .int .i64 0]) (t := 30) (hz2) (by rfl) rfl ?_ ?_
          · first | (go_simp; done) | (go_simp; rfl)
          intro R9 w63 hz3
          refine hK.out _ _ (HS5 _ (SPR.pre5 hz3)) (fun hHeld => ?_)
          clear hK K
          refine norm_ (a' := ?_) ?_ ?_
          rotate_left
          · show Act.put _ (some 10) _ = _
            simp only [Act.put, List.setIfInBounds_toArray, List.set_cons_zero, List.set_cons_succ, i64_w, i32_w]
            rfl
          refine one_ (i := 7) (N := some 70) #[true, true, true, true, true, true, true, true, true, true, false, false] rfl rfl (by kernel_rfl) (by decide) (fun K hK => ?_)
          refine goes_ Tryz.func18 (by kernel_rfl) rfl #[.agg #[.int .i64 xa.f0, .int .i64 xa.f1, .string xa.f2, .slice A3a xa.f3.length c3a, .slice A4a xa.f4.length c4a, .slice A5a xa.f5.length c5a], .agg #[.int .i64 jb.f0, .int .i64 jb.f1, .string jb.f2, .slice B3y jb.f3.length d3y, .slice B4y jb.f4.length d4y, .slice B5y jb.f5.length d5y]] (by rfl) rfl rfl (by simp only [List.map_toArray, List.map_cons, List.map_nil]; rfl) ?_
          with_reducible refine ((HQ.out _ _ _ (hz3) rfl)).mono ?_
          rintro e w64 ⟨u7, rfl, hz4⟩
          refine ⟨_, rfl, ?_⟩
          refine hK.out _ _ (HS5 _ (SPR.pre5 hz4)) (fun hHeld => ?_)
          clear hK K
          refine norm_ (a' := ?_) ?_ ?_
          rotate_left
          · show Act.put _ (some 70) _ = _
            simp only [Act.put, List.setIfInBounds_toArray, List.set_cons_zero, List.set_cons_succ, i64_w, i32_w]
            rfl
          exact norm_ (by first | (simp only [putAll, Act.put, List.setIfInBounds_toArray, List.set_cons_zero, List.set_cons_succ]; done) | (simp only [putAll, Act.put, List.setIfInBounds_toArray, List.set_cons_zero, List.set_cons_succ, World.size_alloc]; done) | (simp only [putAll, Act.put, List.setIfInBounds_toArray, List.set_cons_zero, List.set_cons_succ, World.size_alloc]; rfl)) (hCont (R8, R9, u3, u7) _ hz4)
      · skip
        refine freshR_ (c := #[.int .i64 0, .int .i64 0, .string ⟨#[]⟩, .slice none 0 0, .slice none 0 0, .slice none 0 0, .int .i64 0]) (t := 30) (hz1) (by rfl) rfl ?_ ?_
        · first | (go_simp; done) | (go_simp; rfl)
        intro R9 w62 hz2
        refine hK.out _ _ (HS5 _ (SPR.pre5 hz2)) (fun hHeld => ?_)
        clear hK K
        refine norm_ (a' := ?_) ?_ ?_
        rotate_left
        · show Act.put _ (some 10) _ = _
          simp only [Act.put, List.setIfInBounds_toArray, List.set_cons_zero, List.set_cons_succ, i64_w, i32_w]
          rfl
        refine one_ (i := 3) (N := some 66) #[true, true, true, true, true, true, true, false, true, true, false, false] rfl rfl (by kernel_rfl) (by decide) (fun K hK => ?_)
        refine goes_ Tryz.func18 (by kernel_rfl) rfl #[.agg #[.int .i64 ja.f0, .int .i64 ja.f1, .string ja.f2, .slice B3x ja.f3.length d3x, .slice B4x ja.f4.length d4x, .slice B5x ja.f5.length d5x], .agg #[.int .i64 xc.f0, .int .i64 xc.f1, .string xc.f2, .slice A3c xc.f3.length c3c, .slice A4c xc.f4.length c4c, .slice A5c xc.f5.length c5c]] (by rfl) rfl rfl (by simp only [List.map_toArray, List.map_cons, List.map_nil]; rfl) ?_
        with_reducible refine ((HP.out _ _ _ (hz2) rfl)).mono ?_
        rintro e w63 ⟨u3, rfl, hz3⟩
        refine ⟨_, rfl, ?_⟩
        refine hK.out _ _ (HS5 _ (SPR.pre5 hz3)) (fun hHeld => ?_)
        clear hK K
        refine norm_ (a' := ?_) ?_ ?_
        rotate_left
        · show Act.put _ (some 66) _ = _
          simp only [Act.put, List.setIfInBounds_toArray, List.set_cons_zero, List.set_cons_succ, i64_w, i32_w]
          rfl
        refine one_ (i := 7) (N := some 70) #[true, true, true, true, true, true, true, true, true, true, false, false] rfl rfl (by kernel_rfl) (by decide) (fun K hK => ?_)
        refine goes_ Tryz.func18 (by kernel_rfl) rfl #[.agg #[.int .i64 xa.f0, .int .i64 xa.f1, .string xa.f2, .slice A3a xa.f3.length c3a, .slice A4a xa.f4.length c4a, .slice A5a xa.f5.length c5a], .agg #[.int .i64 jb.f0, .int .i64 jb.f1, .string jb.f2, .slice B3y jb.f3.length d3y, .slice B4y jb.f4.length d4y, .slice B5y jb.f5.length d5y]] (by rfl) rfl rfl (by simp only [List.map_toArray, List.map_cons, List.map_nil]; rfl) ?_
        with_reducible refine ((HQ.out _ _ _ (hz3) rfl)).mono ?_
        rintro e w64 ⟨u7, rfl, hz4⟩
        refine ⟨_, rfl, ?_⟩
        refine hK.out _ _ (HS5 _ (SPR.pre5 hz4)) (fun hHeld => ?_)
        clear hK K
        refine norm_ (a' := ?_) ?_ ?_
        rotate_left
        · show Act.put _ (some 70) _ = _
          simp only [Act.put, List.setIfInBounds_toArray, List.set_cons_zero, List.set_cons_succ, i64_w, i32_w]
          rfl
        exact norm_ (by first | (simp only [putAll, Act.put, List.setIfInBounds_toArray, List.set_cons_zero, List.set_cons_succ]; done) | (simp only [putAll, Act.put, List.setIfInBounds_toArray, List.set_cons_zero, List.set_cons_succ, World.size_alloc]; done) | (simp only [putAll, Act.put, List.setIfInBounds_toArray, List.set_cons_zero, List.set_cons_succ, World.size_alloc]; rfl)) (hCont (R8, R9, u3, u7) _ hz4)
    · skip
      refine freshR_ (c := #[.int .i64 0, .int .i64 0, .string ⟨#[]⟩, .slice none 0 0, .slice none 0 0, .slice none 0 0, .int .i64 0]) (t := 30) (hHeld.2.2.2.2.2.2.2.2.2.2.2.2.2.2.2.2.2.2.2.2.2.2.2.2.2.2.2.2.2.2.2.2) (by rfl) rfl ?_ ?_
      · first | (go_simp; done) | (go_simp; rfl)
      intro R9 w61 hz1
      refine hK.out _ _ (HS5 _ (SPR.pre5 hz1)) (fun hHeld => ?_)
      clear hK K
      refine norm_ (a' := ?_) ?_ ?_
      rotate_left
      · show Act.put _ (some 10) _ = _
        simp only [Act.put, List.setIfInBounds_toArray, List.set_cons_zero, List.set_cons_succ, i64_w, i32_w]
        rfl
      refine two_ (i := 3) (j := 8) (Ni := some 66) (Nj := some 9) #[true, true, true, true, true, true, true, false, false, true, false, false] #[true, true, true, false, true, true, true, false, true, true, false, false] rfl rfl rfl rfl (by kernel_rfl) (by decide) (by decide) (fun K hK => ?_) (fun K hK => ?_)
      · skip
        refine goes_ Tryz.func18 (by kernel_rfl) rfl #[.agg #[.int .i64 ja.f0, .int .i64 ja.f1, .string ja.f2, .slice B3x ja.f3.length d3x, .slice B4x ja.f4.length d4x, .slice B5x ja.f5.length d5x], .agg #[.int .i64 xc.f0, .int .i64 xc.f1, .string xc.f2, .slice A3c xc.f3.length c3c, .slice A4c xc.f4.length c4c, .slice A5c xc.f5.length c5c]] (by rfl) rfl rfl (by simp only [List.map_toArray, List.map_cons, List.map_nil]; rfl) ?_
        with_reducible refine ((HP.out _ _ _ (hz1) rfl)).mono ?_
        rintro e w62 ⟨u3, rfl, hz2⟩
        refine ⟨_, rfl, ?_⟩
        refine hK.out _ _ (HS5 _ (SPR.pre5 hz2)) (fun hHeld => ?_)
        clear hK K
        refine norm_ (a' := ?_) ?_ ?_
        rotate_left
        · show Act.put _ (some 66) _ = _
          simp only [Act.put, List.setIfInBounds_toArray, List.set_cons_zero, List.set_cons_succ, i64_w, i32_w]
          rfl
        refine two_ (i := 7) (j := 8) (Ni := some 70) (Nj := some 9) #[true, true, true, true, true, true, true, true, false, true, false, false] #[true, true, true, true, true, true, true, false, true, true, false, false] rfl rfl rfl rfl (by kernel_rfl) (by decide) (by decide) (fun K hK => ?_) (fun K hK => ?_)
        · skip
          refine goes_ Tryz.func18 (by kernel_rfl) rfl #[.agg #[.int .i64 xa.f0, .int .i64 xa.f1, .string xa.f2, .slice A3a xa.f3.length c3a, .slice A4a xa.f4.length c4a, .slice A5a xa.f5.length c5a], .agg #[.int .i64 jb.f0, .int .i64 jb.f1, .string jb.f2, .slice B3y jb.f3.length d3y, .slice B4y jb.f4.length d4y, .slice B5y jb.f5.length d5y]] (by rfl) rfl rfl (by simp only [List.map_toArray, List.map_cons, List.map_nil]; rfl) ?_
          with_reducible refine ((HQ.out _ _ _ (hz2) rfl)).mono ?_
          rintro e w63 ⟨u7, rfl, hz3⟩
          refine ⟨_, rfl, ?_⟩
          refine hK.out _ _ (HS5 _ (SPR.pre5 hz3)) (fun hHeld => ?_)
          clear hK K
          refine norm_ (a' := ?_) ?_ ?_
          rotate_left
          · show Act.put _ (some 70) _ = _
            simp only [Act.put, List.setIfInBounds_toArray, List.set_cons_zero, List.set_cons_succ, i64_w, i32_w]
            rfl
          refine one_ (i := 8) (N := some 9) #[true, true, true, true, true, true, true, true, true, true, false, false] rfl rfl (by kernel_rfl) (by decide) (fun K hK => ?_)
          refine freshR_ (c := #[.int .i64 0, .int .i64 0, .string ⟨#[]⟩, .slice none 0 0, .slice none 0 0, .slice none 0 0, .int .i64 0]) (t := 30) (hz3) (by rfl) rfl ?_ ?_
          · first | (go_simp; done) | (go_simp; rfl)
          intro R8 w64 hz4
          refine hK.out _ _ (HS5 _ (SPR.pre5 hz4)) (fun hHeld => ?_)
          clear hK K
          refine norm_ (a' := ?_) ?_ ?_
          rotate_left
          · show Act.put _ (some 9) _ = _
            simp only [Act.put, List.setIfInBounds_toArray, List.set_cons_zero, List.set_cons_succ, i64_w, i32_w]
            rfl
          exact norm_ (by first | (simp only [putAll, Act.put, List.setIfInBounds_toArray, List.set_cons_zero, List.set_cons_succ]; done) | (simp only [putAll, Act.put, List.setIfInBounds_toArray, List.set_cons_zero, List.set_cons_succ, World.size_alloc]; done) | (simp only [putAll, Act.put, List.setIfInBounds_toArray, List.set_cons_zero, List.set_cons_succ, World.size_alloc]; rfl)) (hCont (R8, R9, u3, u7) _ (SPR.swap hz4))
        · skip
          refine freshR_ (c := #[.int .i64 0, .int .i64 0, .string ⟨#[]⟩, .slice none 0 0, .slice none 0 0, .slice none 0 0, .int .i64 0]) (t := 30) (hz2) (by rfl) rfl ?_ ?_
          · first | (go_simp; done) | (go_simp; rfl)
          intro R8 w63 hz3
          refine hK.out _ _ (HS5 _ (SPR.pre5 hz3)) (fun hHeld => ?_)
          clear hK K
          refine norm_ (a' := ?_) ?_ ?_
          rotate_left
          · show Act.put _ (some 9) _ = _
            simp only [Act.put, List.setIfInBounds_toArray, List.set_cons_zero, List.set_cons_succ, i64_w, i32_w]
            rfl
          refine one_ (i := 7) (N := some 70) #[true, true, true, true, true, true, true, true, true, true, false, false] rfl rfl (by kernel_rfl) (by decide) (fun K hK => ?_)
          refine goes_ Tryz.func18 (by kernel_rfl) rfl #[.agg #[.int .i64 xa.f0, .int .i64 xa.f1, .string xa.f2, .slice A3a xa.f3.length c3a, .slice A4a xa.f4.length c4a, .slice A5a xa.f5.length c5a], .agg #[.int .i64 jb.f0, .int .i64 jb.f1, .string jb.f2, .slice B3y jb.f3.length d3y, .slice B4y jb.f4.length d4y, .slice B5y jb.f5.length d5y]] (by rfl) rfl rfl (by simp only [List.map_toArray, List.map_cons, List.map_nil]; rfl) ?_
          with_reducible refine ((HQ.out _ _ _ (hz3) rfl)).mono ?_
          rintro e w64 ⟨u7, rfl, hz4⟩
          refine ⟨_, rfl, ?_⟩
          refine hK.out _ _ (HS5 _ (SPR.pre5 hz4)) (fun hHeld => ?_)
          clear hK K
          refine norm_ (a' := ?_) ?_ ?_
          rotate_left
          · show Act.put _ (some 70) _ = _
            simp only [Act.put, List.setIfInBounds_toArray, List.set_cons_zero, List.set_cons_succ, i64_w, i32_w]
            rfl
          exact norm_ (by first | (simp only [putAll, Act.put, List.setIfInBounds_toArray, List.set_cons_zero, List.set_cons_succ]; done) | (simp only [putAll, Act.put, List.setIfInBounds_toArray, List.set_cons_zero, List.set_cons_succ, World.size_alloc]; done) | (simp only [putAll, Act.put, List.setIfInBounds_toArray, List.set_cons_zero, List.set_cons_succ, World.size_alloc]; rfl)) (hCont (R8, R9, u3, u7) _ (SPR.swap hz4))
      · skip
        refine freshR_ (c := #[.int .i64 0, .int .i64 0, .string ⟨#[]⟩, .slice none 0 0, .slice none 0 0, .slice none 0 0, .int .i64 0]) (t := 30) (hz1) (by rfl) rfl ?_ ?_
        · first | (go_simp; done) | (go_simp; rfl)
        intro R8 w62 hz2
        refine hK.out _ _ (HS5 _ (SPR.pre5 hz2)) (fun hHeld => ?_)
        clear hK K
        refine norm_ (a' := ?_) ?_ ?_
        rotate_left
        · show Act.put _ (some 9) _ = _
          simp only [Act.put, List.setIfInBounds_toArray, List.set_cons_zero, List.set_cons_succ, i64_w, i32_w]
          rfl
        refine one_ (i := 3) (N := some 66) #[true, true, true, true, true, true, true, false, true, true, false, false] rfl rfl (by kernel_rfl) (by decide) (fun K hK => ?_)
        refine goes_ Tryz.func18 (by kernel_rfl) rfl #[.agg #[.int .i64 ja.f0, .int .i64 ja.f1, .string ja.f2, .slice B3x ja.f3.length d3x, .slice B4x ja.f4.length d4x, .slice B5x ja.f5.length d5x], .agg #[.int .i64 xc.f0, .int .i64 xc.f1, .string xc.f2, .slice A3c xc.f3.length c3c, .slice A4c xc.f4.length c4c, .slice A5c xc.f5.length c5c]] (by rfl) rfl rfl (by simp only [List.map_toArray, List.map_cons, List.map_nil]; rfl) ?_
        with_reducible refine ((HP.out _ _ _ (hz2) rfl)).mono ?_
        rintro e w63 ⟨u3, rfl, hz3⟩
        refine ⟨_, rfl, ?_⟩
        refine hK.out _ _ (HS5 _ (SPR.pre5 hz3)) (fun hHeld => ?_)
        clear hK K
        refine norm_ (a' := ?_) ?_ ?_
        rotate_left
        · show Act.put _ (some 66) _ = _
          simp only [Act.put, List.setIfInBounds_toArray, List.set_cons_zero, List.set_cons_succ, i64_w, i32_w]
          rfl
        refine one_ (i := 7) (N := some 70) #[true, true, true, true, true, true, true, true, true, true, false, false] rfl rfl (by kernel_rfl) (by decide) (fun K hK => ?_)
        refine goes_ Tryz.func18 (by kernel_rfl) rfl #[.agg #[.int .i64 xa.f0, .int .i64 xa.f1, .string xa.f2, .slice A3a xa.f3.length c3a, .slice A4a xa.f4.length c4a, .slice A5a xa.f5.length c5a], .agg #[.int .i64 jb.f0, .int .i64 jb.f1, .string jb.f2, .slice B3y jb.f3.length d3y, .slice B4y jb.f4.length d4y, .slice B5y jb.f5.length d5y]] (by rfl) rfl rfl (by simp only [List.map_toArray, List.map_cons, List.map_nil]; rfl) ?_
        with_reducible refine ((HQ.out _ _ _ (hz3) rfl)).mono ?_
        rintro e w64 ⟨u7, rfl, hz4⟩
        refine ⟨_, rfl, ?_⟩
        refine hK.out _ _ (HS5 _ (SPR.pre5 hz4)) (fun hHeld => ?_)
        clear hK K
        refine norm_ (a' := ?_) ?_ ?_
        rotate_left
        · show Act.put _ (some 70) _ = _
          simp only [Act.put, List.setIfInBounds_toArray, List.set_cons_zero, List.set_cons_succ, i64_w, i32_w]
          rfl
        exact norm_ (by first | (simp only [putAll, Act.put, List.setIfInBounds_toArray, List.set_cons_zero, List.set_cons_succ]; done) | (simp only [putAll, Act.put, List.setIfInBounds_toArray, List.set_cons_zero, List.set_cons_succ, World.size_alloc]; done) | (simp only [putAll, Act.put, List.setIfInBounds_toArray, List.set_cons_zero, List.set_cons_succ, World.size_alloc]; rfl)) (hCont (R8, R9, u3, u7) _ (SPR.swap hz4))
  rintro ⟨U, W, cp, cq⟩ w' hF
  change SPR w [(A, cv xa A3a c3a A4a c4a A5a c5a, 26), (B, cv xb A3b c3b A4b c4b A5b c5b, 26), (C, cv xc A3c c3c A4c c4c A5c c5c, 26), (R, rc ja B3x d3x B4x d4x B5x d5x, 30), (T, rc jb B3y d3y B4y d4y B5y d5y, 30), (U, z7, 30), (W, z7, 30)] [(ja, rc ja B3x d3x B4x d4x B5x d5x), (jb, rc jb B3y d3y B4y d4y B5y d5y), (jp, cp), (jq, cq)] w' at hF
  obtain ⟨B3p, d3p, B4p, d4p, B5p, d5p, rfl⟩ := hF.cells 2 rfl
  obtain ⟨B3q, d3q, B4q, d4q, B5q, d5q, rfl⟩ := hF.cells 3 rfl
  have hHeld : w'.cell? ⟨A, 0, none⟩ = some (.int .i64 xa.f0) ∧ w'.cell? ⟨A, 1, none⟩ = some (.int .i64 xa.f1) ∧ w'.cell? ⟨A, 2, none⟩ = some (.string xa.f2) ∧ w'.cell? ⟨A, 3, none⟩ = some (.slice A3a xa.f3.length c3a) ∧ w'.cell? ⟨A, 4, none⟩ = some (.slice A4a xa.f4.length c4a) ∧ w'.cell? ⟨A, 5, none⟩ = some (.slice A5a xa.f5.length c5a) ∧ w'.cell? ⟨B, 0, none⟩ = some (.int .i64 xb.f0) ∧ w'.cell? ⟨B, 1, none⟩ = some (.int .i64 xb.f1) ∧ w'.cell? ⟨B, 2, none⟩ = some (.string xb.f2) ∧ w'.cell? ⟨B, 3, none⟩ = some (.slice A3b xb.f3.length c3b) ∧ w'.cell? ⟨B, 4, none⟩ = some (.slice A4b xb.f4.length c4b) ∧ w'.cell? ⟨B, 5, none⟩ = some (.slice A5b xb.f5.length c5b) ∧ w'.cell? ⟨C, 0, none⟩ = some (.int .i64 xc.f0) ∧ w'.cell? ⟨C, 1, none⟩ = some (.int .i64 xc.f1) ∧ w'.cell? ⟨C, 2, none⟩ = some (.string xc.f2) ∧ w'.cell? ⟨C, 3, none⟩ = some (.slice A3c xc.f3.length c3c) ∧ w'.cell? ⟨C, 4, none⟩ = some (.slice A4c xc.f4.length c4c) ∧ w'.cell? ⟨C, 5, none⟩ = some (.slice A5c xc.f5.length c5c) ∧ w'.cell? ⟨R, 0, none⟩ = some (.int .i64 ja.f0) ∧ w'.cell? ⟨R, 1, none⟩ = some (.int .i64 ja.f1) ∧ w'.cell? ⟨R, 2, none⟩ = some (.string ja.f2) ∧ w'.cell? ⟨R, 3, none⟩ = some (.slice B3x ja.f3.length d3x) ∧ w'.cell? ⟨R, 4, none⟩ = some (.slice B4x ja.f4.length d4x) ∧ w'.cell? ⟨R, 5, none⟩ = some (.slice B5x ja.f5.length d5x) ∧ w'.cell? ⟨R, 6, none⟩ = some (.int .i64 0) ∧ w'.cell? ⟨T, 0, none⟩ = some (.int .i64 jb.f0) ∧ w'.cell? ⟨T, 1, none⟩ = some (.int .i64 jb.f1) ∧ w'.cell? ⟨T, 2, none⟩ = some (.string jb.f2) ∧ w'.cell? ⟨T, 3, none⟩ = some (.slice B3y jb.f3.length d3y) ∧ w'.cell? ⟨T, 4, none⟩ = some (.slice B4y jb.f4.length d4y) ∧ w'.cell? ⟨T, 5, none⟩ = some (.slice B5y jb.f5.length d5y) ∧ w'.cell? ⟨T, 6, none⟩ = some (.int .i64 0) ∧ SPR w [(A, cv xa A3a c3a A4a c4a A5a c5a, 26), (B, cv xb A3b c3b A4b c4b A5b c5b, 26), (C, cv xc A3c c3c A4c c4c A5c c5c, 26), (R, rc ja B3x d3x B4x d4x B5x d5x, 30), (T, rc jb B3y d3y B4y d4y B5y d5y, 30)] [(ja, rc ja B3x d3x B4x d4x B5x d5x), (jb, rc jb B3y d3y B4y d4y B5y d5y)] w' := (HS5 _ (SPR.pre5 hF))
  refine norm_ (a' := ?_) ?_ ?_
  rotate_left
  · simp only [putAll, Act.put, List.setIfInBounds_toArray, List.set_cons_zero, List.set_cons_succ]
    rfl
  refine one_ (i := 10) (N := none) #[true, true, true, true, true, true, true, true, true, true, true, false] rfl rfl (by kernel_rfl) (by decide) (fun K hK => ?_)
  obtain ⟨y0, y1, y2, y3, y4, y5, y6, f0, f1, f2, f3, f4, f5, f6⟩ := sev_cells (hF.get 5 rfl)
  refine put7R_ (v0 := .int .i64 jp.f0) (v1 := .int .i64 jp.f1) (v2 := .string jp.f2) (v3 := .slice B3p jp.f3.length d3p) (v4 := .slice B4p jp.f4.length d4p) (v5 := .slice B5p jp.f5.length d5p) (v6 := .int .i64 0) hF 5 rfl (by rfl) rfl ?_ ?_
  · first | (go_simp; done) | (go_simp; rfl)
  clear y0 y1 y2 y3 y4 y5 y6 f0 f1 f2 f3 f4 f5 f6
  intro w68 hz8
  change SPR w [(A, cv xa A3a c3a A4a c4a A5a c5a, 26), (B, cv xb A3b c3b A4b c4b A5b c5b, 26), (C, cv xc A3c c3c A4c c4c A5c c5c, 26), (R, rc ja B3x d3x B4x d4x B5x d5x, 30), (T, rc jb B3y d3y B4y d4y B5y d5y, 30), (U, rc jp B3p d3p B4p d4p B5p d5p, 30), (W, z7, 30)] [(ja, rc ja B3x d3x B4x d4x B5x d5x), (jb, rc jb B3y d3y B4y d4y B5y d5y), (jp, rc jp B3p d3p B4p d4p B5p d5p), (jq, rc jq B3q d3q B4q d4q B5q d5q)] w68 at hz8
  refine hK.out _ _ (HS5 _ (SPR.pre5 hz8)) (fun hHeld => ?_)
  clear hK K
  refine one_ (i := 11) (N := none) #[true, true, true, true, true, true, true, true, true, true, true, true] rfl rfl (by kernel_rfl) (by decide) (fun K hK => ?_)
  obtain ⟨y0, y1, y2, y3, y4, y5, y6, f0, f1, f2, f3, f4, f5, f6⟩ := sev_cells (hz8.get 6 rfl)
  refine put7R_ (v0 := .int .i64 jq.f0) (v1 := .int .i64 jq.f1) (v2 := .string jq.f2) (v3 := .slice B3q jq.f3.length d3q) (v4 := .slice B4q jq.f4.length d4q) (v5 := .slice B5q jq.f5.length d5q) (v6 := .int .i64 0) hz8 6 rfl (by rfl) rfl ?_ ?_
  · first | (go_simp; done) | (go_simp; rfl)
  clear y0 y1 y2 y3 y4 y5 y6 f0 f1 f2 f3 f4 f5 f6
  intro w69 hz9
  change SPR w [(A, cv xa A3a c3a A4a c4a A5a c5a, 26), (B, cv xb A3b c3b A4b c4b A5b c5b, 26), (C, cv xc A3c c3c A4c c4c A5c c5c, 26), (R, rc ja B3x d3x B4x d4x B5x d5x, 30), (T, rc jb B3y d3y B4y d4y B5y d5y, 30), (U, rc jp B3p d3p B4p d4p B5p d5p, 30), (W, rc jq B3q d3q B4q d4q B5q d5q, 30)] [(ja, rc ja B3x d3x B4x d4x B5x d5x), (jb, rc jb B3y d3y B4y d4y B5y d5y), (jp, rc jp B3p d3p B4p d4p B5p d5p), (jq, rc jq B3q d3q B4q d4q B5q d5q)] w69 at hz9
  refine hK.out _ _ (HS5 _ (SPR.pre5 hz9)) (fun hHeld => ?_)
  clear hK K
  refine done_ (by kernel_rfl) ?_
  have HZ3 := Lib.hid hz9
  clear hz9 hz8 hF hHeld
  have HWP : Hid (WL jp ∧ WL jq) := Lib.hid ⟨by rw [HJ.out.2.2.1]; exact wl_joinV HWJ.out.1 HW3.out (by have := HJF.out; have := HN.out; omega), by rw [HJ.out.2.2.2]; exact wl_joinV HW1.out HWJ.out.2 (by have := HJF.out; have := HN.out; omega)⟩
  have HG : Hid (∀ w1, SPR w [(A, cv xa A3a c3a A4a c4a A5a c5a, 26), (B, cv xb A3b c3b A4b c4b A5b c5b, 26), (C, cv xc A3c c3c A4c c4c A5c c5c, 26), (R, rc ja B3x d3x B4x d4x B5x d5x, 30), (T, rc jb B3y d3y B4y d4y B5y d5y, 30), (U, rc jp B3p d3p B4p d4p B5p d5p, 30), (W, rc jq B3q d3q B4q d4q B5q d5q, 30)] [(ja, rc ja B3x d3x B4x d4x B5x d5x), (jb, rc jb B3y d3y B4y d4y B5y d5y), (jp, rc jp B3p d3p B4p d4p B5p d5p), (jq, rc jq B3q d3q B4q d4q B5q d5q)] w1 → Calls Tryz.prog 19 #[.agg #[.int .i64 jp.f0, .int .i64 jp.f1, .string jp.f2, .slice B3p jp.f3.length d3p, .slice B4p jp.f4.length d4p, .slice B5p jp.f5.length d5p, .int .i64 0], .agg #[.int .i64 jq.f0, .int .i64 jq.f1, .string jq.f2, .slice B3q jq.f3.length d3q, .slice B4q jq.f4.length d4q, .slice B5q jq.f5.length d5q]] w1 fun e w' => e = .returned (.bool true) ∧ Below w1.heap.size w1 w') := Lib.hid (fun w1 h => by
    have h1 := given_any w1 jp jq HWP.out.1 HWP.out.2 (h.held 2 rfl) (h.held 3 rfl) w1 (Below.refl _ _)
    simp only [vl, rv] at h1
    rw [show (cmpV jp jq == 0) = true by rw [HEQ.out, cmpV_self]; rfl] at h1
    exact h1)
  have hl3 := HLEN.out.1
  have hl2 := HLEN.out.2
  have ya := six_cells (HZ3.out.get 0 rfl)
  have yb := six_cells (HZ3.out.get 1 rfl)
  have yr := sev_cells (HZ3.out.get 3 rfl)
  have yt := sev_cells (HZ3.out.get 4 rfl)
  have yu := sev_cells (HZ3.out.get 5 rfl)
  have yw := sev_cells (HZ3.out.get 6 rfl)
  go_wp2_with fail
  refine (HG.out w69 HZ3.out).mono ?_
  rintro e w70 ⟨rfl, hb⟩
  have hz := HZ3.out.below hb
  clear hb ya yb yr yt yu yw
  have yw := sev_cells (hz.get 6 rfl)
  have HZ4 := Lib.hid hz.bel
  clear hz
  go_wp2_with fail
  go_ret
  exact ⟨rfl, HZ4.out⟩
  all_goals (exfalso; rename_i hh; apply hh; have h1 := HJF.out; have h2 := HN.out; have h3 := SZa.out; have h4 := SZb.out; unfold wrap64; omega)
end Go.Proofs.YtdaiodiafahkkaaGreatDoor.ValA
