/-
FnAddLists: sums of arrays, of texts.
-/
import Derived.Test.YtdaiodiafahkkaaGreatDoorLawI
import Derived.Test.YtdaiodiafahkkaaGreatDoorLawJ
set_option linter.unusedSimpArgs false
set_option linter.unusedVariables false
namespace Go.Proofs.YtdaiodiafahkkaaGreatDoor.ValA
open Go.RowKit Go.Lib Go.Proofs.YtdaiodiafahkkaaGreatDoorW.PrintWords Go.Proofs.YtdaiodiafahkkaaGreatDoorW.PrintLast Go.Proofs.YtdaiodiafahkkaaGreatDoorW.PrintMore Go.Proofs.YtdaiodiafahkkaaGreatDoor.PzzFits1 Go.Proofs.YtdaiodiafahkkaaGreatDoor.NumA
attribute [local go_sem] run_val
set_option maxRecDepth 100000 in
set_option maxHeartbeats 20000000 in
theorem fnAddLists_0 (w0 : World) (hE : Env w0) (xa : V) (hza : Sz xa) (Ka Ha : Int) (sa : ByteArray) (A3a A4a A5a : Option Addr) (n3a c3a n4a c4a n5a c5a : Nat) (hKa : k26.K w0 xa [.int .i64 Ka, .int .i64 Ha, .string sa, .slice A3a n3a c3a, .slice A4a n4a c4a, .slice A5a n5a c5a]) (xb : V) (hzb : Sz xb) (Kb Hb : Int) (sb : ByteArray) (A3b A4b A5b : Option Addr) (n3b c3b n4b c4b n5b c5b : Nat) (hKb : k26.K w0 xb [.int .i64 Kb, .int .i64 Hb, .string sb, .slice A3b n3b c3b, .slice A4b n4b c4b, .slice A5b n5b c5b]) (xc : V) (hzc : Sz xc) (Kc Hc : Int) (sc : ByteArray) (A3c A4c A5c : Option Addr) (n3c c3c n4c c4c n5c c5c : Nat) (hKc : k26.K w0 xc [.int .i64 Kc, .int .i64 Hc, .string sc, .slice A3c n3c c3c, .slice A4c n4c c4c, .slice A5c n5c c5c]) (hk : ¬(xa.f0 = 4 ∨ xa.f0 = 5)) :
    Calls Tryz.prog 3 #[.agg #[.int .i64 Ka, .int .i64 Ha, .string sa, .slice A3a n3a c3a, .slice A4a n4a c4a, .slice A5a n5a c5a], .agg #[.int .i64 Kb, .int .i64 Hb, .string sb, .slice A3b n3b c3b, .slice A4b n4b c4b, .slice A5b n5b c5b], .agg #[.int .i64 Kc, .int .i64 Hc, .string sc, .slice A3c n3c c3c, .slice A4c n4c c4c, .slice A5c n5c c5c]] w0 fun e w' => e = .returned (.bool true) ∧ Below w0.heap.size w0 w' := by
  have HKX := Lib.hid hk
  clear hk
  obtain ⟨w, hw⟩ : ∃ w, w = w0 := ⟨_, rfl⟩
  obtain ⟨B3, e3, B4, e4, B5, e5, he, l3, g3, l4, g4, l5, g5⟩ := k26_open hKa
  simp only [List.cons.injEq, Value.int.injEq, Value.string.injEq, Value.slice.injEq, true_and, and_true] at he
  obtain ⟨rfl, rfl, rfl, ⟨rfl, rfl, rfl⟩, ⟨rfl, rfl, rfl⟩, ⟨rfl, rfl, rfl⟩⟩ := he
  clear l3 g3 l4 g4 l5 g5
  obtain ⟨B3, e3, B4, e4, B5, e5, he, l3, g3, l4, g4, l5, g5⟩ := k26_open hKb
  simp only [List.cons.injEq, Value.int.injEq, Value.string.injEq, Value.slice.injEq, true_and, and_true] at he
  obtain ⟨rfl, rfl, rfl, ⟨rfl, rfl, rfl⟩, ⟨rfl, rfl, rfl⟩, ⟨rfl, rfl, rfl⟩⟩ := he
  clear l3 g3 l4 g4 l5 g5
  obtain ⟨B3, e3, B4, e4, B5, e5, he, l3, g3, l4, g4, l5, g5⟩ := k26_open hKc
  simp only [List.cons.injEq, Value.int.injEq, Value.string.injEq, Value.slice.injEq, true_and, and_true] at he
  obtain ⟨rfl, rfl, rfl, ⟨rfl, rfl, rfl⟩, ⟨rfl, rfl, rfl⟩, ⟨rfl, rfl, rfl⟩⟩ := he
  clear l3 g3 l4 g4 l5 g5
  have HFa := Lib.hid (fun w1 hb => fits1_size w0 xa xa.f0 xa.f1 xa.f2 A3a A4a A5a xa.f3.length c3a xa.f4.length c4a xa.f5.length c5a hKa w1 hb)
  have HTa := Lib.hid (fun h => toGo_any w0 _ xa (Nat.lt_succ_self _) hza h _ hKa)
  have HFb := Lib.hid (fun w1 hb => fits1_size w0 xb xb.f0 xb.f1 xb.f2 A3b A4b A5b xb.f3.length c3b xb.f4.length c4b xb.f5.length c5b hKb w1 hb)
  have HTb := Lib.hid (fun h => toGo_any w0 _ xb (Nat.lt_succ_self _) hzb h _ hKb)
  have HFc := Lib.hid (fun w1 hb => fits1_size w0 xc xc.f0 xc.f1 xc.f2 A3c A4c A5c xc.f3.length c3c xc.f4.length c4c xc.f5.length c5c hKc w1 hb)
  have HTc := Lib.hid (fun h => toGo_any w0 _ xc (Nat.lt_succ_self _) hzc h _ hKc)
  have HFI := Lib.hid (fun w1 hb => fit_two w0 hE xa hza xa.f0 xa.f1 xa.f2 A3a A4a A5a xa.f3.length c3a xa.f4.length c4a xa.f5.length c5a hKa xb hzb xb.f0 xb.f1 xb.f2 A3b A4b A5b xb.f3.length c3b xb.f4.length c4b xb.f5.length c5b hKb w1 hb)
  have HFC := Lib.hid (fun w1 hb => fit_any w0 hE xc hzc xc.f0 xc.f1 xc.f2 A3c A4c A5c xc.f3.length c3c xc.f4.length c4c xc.f5.length c5c hKc w1 hb)
  have HSZ := Lib.hid (And.intro hza (And.intro hzb hzc))
  clear hE hza hKa hzb hKb hzc hKc
  subst hw
  go_enter Tryz.func3, Tryz.ntmps3
  go_wp2_with fail
  obtain ⟨A, hA⟩ : ∃ A, A = w.heap.size := ⟨_, rfl⟩
  obtain ⟨B, hB⟩ : ∃ B, B = w.heap.size + 1 := ⟨_, rfl⟩
  obtain ⟨C, hC⟩ : ∃ C, C = w.heap.size + 1 + 1 := ⟨_, rfl⟩
  obtain ⟨W0, hW0⟩ : ∃ W0, W0 = ((w.alloc (.cells #[.int .i64 xa.f0, .int .i64 xa.f1, .string xa.f2, .slice A3a xa.f3.length c3a, .slice A4a xa.f4.length c4a, .slice A5a xa.f5.length c5a] 26)).alloc (.cells #[.int .i64 xb.f0, .int .i64 xb.f1, .string xb.f2, .slice A3b xb.f3.length c3b, .slice A4b xb.f4.length c4b, .slice A5b xb.f5.length c5b] 26)).alloc (.cells #[.int .i64 xc.f0, .int .i64 xc.f1, .string xc.f2, .slice A3c xc.f3.length c3c, .slice A4c xc.f4.length c4c, .slice A5c xc.f5.length c5c] 26) := ⟨_, rfl⟩
  have hd0 : A ≠ B ∧ A ≠ C ∧ B ≠ C ∧ w.heap.size ≤ A ∧ w.heap.size ≤ B ∧ w.heap.size ≤ C := by omega
  have h0 : SPL w [(A, #[.int .i64 xa.f0, .int .i64 xa.f1, .string xa.f2, .slice A3a xa.f3.length c3a, .slice A4a xa.f4.length c4a, .slice A5a xa.f5.length c5a], 26), (B, #[.int .i64 xb.f0, .int .i64 xb.f1, .string xb.f2, .slice A3b xb.f3.length c3b, .slice A4b xb.f4.length c4b, .slice A5b xb.f5.length c5b], 26), (C, #[.int .i64 xc.f0, .int .i64 xc.f1, .string xc.f2, .slice A3c xc.f3.length c3c, .slice A4c xc.f4.length c4c, .slice A5c xc.f5.length c5c], 26)] W0 := by rw [hA, hB, hC, hW0]; exact SPL.three w _ _ _ _ _ _
  rw [← hW0, ← hC, ← hB, ← hA]
  have H0 := Lib.hid h0
  have HD := Lib.hid hd0
  clear h0 hW0 hA hB hC hd0
  have y := six_cells (H0.out.get 0 rfl)
  go_wp2_with fail
  refine (HFa.out W0 H0.out.1).mono ?_
  rintro e w1 ⟨r, rfl, hr, hb⟩
  have H1 := Lib.hid (H0.out.below hb)
  clear hb H0 y HFa
  cases r with
  | false =>
    go_wp2_with fail
    go_ret
    exact ⟨rfl, H1.out.1⟩
  | true =>
  have SZa := Lib.hid (hr (by trivial))
  clear hr
  have y := six_cells (H1.out.get 1 rfl)
  go_wp2_with fail
  refine (HFb.out w1 H1.out.1).mono ?_
  rintro e w2 ⟨r, rfl, hr, hb⟩
  have H2 := Lib.hid (H1.out.below hb)
  clear hb H1 y HFb
  cases r with
  | false =>
    go_wp2_with fail
    go_ret
    exact ⟨rfl, H2.out.1⟩
  | true =>
  have SZb := Lib.hid (hr (by trivial))
  clear hr
  have y := six_cells (H2.out.get 2 rfl)
  go_wp2_with fail
  refine (HFc.out w2 H2.out.1).mono ?_
  rintro e w3 ⟨r, rfl, hr, hb⟩
  have H3 := Lib.hid (H2.out.below hb)
  clear hb H2 y HFc
  cases r with
  | false =>
    go_wp2_with fail
    go_ret
    exact ⟨rfl, H3.out.1⟩
  | true =>
  have SZc := Lib.hid (hr (by trivial))
  clear hr
  have ya := six_cells (H3.out.get 0 rfl)
  have yb := six_cells (H3.out.get 1 rfl)
  go_wp2_with fail
  refine (HFI.out w3 H3.out.1).mono ?_
  rintro e w4 ⟨r, rfl, hr, hb⟩
  have H4 := Lib.hid (H3.out.below hb)
  clear hb H3 ya yb HFI
  cases r with
  | false =>
    go_wp2_with fail
    go_ret
    exact ⟨rfl, H4.out.1⟩
  | true =>
  have HW := Lib.hid (hr (by trivial))
  clear hr
  have yc := six_cells (H4.out.get 2 rfl)
  go_wp2_with fail
  refine (HFC.out w4 H4.out.1).mono ?_
  rintro e w5 ⟨r, rfl, hr, hb⟩
  have H5 := Lib.hid (H4.out.below hb)
  clear hb H4 yc HFC
  cases r with
  | false =>
    go_wp2_with fail
    go_ret
    exact ⟨rfl, H5.out.1⟩
  | true =>
  have HWC := Lib.hid (hr (by trivial))
  clear hr
  have ya := six_cells (H5.out.get 0 rfl)
  have yb := six_cells (H5.out.get 1 rfl)
  have yc := six_cells (H5.out.get 2 rfl)
  by_cases k1 : xa.f0 = xb.f0
  case neg =>
    have q1 : (xa.f0 != xb.f0) = true := by simpa using k1
    clear k1
    go_wp2_with fail
    go_ret
    exact ⟨rfl, H5.out.1⟩
  have q1 : (xa.f0 != xb.f0) = false := by simpa using k1
  by_cases k2 : xb.f0 = xc.f0
  case neg =>
    have q2 : (xb.f0 != xc.f0) = true := by simpa using k2
    clear k1 k2
    go_wp2_with fail
    go_ret
    exact ⟨rfl, H5.out.1⟩
  have q2 : (xb.f0 != xc.f0) = false := by simpa using k2
  have q3 : (xa.f0 != 5) = true := by have := HKX.out; simp; omega
  have q4 : (xa.f0 != 4) = true := by have := HKX.out; simp; omega
  clear k1 k2
  go_wp2_with fail
  go_ret
  exact ⟨rfl, H5.out.1⟩
set_option maxRecDepth 100000 in
set_option maxHeartbeats 20000000 in
theorem fnAddLists_any (w0 : World) (hE : Env w0) (xa : V) (hza : Sz xa) (Ka Ha : Int) (sa : ByteArray) (A3a A4a A5a : Option Addr) (n3a c3a n4a c4a n5a c5a : Nat) (hKa : k26.K w0 xa [.int .i64 Ka, .int .i64 Ha, .string sa, .slice A3a n3a c3a, .slice A4a n4a c4a, .slice A5a n5a c5a]) (xb : V) (hzb : Sz xb) (Kb Hb : Int) (sb : ByteArray) (A3b A4b A5b : Option Addr) (n3b c3b n4b c4b n5b c5b : Nat) (hKb : k26.K w0 xb [.int .i64 Kb, .int .i64 Hb, .string sb, .slice A3b n3b c3b, .slice A4b n4b c4b, .slice A5b n5b c5b]) (xc : V) (hzc : Sz xc) (Kc Hc : Int) (sc : ByteArray) (A3c A4c A5c : Option Addr) (n3c c3c n4c c4c n5c c5c : Nat) (hKc : k26.K w0 xc [.int .i64 Kc, .int .i64 Hc, .string sc, .slice A3c n3c c3c, .slice A4c n4c c4c, .slice A5c n5c c5c]) :
    Calls Tryz.prog 3 #[.agg #[.int .i64 Ka, .int .i64 Ha, .string sa, .slice A3a n3a c3a, .slice A4a n4a c4a, .slice A5a n5a c5a], .agg #[.int .i64 Kb, .int .i64 Hb, .string sb, .slice A3b n3b c3b, .slice A4b n4b c4b, .slice A5b n5b c5b], .agg #[.int .i64 Kc, .int .i64 Hc, .string sc, .slice A3c n3c c3c, .slice A4c n4c c4c, .slice A5c n5c c5c]] w0 fun e w' => e = .returned (.bool true) ∧ Below w0.heap.size w0 w' := by
  by_cases k4 : xa.f0 = 4
  · exact fnAddLists_4 w0 hE xa hza Ka Ha sa A3a A4a A5a n3a c3a n4a c4a n5a c5a hKa xb hzb Kb Hb sb A3b A4b A5b n3b c3b n4b c4b n5b c5b hKb xc hzc Kc Hc sc A3c A4c A5c n3c c3c n4c c4c n5c c5c hKc k4
  by_cases k5 : xa.f0 = 5
  · exact fnAddLists_5 w0 hE xa hza Ka Ha sa A3a A4a A5a n3a c3a n4a c4a n5a c5a hKa xb hzb Kb Hb sb A3b A4b A5b n3b c3b n4b c4b n5b c5b hKb xc hzc Kc Hc sc A3c A4c A5c n3c c3c n4c c4c n5c c5c hKc k5
  exact fnAddLists_0 w0 hE xa hza Ka Ha sa A3a A4a A5a n3a c3a n4a c4a n5a c5a hKa xb hzb Kb Hb sb A3b A4b A5b n3b c3b n4b c4b n5b c5b hKb xc hzc Kc Hc sc A3c A4c A5c n3c c3c n4c c4c n5c c5c hKc (fun h => h.elim k4 k5)
end Go.Proofs.YtdaiodiafahkkaaGreatDoor.ValA
