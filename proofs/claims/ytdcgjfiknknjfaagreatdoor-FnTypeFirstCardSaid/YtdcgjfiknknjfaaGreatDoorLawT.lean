/-
fit of two values; FnTypeFirst.
-/
import Derived.Test.YtdcgjfiknknjfaaGreatDoorCmpC
set_option linter.unusedSimpArgs false
set_option linter.unusedVariables false
namespace Go.Proofs.YtdcgjfiknknjfaaGreatDoor.ValA
open Go.RowKit Go.Lib Go.Proofs.YtdcgjfiknknjfaaGreatDoorW.PrintWords Go.Proofs.YtdcgjfiknknjfaaGreatDoorW.PrintLast Go.Proofs.YtdcgjfiknknjfaaGreatDoorW.PrintMore Go.Proofs.YtdcgjfiknknjfaaGreatDoor.PzzFits1 Go.Proofs.YtdcgjfiknknjfaaGreatDoor.NumA
set_option maxHeartbeats 4000000 in
theorem fit_two (w0 : World) (hE : Env w0) (xa : V) (hza : Sz xa) (Ka Ha : Int) (sa : ByteArray) (A3a A4a A5a : Option Addr) (n3a c3a n4a c4a n5a c5a : Nat) (hKa : k26.K w0 xa [.int .i64 Ka, .int .i64 Ha, .string sa, .slice A3a n3a c3a, .slice A4a n4a c4a, .slice A5a n5a c5a]) (xb : V) (hzb : Sz xb) (Kb Hb : Int) (sb : ByteArray) (A3b A4b A5b : Option Addr) (n3b c3b n4b c4b n5b c5b : Nat) (hKb : k26.K w0 xb [.int .i64 Kb, .int .i64 Hb, .string sb, .slice A3b n3b c3b, .slice A4b n4b c4b, .slice A5b n5b c5b]) (w : World) (hb : Below w0.heap.size w0 w) :
    Calls Tryz.prog 28 #[.agg #[.int .i64 Ka, .int .i64 Ha, .string sa, .slice A3a n3a c3a, .slice A4a n4a c4a, .slice A5a n5a c5a], .agg #[.int .i64 Kb, .int .i64 Hb, .string sb, .slice A3b n3b c3b, .slice A4b n4b c4b, .slice A5b n5b c5b]] w (Says (WF xa ∧ WF xb) w) := by
  have HFa := Lib.hid (fun w1 hb => fit_any w0 hE xa hza Ka Ha sa A3a A4a A5a n3a c3a n4a c4a n5a c5a hKa w1 hb)
  have HFb := Lib.hid (fun w1 hb => fit_any w0 hE xb hzb Kb Hb sb A3b A4b A5b n3b c3b n4b c4b n5b c5b hKb w1 hb)
  have HB := Lib.hid hb
  clear hE hza hKa hzb hKb hb
  go_enter Tryz.func28, Tryz.ntmps28
  go_wp2_with fail
  obtain ⟨A, hA⟩ : ∃ A, A = w.heap.size := ⟨_, rfl⟩
  obtain ⟨B, hB⟩ : ∃ B, B = w.heap.size + 1 := ⟨_, rfl⟩
  obtain ⟨W0, hW0⟩ : ∃ W0, W0 = (w.alloc (.cells #[.int .i64 Ka, .int .i64 Ha, .string sa, .slice A3a n3a c3a, .slice A4a n4a c4a, .slice A5a n5a c5a] 26)).alloc (.cells #[.int .i64 Kb, .int .i64 Hb, .string sb, .slice A3b n3b c3b, .slice A4b n4b c4b, .slice A5b n5b c5b] 26) := ⟨_, rfl⟩
  have h0 : SPL w [(A, #[.int .i64 Ka, .int .i64 Ha, .string sa, .slice A3a n3a c3a, .slice A4a n4a c4a, .slice A5a n5a c5a], 26), (B, #[.int .i64 Kb, .int .i64 Hb, .string sb, .slice A3b n3b c3b, .slice A4b n4b c4b, .slice A5b n5b c5b], 26)] W0 := by rw [hA, hB, hW0]; exact SPL.two w _ _ _ _
  rw [← hW0]
  try rw [← hB]
  try rw [← hA]
  have H0 := Lib.hid h0
  clear h0 hW0 hA hB
  refine (HFa.out W0 (HB.out.trans (H0.out.1.mono HB.out.size))).mono ?_
  rintro e w1 ⟨r, rfl, hr, hb⟩
  have H1 := Lib.hid (And.intro (H0.out.below hb) hr)
  clear hb hr H0
  cases r with
  | false =>
    go_wp2_with fail
    go_ret
    exact ⟨false, rfl, fun e => (by cases e), H1.out.1.1⟩
  | true =>
  have yb := six_cells (H1.out.1.get 1 rfl)
  go_wp2_with fail
  refine (HFb.out w1 (HB.out.trans (H1.out.1.1.mono HB.out.size))).mono ?_
  rintro e w2 ⟨r, rfl, hr, hb⟩
  have H2 := Lib.hid (And.intro (H1.out.1.below hb) hr)
  clear hb hr yb
  go_wp2_with fail
  go_ret
  exact ⟨r, rfl, fun e => ⟨H1.out.2 (by trivial), H2.out.2 e⟩, H2.out.1.1⟩
set_option maxHeartbeats 4000000 in
theorem fnTypeFirst_any (w0 : World) (hE : Env w0) (xa : V) (hza : Sz xa) (Ka Ha : Int) (sa : ByteArray) (A3a A4a A5a : Option Addr) (n3a c3a n4a c4a n5a c5a : Nat) (hKa : k26.K w0 xa [.int .i64 Ka, .int .i64 Ha, .string sa, .slice A3a n3a c3a, .slice A4a n4a c4a, .slice A5a n5a c5a]) (xb : V) (hzb : Sz xb) (Kb Hb : Int) (sb : ByteArray) (A3b A4b A5b : Option Addr) (n3b c3b n4b c4b n5b c5b : Nat) (hKb : k26.K w0 xb [.int .i64 Kb, .int .i64 Hb, .string sb, .slice A3b n3b c3b, .slice A4b n4b c4b, .slice A5b n5b c5b]) :
    Calls Tryz.prog 7 #[.agg #[.int .i64 Ka, .int .i64 Ha, .string sa, .slice A3a n3a c3a, .slice A4a n4a c4a, .slice A5a n5a c5a], .agg #[.int .i64 Kb, .int .i64 Hb, .string sb, .slice A3b n3b c3b, .slice A4b n4b c4b, .slice A5b n5b c5b]] w0 fun e w' => e = .returned (.bool true) ∧ Below w0.heap.size w0 w' := by
  obtain ⟨w, hw⟩ : ∃ w, w = w0 := ⟨_, rfl⟩
  have HFa := Lib.hid (fun w1 hb => fits1_any w0 xa Ka Ha sa A3a A4a A5a n3a c3a n4a c4a n5a c5a hKa w1 hb)
  have HFb := Lib.hid (fun w1 hb => fits1_any w0 xb Kb Hb sb A3b A4b A5b n3b c3b n4b c4b n5b c5b hKb w1 hb)
  have HFI := Lib.hid (fun w1 hb => fit_two w0 hE xa hza Ka Ha sa A3a A4a A5a n3a c3a n4a c4a n5a c5a hKa xb hzb Kb Hb sb A3b A4b A5b n3b c3b n4b c4b n5b c5b hKb w1 hb)
  have HTA := Lib.hid (fun h => toGo_any w0 _ xa (Nat.lt_succ_self _) hza h _ hKa)
  have HTB := Lib.hid (fun h => toGo_any w0 _ xb (Nat.lt_succ_self _) hzb h _ hKb)
  have ea : xa.f0 = Ka := by
    obtain ⟨B3, e3, B4, e4, B5, e5, he, _⟩ := k26_open hKa
    simp only [List.cons.injEq, Value.int.injEq, Value.string.injEq, Value.slice.injEq, true_and, and_true] at he
    exact he.1.symm
  have eb : xb.f0 = Kb := by
    obtain ⟨B3, e3, B4, e4, B5, e5, he, _⟩ := k26_open hKb
    simp only [List.cons.injEq, Value.int.injEq, Value.string.injEq, Value.slice.injEq, true_and, and_true] at he
    exact he.1.symm
  have HE := Lib.hid (And.intro ea eb)
  clear hE hza hKa hzb hKb ea eb
  subst hw
  go_enter Tryz.func7, Tryz.ntmps7
  go_wp2_with fail
  obtain ⟨A, hA⟩ : ∃ A, A = w.heap.size := ⟨_, rfl⟩
  obtain ⟨B, hB⟩ : ∃ B, B = w.heap.size + 1 := ⟨_, rfl⟩
  obtain ⟨W0, hW0⟩ : ∃ W0, W0 = (w.alloc (.cells #[.int .i64 Ka, .int .i64 Ha, .string sa, .slice A3a n3a c3a, .slice A4a n4a c4a, .slice A5a n5a c5a] 26)).alloc (.cells #[.int .i64 Kb, .int .i64 Hb, .string sb, .slice A3b n3b c3b, .slice A4b n4b c4b, .slice A5b n5b c5b] 26) := ⟨_, rfl⟩
  have h0 : SPL w [(A, #[.int .i64 Ka, .int .i64 Ha, .string sa, .slice A3a n3a c3a, .slice A4a n4a c4a, .slice A5a n5a c5a], 26), (B, #[.int .i64 Kb, .int .i64 Hb, .string sb, .slice A3b n3b c3b, .slice A4b n4b c4b, .slice A5b n5b c5b], 26)] W0 := by rw [hA, hB, hW0]; exact SPL.two w _ _ _ _
  rw [← hW0]
  try rw [← hB]
  try rw [← hA]
  have H0 := Lib.hid h0
  clear h0 hW0 hA hB
  have y := six_cells (H0.out.get 0 rfl)
  go_wp2_with fail
  refine (HFa.out W0 H0.out.1).mono ?_
  rintro e w1 ⟨r, rfl, hr, hb⟩
  have H1 := Lib.hid (H0.out.below hb)
  clear hb H0 y HFa
  cases r with
  | false =>
    go_wp2_with fail
    go_ret
    exact ⟨rfl, H1.out.1⟩
  | true =>
  have SZa := Lib.hid (hr (by trivial))
  clear hr
  have y := six_cells (H1.out.get 1 rfl)
  go_wp2_with fail
  refine (HFb.out w1 H1.out.1).mono ?_
  rintro e w2 ⟨r, rfl, hr, hb⟩
  have H2 := Lib.hid (H1.out.below hb)
  clear hb H1 y HFb
  cases r with
  | false =>
    go_wp2_with fail
    go_ret
    exact ⟨rfl, H2.out.1⟩
  | true =>
  have SZb := Lib.hid (hr (by trivial))
  clear hr
  have ya := six_cells (H2.out.get 0 rfl)
  have yb := six_cells (H2.out.get 1 rfl)
  go_wp2_with fail
  refine (HFI.out w2 H2.out.1).mono ?_
  rintro e w3 ⟨r, rfl, hr, hb⟩
  have H3 := Lib.hid (H2.out.below hb)
  clear hb H2 ya yb HFI
  cases r with
  | false =>
    go_wp2_with fail
    go_ret
    exact ⟨rfl, H3.out.1⟩
  | true =>
  have HW := Lib.hid (hr (by trivial))
  clear hr
  have ya := six_cells (H3.out.get 0 rfl)
  have yb := six_cells (H3.out.get 1 rfl)
  cases hg : decide (Kb ≤ Ka) with
  | true =>
    go_wp2_with fail
    go_ret
    exact ⟨rfl, H3.out.1⟩
  | false =>
  have hlt : Ka < Kb := by have := of_decide_eq_false hg; omega
  have HAB := Lib.hid (fun w1 hb => impl_compare w xa xb Ka Ha sa A3a A4a A5a n3a c3a n4a c4a n5a c5a Kb Hb sb A3b A4b A5b n3b c3b n4b c4b n5b c5b (HTA.out HW.out.1) (HTB.out HW.out.2) (-1) (fun g h n m w2 hG hH => by
    have h := compare_dif g h _ _ (hG.cl (wf_facts HW.out.1).1) (hH.cl (wf_facts HW.out.2).1) (by rw [HE.out.1, HE.out.2]; omega) w2
    rwa [HE.out.1, HE.out.2, Int.sign_eq_neg_one_of_neg (show Ka - Kb < 0 by omega)] at h) w1 hb)
  have HBA := Lib.hid (fun w1 hb => impl_compare w xb xa Kb Hb sb A3b A4b A5b n3b c3b n4b c4b n5b c5b Ka Ha sa A3a A4a A5a n3a c3a n4a c4a n5a c5a (HTB.out HW.out.2) (HTA.out HW.out.1) 1 (fun g h n m w2 hG hH => by
    have h := compare_dif g h _ _ (hG.cl (wf_facts HW.out.2).1) (hH.cl (wf_facts HW.out.1).1) (by rw [HE.out.1, HE.out.2]; omega) w2
    rwa [HE.out.1, HE.out.2, Int.sign_eq_one_of_pos (show 0 < Kb - Ka by omega)] at h) w1 hb)
  clear hlt HTA HTB HE HW SZa SZb
  go_wp2_with fail
  clear hg
  refine (HAB.out w3 H3.out.1).mono ?_
  rintro e w4 ⟨rfl, hb⟩
  have H4 := Lib.hid (H3.out.below hb)
  clear hb H3 ya yb
  have ya := six_cells (H4.out.get 0 rfl)
  have yb := six_cells (H4.out.get 1 rfl)
  go_wp2_with fail
  refine (HBA.out w4 H4.out.1).mono ?_
  rintro e w5 ⟨rfl, hb⟩
  have H5 := Lib.hid (H4.out.below hb)
  clear hb H4 ya yb
  go_wp2_with fail
  go_ret
  exact ⟨rfl, H5.out.1⟩
end Go.Proofs.YtdcgjfiknknjfaaGreatDoor.ValA
