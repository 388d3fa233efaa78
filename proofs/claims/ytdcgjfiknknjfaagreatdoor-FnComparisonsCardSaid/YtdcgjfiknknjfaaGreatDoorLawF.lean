/-
FnComparisons: the six comparisons say what the order says.
-/
import Derived.Test.YtdcgjfiknknjfaaGreatDoorMJ
import Derived.Test.YtdcgjfiknknjfaaGreatDoorMI
set_option linter.unusedSimpArgs false
set_option linter.unusedVariables false
namespace Go.Proofs.YtdcgjfiknknjfaaGreatDoor.ValA
open Go.RowKit Go.Lib Go.Proofs.YtdcgjfiknknjfaaGreatDoorW.PrintWords Go.Proofs.YtdcgjfiknknjfaaGreatDoorW.PrintLast Go.Proofs.YtdcgjfiknknjfaaGreatDoorW.PrintMore Go.Proofs.YtdcgjfiknknjfaaGreatDoor.PzzFits1 Go.Proofs.YtdcgjfiknknjfaaGreatDoor.NumA
set_option maxRecDepth 100000 in
set_option maxHeartbeats 20000000 in
theorem fnComparisons_any (w0 : World) (hE : Env w0) (xa : V) (hza : Sz xa) (Ka Ha : Int) (sa : ByteArray) (A3a A4a A5a : Option Addr) (n3a c3a n4a c4a n5a c5a : Nat) (hKa : k26.K w0 xa [.int .i64 Ka, .int .i64 Ha, .string sa, .slice A3a n3a c3a, .slice A4a n4a c4a, .slice A5a n5a c5a]) (xb : V) (hzb : Sz xb) (Kb Hb : Int) (sb : ByteArray) (A3b A4b A5b : Option Addr) (n3b c3b n4b c4b n5b c5b : Nat) (hKb : k26.K w0 xb [.int .i64 Kb, .int .i64 Hb, .string sb, .slice A3b n3b c3b, .slice A4b n4b c4b, .slice A5b n5b c5b]) :
    Calls Tryz.prog 12 #[.agg #[.int .i64 Ka, .int .i64 Ha, .string sa, .slice A3a n3a c3a, .slice A4a n4a c4a, .slice A5a n5a c5a], .agg #[.int .i64 Kb, .int .i64 Hb, .string sb, .slice A3b n3b c3b, .slice A4b n4b c4b, .slice A5b n5b c5b]] w0 fun e w' => e = .returned (.bool true) ∧ Below w0.heap.size w0 w' := by
  obtain ⟨w, hw⟩ : ∃ w, w = w0 := ⟨_, rfl⟩
  have HFa := Lib.hid (fun w1 hb => fits1_any w0 xa Ka Ha sa A3a A4a A5a n3a c3a n4a c4a n5a c5a hKa w1 hb)
  have HFb := Lib.hid (fun w1 hb => fits1_any w0 xb Kb Hb sb A3b A4b A5b n3b c3b n4b c4b n5b c5b hKb w1 hb)
  have HFI := Lib.hid (fun w1 hb => fit_two w0 hE xa hza Ka Ha sa A3a A4a A5a n3a c3a n4a c4a n5a c5a hKa xb hzb Kb Hb sb A3b A4b A5b n3b c3b n4b c4b n5b c5b hKb w1 hb)
  have HTa := Lib.hid (fun h => toGo_any w0 _ xa (Nat.lt_succ_self _) hza h _ hKa)
  have HTb := Lib.hid (fun h => toGo_any w0 _ xb (Nat.lt_succ_self _) hzb h _ hKb)
  have HPab := Lib.hid (fun h h' => compare_any _ xa (Nat.lt_succ_self _) h hza xb h' hzb)
  have HSab := Lib.hid (fun h h' => cmp_any w0 _ xa (Nat.lt_succ_self _) h xb h' _ _ hKa hKb)
  clear hE hza hKa hzb hKb
  subst hw
  go_enter Tryz.func12, Tryz.ntmps12
  go_wp2_with fail
  obtain ⟨A, hA⟩ : ∃ A, A = w.heap.size := ⟨_, rfl⟩
  obtain ⟨B, hB⟩ : ∃ B, B = w.heap.size + 1 := ⟨_, rfl⟩
  obtain ⟨W0, hW0⟩ : ∃ W0, W0 = (w.alloc (.cells #[.int .i64 Ka, .int .i64 Ha, .string sa, .slice A3a n3a c3a, .slice A4a n4a c4a, .slice A5a n5a c5a] 26)).alloc (.cells #[.int .i64 Kb, .int .i64 Hb, .string sb, .slice A3b n3b c3b, .slice A4b n4b c4b, .slice A5b n5b c5b] 26) := ⟨_, rfl⟩
  have h0 : SPL w [(A, #[.int .i64 Ka, .int .i64 Ha, .string sa, .slice A3a n3a c3a, .slice A4a n4a c4a, .slice A5a n5a c5a], 26), (B, #[.int .i64 Kb, .int .i64 Hb, .string sb, .slice A3b n3b c3b, .slice A4b n4b c4b, .slice A5b n5b c5b], 26)] W0 := by rw [hA, hB, hW0]; exact SPL.two w _ _ _ _ 
  rw [← hW0]
  try rw [← hB]
  try rw [← hA]
  have H0 := Lib.hid h0
  clear h0 hW0 hA hB
  have y := six_cells (H0.out.get 0 rfl)
  go_wp2_with fail
  refine (HFa.out W0 H0.out.1).mono ?_
  rintro e w1 ⟨r, rfl, hr, hb⟩
  have H1 := Lib.hid (H0.out.below hb)
  clear hb H0 y HFa
  cases r with
  | false =>
    go_wp2_with fail
    go_ret
    exact ⟨rfl, H1.out.1⟩
  | true =>
  have SZa := Lib.hid (hr (by trivial))
  clear hr
  have y := six_cells (H1.out.get 1 rfl)
  go_wp2_with fail
  refine (HFb.out w1 H1.out.1).mono ?_
  rintro e w2 ⟨r, rfl, hr, hb⟩
  have H2 := Lib.hid (H1.out.below hb)
  clear hb H1 y HFb
  cases r with
  | false =>
    go_wp2_with fail
    go_ret
    exact ⟨rfl, H2.out.1⟩
  | true =>
  have SZb := Lib.hid (hr (by trivial))
  clear hr
  have ya := six_cells (H2.out.get 0 rfl)
  have yb := six_cells (H2.out.get 1 rfl)
  go_wp2_with fail
  refine (HFI.out w2 H2.out.1).mono ?_
  rintro e w3 ⟨r, rfl, hr, hb⟩
  have H3 := Lib.hid (H2.out.below hb)
  clear hb H2 ya yb HFI
  cases r with
  | false =>
    go_wp2_with fail
    go_ret
    exact ⟨rfl, H3.out.1⟩
  | true =>
  have HW := Lib.hid (hr (by trivial))
  clear hr
  have HCM := Lib.hid (HSab.out HW.out.1 HW.out.2)
  unfold CmpOk at HCM
  have HEq := Lib.hid (fun t (ht : (cmpV xa xb == 0) = t) w1 hb => impl_opEq w xa xb Ka Ha sa A3a A4a A5a n3a c3a n4a c4a n5a c5a Kb Hb sb A3b A4b A5b n3b c3b n4b c4b n5b c5b (HTa.out HW.out.1) (HTb.out HW.out.2) (cmpV xa xb) t ht (HPab.out HW.out.1 HW.out.2) w1 hb)
  have HNe := Lib.hid (fun t (ht : (cmpV xa xb != 0) = t) w1 hb => impl_opNe w xa xb Ka Ha sa A3a A4a A5a n3a c3a n4a c4a n5a c5a Kb Hb sb A3b A4b A5b n3b c3b n4b c4b n5b c5b (HTa.out HW.out.1) (HTb.out HW.out.2) (cmpV xa xb) t ht (HPab.out HW.out.1 HW.out.2) w1 hb)
  have HLt := Lib.hid (fun t (ht : (decide (cmpV xa xb < 0)) = t) w1 hb => impl_opLt w xa xb Ka Ha sa A3a A4a A5a n3a c3a n4a c4a n5a c5a Kb Hb sb A3b A4b A5b n3b c3b n4b c4b n5b c5b (HTa.out HW.out.1) (HTb.out HW.out.2) (cmpV xa xb) t ht (HPab.out HW.out.1 HW.out.2) w1 hb)
  have HLe := Lib.hid (fun t (ht : (decide (cmpV xa xb ≤ 0)) = t) w1 hb => impl_opLe w xa xb Ka Ha sa A3a A4a A5a n3a c3a n4a c4a n5a c5a Kb Hb sb A3b A4b A5b n3b c3b n4b c4b n5b c5b (HTa.out HW.out.1) (HTb.out HW.out.2) (cmpV xa xb) t ht (HPab.out HW.out.1 HW.out.2) w1 hb)
  have HGt := Lib.hid (fun t (ht : (decide (cmpV xa xb > 0)) = t) w1 hb => impl_opGt w xa xb Ka Ha sa A3a A4a A5a n3a c3a n4a c4a n5a c5a Kb Hb sb A3b A4b A5b n3b c3b n4b c4b n5b c5b (HTa.out HW.out.1) (HTb.out HW.out.2) (cmpV xa xb) t ht (HPab.out HW.out.1 HW.out.2) w1 hb)
  have HGe := Lib.hid (fun t (ht : (decide (cmpV xa xb ≥ 0)) = t) w1 hb => impl_opGe w xa xb Ka Ha sa A3a A4a A5a n3a c3a n4a c4a n5a c5a Kb Hb sb A3b A4b A5b n3b c3b n4b c4b n5b c5b (HTa.out HW.out.1) (HTb.out HW.out.2) (cmpV xa xb) t ht (HPab.out HW.out.1 HW.out.2) w1 hb)
  generalize cmpV xa xb = z at HCM HEq HNe HLt HLe HGt HGe
  obtain ⟨tEq, eEq⟩ : ∃ t, (z == 0) = t := ⟨_, rfl⟩
  replace HEq := Lib.hid (HEq.out tEq eEq)
  obtain ⟨tNe, eNe⟩ : ∃ t, (z != 0) = t := ⟨_, rfl⟩
  replace HNe := Lib.hid (HNe.out tNe eNe)
  obtain ⟨tLt, eLt⟩ : ∃ t, (decide (z < 0)) = t := ⟨_, rfl⟩
  replace HLt := Lib.hid (HLt.out tLt eLt)
  obtain ⟨tLe, eLe⟩ : ∃ t, (decide (z ≤ 0)) = t := ⟨_, rfl⟩
  replace HLe := Lib.hid (HLe.out tLe eLe)
  obtain ⟨tGt, eGt⟩ : ∃ t, (decide (z > 0)) = t := ⟨_, rfl⟩
  replace HGt := Lib.hid (HGt.out tGt eGt)
  obtain ⟨tGe, eGe⟩ : ∃ t, (decide (z ≥ 0)) = t := ⟨_, rfl⟩
  replace HGe := Lib.hid (HGe.out tGe eGe)
  have HIS := Lib.hid is_any
  clear HTa HTb HPab HSab HW SZa SZb
  have ya := six_cells (H3.out.get 0 rfl)
  have yb := six_cells (H3.out.get 1 rfl)
  go_wp2_with fail
  refine (HCM.out _ H3.out.1).mono ?_
  rintro e w4 ⟨rfl, hb⟩
  have H4 := Lib.hid (H3.out.below hb)
  clear hb H3 ya yb HCM
  have ya := six_cells (H4.out.get 0 rfl)
  have yb := six_cells (H4.out.get 1 rfl)
  go_wp2_with fail
  refine (HEq.out _ H4.out.1).mono ?_
  rintro e w5 ⟨rfl, hb⟩
  have H5 := Lib.hid (H4.out.below hb)
  clear hb H4 ya yb HEq
  go_wp2_with fail
  refine (HIS.out _ _).mono ?_
  rintro e w6 ⟨rfl, hb⟩
  have H6 := Lib.hid (H5.out.below hb)
  clear hb H5
  have ya := six_cells (H6.out.get 0 rfl)
  have yb := six_cells (H6.out.get 1 rfl)
  go_wp2_with fail
  refine (HNe.out _ H6.out.1).mono ?_
  rintro e w7 ⟨rfl, hb⟩
  have H7 := Lib.hid (H6.out.below hb)
  clear hb H6 ya yb HNe
  go_wp2_with fail
  refine (HIS.out _ _).mono ?_
  rintro e w8 ⟨rfl, hb⟩
  have H8 := Lib.hid (H7.out.below hb)
  clear hb H7
  have ya := six_cells (H8.out.get 0 rfl)
  have yb := six_cells (H8.out.get 1 rfl)
  go_wp2_with fail
  refine (HLt.out _ H8.out.1).mono ?_
  rintro e w9 ⟨rfl, hb⟩
  have H9 := Lib.hid (H8.out.below hb)
  clear hb H8 ya yb HLt
  go_wp2_with fail
  refine (HIS.out _ _).mono ?_
  rintro e w10 ⟨rfl, hb⟩
  have H10 := Lib.hid (H9.out.below hb)
  clear hb H9
  have ya := six_cells (H10.out.get 0 rfl)
  have yb := six_cells (H10.out.get 1 rfl)
  go_wp2_with fail
  refine (HLe.out _ H10.out.1).mono ?_
  rintro e w11 ⟨rfl, hb⟩
  have H11 := Lib.hid (H10.out.below hb)
  clear hb H10 ya yb HLe
  go_wp2_with fail
  refine (HIS.out _ _).mono ?_
  rintro e w12 ⟨rfl, hb⟩
  have H12 := Lib.hid (H11.out.below hb)
  clear hb H11
  have ya := six_cells (H12.out.get 0 rfl)
  have yb := six_cells (H12.out.get 1 rfl)
  go_wp2_with fail
  refine (HGt.out _ H12.out.1).mono ?_
  rintro e w13 ⟨rfl, hb⟩
  have H13 := Lib.hid (H12.out.below hb)
  clear hb H12 ya yb HGt
  go_wp2_with fail
  refine (HIS.out _ _).mono ?_
  rintro e w14 ⟨rfl, hb⟩
  have H14 := Lib.hid (H13.out.below hb)
  clear hb H13
  have ya := six_cells (H14.out.get 0 rfl)
  have yb := six_cells (H14.out.get 1 rfl)
  go_wp2_with fail
  refine (HGe.out _ H14.out.1).mono ?_
  rintro e w15 ⟨rfl, hb⟩
  have H15 := Lib.hid (H14.out.below hb)
  clear hb H14 ya yb HGe
  go_wp2_with fail
  refine (HIS.out _ _).mono ?_
  rintro e w16 ⟨rfl, hb⟩
  have H16 := Lib.hid (H15.out.below hb)
  clear hb H15
  go_wp2_with fail
  go_ret
  exact ⟨rfl, H16.out.1⟩
end Go.Proofs.YtdcgjfiknknjfaaGreatDoor.ValA
