/-
Parts of the proof, one behind the other: LawT, LawC.
-/
import Derived.Test.YtdcgjfiknknjfaaGreatDoorMF
import Derived.Test.YtdcgjfiknknjfaaGreatDoorMH
/-
fit of two values; FnTypeFirst.
-/
set_option linter.unusedSimpArgs false
set_option linter.unusedVariables false
namespace Go.Proofs.YtdcgjfiknknjfaaGreatDoor.ValA
open Go.RowKit Go.Lib Go.Proofs.YtdcgjfiknknjfaaGreatDoorW.PrintWords Go.Proofs.YtdcgjfiknknjfaaGreatDoorW.PrintLast Go.Proofs.YtdcgjfiknknjfaaGreatDoorW.PrintMore Go.Proofs.YtdcgjfiknknjfaaGreatDoor.PzzFits1 Go.Proofs.YtdcgjfiknknjfaaGreatDoor.NumA
set_option maxHeartbeats 4000000 in
theorem fit_two (w0 : World) (hE : Env w0) (xa : V) (hza : Sz xa) (Ka Ha : Int) (sa : ByteArray) (A3a A4a A5a : Option Addr) (n3a c3a n4a c4a n5a c5a : Nat) (hKa : k26.K w0 xa [.int .i64 Ka, .int .i64 Ha, .string sa, .slice A3a n3a c3a, .slice A4a n4a c4a, .slice A5a n5a c5a]) (xb : V) (hzb : Sz xb) (Kb Hb : Int) (sb : ByteArray) (A3b A4b A5b : Option Addr) (n3b c3b n4b c4b n5b c5b : Nat) (hKb : k26.K w0 xb [.int .i64 Kb, .int .i64 Hb, .string sb, .slice A3b n3b c3b, .slice A4b n4b c4b, .slice A5b n5b c5b]) (w : World) (hb : Below w0.heap.size w0 w) :
    Calls Tryz.prog 28 #[.agg #[.int .i64 Ka, .int .i64 Ha, .string sa, .slice A3a n3a c3a, .slice A4a n4a c4a, .slice A5a n5a c5a], .agg #[.int .i64 Kb, .int .i64 Hb, .string sb, .slice A3b n3b c3b, .slice A4b n4b c4b, .slice A5b n5b c5b]] w (Says (WF xa ∧ WF xb) w) := by
  have HFa := Lib.hid (fun w1 hb => fit_any w0 hE xa hza Ka Ha sa A3a A4a A5a n3a c3a n4a c4a n5a c5a hKa w1 hb)
  have HFb := Lib.hid (fun w1 hb => fit_any w0 hE xb hzb Kb Hb sb A3b A4b A5b n3b c3b n4b c4b n5b c5b hKb w1 hb)
  have HB := Lib.hid hb
  clear hE hza hKa hzb hKb hb
  go_enter Tryz.func28, Tryz.ntmps28
  go_wp2_with fail
  obtain ⟨A, hA⟩ : ∃ A, A = w.heap.size := ⟨_, rfl⟩
  obtain ⟨B, hB⟩ : ∃ B, B = w.heap.size + 1 := ⟨_, rfl⟩
  obtain ⟨W0, hW0⟩ : ∃ W0, W0 = (w.alloc (.cells #[.int .i64 Ka, .int .i64 Ha, .string sa, .slice A3a n3a c3a, .slice A4a n4a c4a, .slice A5a n5a c5a] 26)).alloc (.cells #[.int .i64 Kb, .int .i64 Hb, .string sb, .slice A3b n3b c3b, .slice A4b n4b c4b, .slice A5b n5b c5b] 26) := ⟨_, rfl⟩
  have h0 : SPL w [(A, #[.int .i64 Ka, .int .i64 Ha, .string sa, .slice A3a n3a c3a, .slice A4a n4a c4a, .slice A5a n5a c5a], 26), (B, #[.int .i64 Kb, .int .i64 Hb, .string sb, .slice A3b n3b c3b, .slice A4b n4b c4b, .slice A5b n5b c5b], 26)] W0 := by rw [hA, hB, hW0]; exact SPL.two w _ _ _ _
  rw [← hW0]
  try rw [← hB]
  try rw [← hA]
  have H0 := Lib.hid h0
  clear h0 hW0 hA hB
  refine (HFa.out W0 (HB.out.trans (H0.out.1.mono HB.out.size))).mono ?_
  rintro e w1 ⟨r, rfl, hr, hb⟩
  have H1 := Lib.hid (And.intro (H0.out.below hb) hr)
  clear hb hr H0
  cases r with
  | false =>
    go_wp2_with fail
    go_ret
    exact ⟨false, rfl, fun e => (by cases e), H1.out.1.1⟩
  | true =>
  have yb := six_cells (H1.out.1.get 1 rfl)
  go_wp2_with fail
  refine (HFb.out w1 (HB.out.trans (H1.out.1.1.mono HB.out.size))).mono ?_
  rintro e w2 ⟨r, rfl, hr, hb⟩
  have H2 := Lib.hid (And.intro (H1.out.1.below hb) hr)
  clear hb hr yb
  go_wp2_with fail
  go_ret
  exact ⟨r, rfl, fun e => ⟨H1.out.2 (by trivial), H2.out.2 e⟩, H2.out.1.1⟩
set_option maxHeartbeats 4000000 in
theorem fnTypeFirst_any (w0 : World) (hE : Env w0) (xa : V) (hza : Sz xa) (Ka Ha : Int) (sa : ByteArray) (A3a A4a A5a : Option Addr) (n3a c3a n4a c4a n5a c5a : Nat) (hKa : k26.K w0 xa [.int .i64 Ka, .int .i64 Ha, .string sa, .slice A3a n3a c3a, .slice A4a n4a c4a, .slice A5a n5a c5a]) (xb : V) (hzb : Sz xb) (Kb Hb : Int) (sb : ByteArray) (A3b A4b A5b : Option Addr) (n3b c3b n4b c4b n5b c5b : Nat) (hKb : k26.K w0 xb [.int .i64 Kb, .int .i64 Hb, .string sb, .slice A3b n3b c3b, .slice A4b n4b c4b, .slice A5b n5b c5b]) :
    Calls Tryz.prog 7 #[.agg #[.int .i64 Ka, .int .i64 Ha, .string sa, .slice A3a n3a c3a, .slice A4a n4a c4a, .slice A5a n5a c5a], .agg #[.int .i64 Kb, .int .i64 Hb, .string sb, .slice A3b n3b c3b, .slice A4b n4b c4b, .slice A5b n5b c5b]] w0 fun e w' => e = .returned (.bool true) ∧ Below w0.heap.size w0 w' := by
  obtain ⟨w, hw⟩ : ∃ w, w = w0 := ⟨_, rfl⟩
  have HFa := Lib.hid (fun w1 hb => fits1_any w0 xa Ka Ha sa A3a A4a A5a n3a c3a n4a c4a n5a c5a hKa w1 hb)
  have HFb := Lib.hid (fun w1 hb => fits1_any w0 xb Kb Hb sb A3b A4b A5b n3b c3b n4b c4b n5b c5b hKb w1 hb)
  have HFI := Lib.hid (fun w1 hb => fit_two w0 hE xa hza Ka Ha sa A3a A4a A5a n3a c3a n4a c4a n5a c5a hKa xb hzb Kb Hb sb A3b A4b A5b n3b c3b n4b c4b n5b c5b hKb w1 hb)
  have HTA := Lib.hid (fun h => toGo_any w0 _ xa (Nat.lt_succ_self _) hza h _ hKa)
  have HTB := Lib.hid (fun h => toGo_any w0 _ xb (Nat.lt_succ_self _) hzb h _ hKb)
  have ea : xa.f0 = Ka := by
    obtain ⟨B3, e3, B4, e4, B5, e5, he, _⟩ := k26_open hKa
    simp only [List.cons.injEq, Value.int.injEq, Value.string.injEq, Value.slice.injEq, true_and, and_true] at he
    exact he.1.symm
  have eb : xb.f0 = Kb := by
    obtain ⟨B3, e3, B4, e4, B5, e5, he, _⟩ := k26_open hKb
    simp only [List.cons.injEq, Value.int.injEq, Value.string.injEq, Value.slice.injEq, true_and, and_true] at he
    exact he.1.symm
  have HE := Lib.hid (And.intro ea eb)
  clear hE hza hKa hzb hKb ea eb
  subst hw
  go_enter Tryz.func7, Tryz.ntmps7
  go_wp2_with fail
  obtain ⟨A, hA⟩ : ∃ A, A = w.heap.size := ⟨_, rfl⟩
  obtain ⟨B, hB⟩ : ∃ B, B = w.heap.size + 1 := ⟨_, rfl⟩
  obtain ⟨W0, hW0⟩ : ∃ W0, W0 = (w.alloc (.cells #[.int .i64 Ka, .int .i64 Ha, .string sa, .slice A3a n3a c3a, .slice A4a n4a c4a, .slice A5a n5a c5a] 26)).alloc (.cells #[.int .i64 Kb, .int .i64 Hb, .string sb, .slice A3b n3b c3b, .slice A4b n4b c4b, .slice A5b n5b c5b] 26) := ⟨_, rfl⟩
  have h0 : SPL w [(A, #[.int .i64 Ka, .int .i64 Ha, .string sa, .slice A3a n3a c3a, .slice A4a n4a c4a, .slice A5a n5a c5a], 26), (B, #[.int .i64 Kb, .int .i64 Hb, .string sb, .slice A3b n3b c3b, .slice A4b n4b c4b, .slice A5b n5b c5b], 26)] W0 := by rw [hA, hB, hW0]; exact SPL.two w _ _ _ _
  rw [← hW0]
  try rw [← hB]
  try rw [← hA]
  have H0 := Lib.hid h0
  clear h0 hW0 hA hB
  have y := six_cells (H0.out.get 0 rfl)
  go_wp2_with fail
  refine (HFa.out W0 H0.out.1).mono ?_
  rintro e w1 ⟨r, rfl, hr, hb⟩
  have H1 := Lib.hid (H0.out.below hb)
  clear hb H0 y HFa
  cases r with
  | false =>
    go_wp2_with fail
    go_ret
    exact ⟨rfl, H1.out.1⟩
  | true =>
  have SZa := Lib.hid (hr (by trivial))
  clear hr
  have y := six_cells (H1.out.get 1 rfl)
  go_wp2_with fail
  refine (HFb.out w1 H1.out.1).mono ?_
  rintro e w2 ⟨r, rfl, hr, hb⟩
  have H2 := Lib.hid (H1.out.below hb)
  clear hb H1 y HFb
  cases r with
  | false =>
    go_wp2_with fail
    go_ret
    exact ⟨rfl, H2.out.1⟩
  | true =>
  have SZb := Lib.hid (hr (by trivial))
  clear hr
  have ya := six_cells (H2.out.get 0 rfl)
  have yb := six_cells (H2.out.get 1 rfl)
  go_wp2_with fail
  refine (HFI.out w2 H2.out.1).mono ?_
  rintro e w3 ⟨r, rfl, hr, hb⟩
  have H3 := Lib.hid (H2.out.below hb)
  clear hb H2 ya yb HFI
  cases r with
  | false =>
    go_wp2_with fail
    go_ret
    exact ⟨rfl, H3.out.1⟩
  | true =>
  have HW := Lib.hid (hr (by trivial))
  clear hr
  have ya := six_cells (H3.out.get 0 rfl)
  have yb := six_cells (H3.out.get 1 rfl)
  cases hg : decide (Kb ≤ Ka) with
  | true =>
    go_wp2_with fail
    go_ret
    exact ⟨rfl, H3.out.1⟩
  | false =>
  have hlt : Ka < Kb := by have := of_decide_eq_false hg; omega
  have HAB := Lib.hid (fun w1 hb => impl_compare w xa xb Ka Ha sa A3a A4a A5a n3a c3a n4a c4a n5a c5a Kb Hb sb A3b A4b A5b n3b c3b n4b c4b n5b c5b (HTA.out HW.out.1) (HTB.out HW.out.2) (-1) (fun g h n m w2 hG hH => by
    have h := compare_dif g h _ _ (hG.cl (wf_facts HW.out.1).1) (hH.cl (wf_facts HW.out.2).1) (by rw [HE.out.1, HE.out.2]; omega) w2
    rwa [HE.out.1, HE.out.2, Int.sign_eq_neg_one_of_neg (show Ka - Kb < 0 by omega)] at h) w1 hb)
  have HBA := Lib.hid (fun w1 hb => impl_compare w xb xa Kb Hb sb A3b A4b A5b n3b c3b n4b c4b n5b c5b Ka Ha sa A3a A4a A5a n3a c3a n4a c4a n5a c5a (HTB.out HW.out.2) (HTA.out HW.out.1) 1 (fun g h n m w2 hG hH => by
    have h := compare_dif g h _ _ (hG.cl (wf_facts HW.out.2).1) (hH.cl (wf_facts HW.out.1).1) (by rw [HE.out.1, HE.out.2]; omega) w2
    rwa [HE.out.1, HE.out.2, Int.sign_eq_one_of_pos (show 0 < Kb - Ka by omega)] at h) w1 hb)
  clear hlt HTA HTB HE HW SZa SZb
  go_wp2_with fail
  clear hg
  refine (HAB.out w3 H3.out.1).mono ?_
  rintro e w4 ⟨rfl, hb⟩
  have H4 := Lib.hid (H3.out.below hb)
  clear hb H3 ya yb
  have ya := six_cells (H4.out.get 0 rfl)
  have yb := six_cells (H4.out.get 1 rfl)
  go_wp2_with fail
  refine (HBA.out w4 H4.out.1).mono ?_
  rintro e w5 ⟨rfl, hb⟩
  have H5 := Lib.hid (H4.out.below hb)
  clear hb H4 ya yb
  go_wp2_with fail
  go_ret
  exact ⟨rfl, H5.out.1⟩
end Go.Proofs.YtdcgjfiknknjfaaGreatDoor.ValA
/-
FnCompare: impl.Compare and spec.Cmp say the same.
-/
set_option linter.unusedSimpArgs false
set_option linter.unusedVariables false
namespace Go.Proofs.YtdcgjfiknknjfaaGreatDoor.ValA
open Go.RowKit Go.Lib Go.Proofs.YtdcgjfiknknjfaaGreatDoorW.PrintWords Go.Proofs.YtdcgjfiknknjfaaGreatDoorW.PrintLast Go.Proofs.YtdcgjfiknknjfaaGreatDoorW.PrintMore Go.Proofs.YtdcgjfiknknjfaaGreatDoor.PzzFits1 Go.Proofs.YtdcgjfiknknjfaaGreatDoor.NumA
theorem SPL.bel {w w1 : World} {L : List (Nat × Array Value × TypeId)} (h : SPL w L w1) : Below w.heap.size w w1 := h.1
set_option maxRecDepth 100000 in
set_option maxHeartbeats 20000000 in
theorem fnCompare_any (w0 : World) (hE : Env w0) (xa : V) (hza : Sz xa) (Ka Ha : Int) (sa : ByteArray) (A3a A4a A5a : Option Addr) (n3a c3a n4a c4a n5a c5a : Nat) (hKa : k26.K w0 xa [.int .i64 Ka, .int .i64 Ha, .string sa, .slice A3a n3a c3a, .slice A4a n4a c4a, .slice A5a n5a c5a]) (xb : V) (hzb : Sz xb) (Kb Hb : Int) (sb : ByteArray) (A3b A4b A5b : Option Addr) (n3b c3b n4b c4b n5b c5b : Nat) (hKb : k26.K w0 xb [.int .i64 Kb, .int .i64 Hb, .string sb, .slice A3b n3b c3b, .slice A4b n4b c4b, .slice A5b n5b c5b]) :
    Calls Tryz.prog 8 #[.agg #[.int .i64 Ka, .int .i64 Ha, .string sa, .slice A3a n3a c3a, .slice A4a n4a c4a, .slice A5a n5a c5a], .agg #[.int .i64 Kb, .int .i64 Hb, .string sb, .slice A3b n3b c3b, .slice A4b n4b c4b, .slice A5b n5b c5b]] w0 fun e w' => e = .returned (.bool true) ∧ Below w0.heap.size w0 w' := by
  obtain ⟨w, hw⟩ : ∃ w, w = w0 := ⟨_, rfl⟩
  have HFa := Lib.hid (fun w1 hb => fits1_any w0 xa Ka Ha sa A3a A4a A5a n3a c3a n4a c4a n5a c5a hKa w1 hb)
  have HFb := Lib.hid (fun w1 hb => fits1_any w0 xb Kb Hb sb A3b A4b A5b n3b c3b n4b c4b n5b c5b hKb w1 hb)
  have HFI := Lib.hid (fun w1 hb => fit_two w0 hE xa hza Ka Ha sa A3a A4a A5a n3a c3a n4a c4a n5a c5a hKa xb hzb Kb Hb sb A3b A4b A5b n3b c3b n4b c4b n5b c5b hKb w1 hb)
  have HTa := Lib.hid (fun h => toGo_any w0 _ xa (Nat.lt_succ_self _) hza h _ hKa)
  have HTb := Lib.hid (fun h => toGo_any w0 _ xb (Nat.lt_succ_self _) hzb h _ hKb)
  have HPab := Lib.hid (fun h h' => compare_any _ xa (Nat.lt_succ_self _) h hza xb h' hzb)
  have HSab := Lib.hid (fun h h' => cmp_any w0 _ xa (Nat.lt_succ_self _) h xb h' _ _ hKa hKb)
  clear hE hza hKa hzb hKb
  subst hw
  go_enter Tryz.func8, Tryz.ntmps8
  go_wp2_with fail
  obtain ⟨A, hA⟩ : ∃ A, A = w.heap.size := ⟨_, rfl⟩
  obtain ⟨B, hB⟩ : ∃ B, B = w.heap.size + 1 := ⟨_, rfl⟩
  obtain ⟨W0, hW0⟩ : ∃ W0, W0 = (w.alloc (.cells #[.int .i64 Ka, .int .i64 Ha, .string sa, .slice A3a n3a c3a, .slice A4a n4a c4a, .slice A5a n5a c5a] 26)).alloc (.cells #[.int .i64 Kb, .int .i64 Hb, .string sb, .slice A3b n3b c3b, .slice A4b n4b c4b, .slice A5b n5b c5b] 26) := ⟨_, rfl⟩
  have h0 : SPL w [(A, #[.int .i64 Ka, .int .i64 Ha, .string sa, .slice A3a n3a c3a, .slice A4a n4a c4a, .slice A5a n5a c5a], 26), (B, #[.int .i64 Kb, .int .i64 Hb, .string sb, .slice A3b n3b c3b, .slice A4b n4b c4b, .slice A5b n5b c5b], 26)] W0 := by rw [hA, hB, hW0]; exact SPL.two w _ _ _ _ 
  rw [← hW0]
  try rw [← hB]
  try rw [← hA]
  have H0 := Lib.hid h0
  clear h0 hW0 hA hB
  have y := six_cells (H0.out.get 0 rfl)
  go_wp2_with fail
  refine (HFa.out W0 H0.out.1).mono ?_
  rintro e w1 ⟨r, rfl, hr, hb⟩
  have H1 := Lib.hid (H0.out.below hb)
  clear hb H0 y HFa
  cases r with
  | false =>
    go_wp2_with fail
    go_ret
    exact ⟨rfl, H1.out.1⟩
  | true =>
  have SZa := Lib.hid (hr (by trivial))
  clear hr
  have y := six_cells (H1.out.get 1 rfl)
  go_wp2_with fail
  refine (HFb.out w1 H1.out.1).mono ?_
  rintro e w2 ⟨r, rfl, hr, hb⟩
  have H2 := Lib.hid (H1.out.below hb)
  clear hb H1 y HFb
  cases r with
  | false =>
    go_wp2_with fail
    go_ret
    exact ⟨rfl, H2.out.1⟩
  | true =>
  have SZb := Lib.hid (hr (by trivial))
  clear hr
  go_wp2_with fail
  refine start_ (n := 14) (S := fun w' => w'.cell? ⟨A, 0, none⟩ = some (.int .i64 Ka) ∧ w'.cell? ⟨A, 1, none⟩ = some (.int .i64 Ha) ∧ w'.cell? ⟨A, 2, none⟩ = some (.string sa) ∧ w'.cell? ⟨A, 3, none⟩ = some (.slice A3a n3a c3a) ∧ w'.cell? ⟨A, 4, none⟩ = some (.slice A4a n4a c4a) ∧ w'.cell? ⟨A, 5, none⟩ = some (.slice A5a n5a c5a) ∧ w'.cell? ⟨B, 0, none⟩ = some (.int .i64 Kb) ∧ w'.cell? ⟨B, 1, none⟩ = some (.int .i64 Hb) ∧ w'.cell? ⟨B, 2, none⟩ = some (.string sb) ∧ w'.cell? ⟨B, 3, none⟩ = some (.slice A3b n3b c3b) ∧ w'.cell? ⟨B, 4, none⟩ = some (.slice A4b n4b c4b) ∧ w'.cell? ⟨B, 5, none⟩ = some (.slice A5b n5b c5b) ∧ SPL w [(A, #[.int .i64 Ka, .int .i64 Ha, .string sa, .slice A3a n3a c3a, .slice A4a n4a c4a, .slice A5a n5a c5a], 26), (B, #[.int .i64 Kb, .int .i64 Hb, .string sb, .slice A3b n3b c3b, .slice A4b n4b c4b, .slice A5b n5b c5b], 26)] w') (ds := []) #[false, false, false, false, false, false, false, false, false, false, false, false, false, false] (by kernel_rfl) rfl rfl ⟨((six_cells ((SPL.drew H2.out).get 0 rfl)).1), ((six_cells ((SPL.drew H2.out).get 0 rfl)).2.1), ((six_cells ((SPL.drew H2.out).get 0 rfl)).2.2.1), ((six_cells ((SPL.drew H2.out).get 0 rfl)).2.2.2.1), ((six_cells ((SPL.drew H2.out).get 0 rfl)).2.2.2.2.1), ((six_cells ((SPL.drew H2.out).get 0 rfl)).2.2.2.2.2.1), ((six_cells ((SPL.drew H2.out).get 1 rfl)).1), ((six_cells ((SPL.drew H2.out).get 1 rfl)).2.1), ((six_cells ((SPL.drew H2.out).get 1 rfl)).2.2.1), ((six_cells ((SPL.drew H2.out).get 1 rfl)).2.2.2.1), ((six_cells ((SPL.drew H2.out).get 1 rfl)).2.2.2.2.1), ((six_cells ((SPL.drew H2.out).get 1 rfl)).2.2.2.2.2.1), (SPL.drew H2.out)⟩ (fun hHeld => ?_)
  refine take_ (i := 0) (N := some 13) (v := ?_) (a' := ?_) #[true, false, false, false, false, false, false, false, false, false, false, false, false, false] rfl rfl (by kernel_rfl) (fun _ _ _ h => h) (Or.inl ⟨by rfl, ?_⟩) hHeld ?_ ?_
  rotate_left
  · rintro w' ⟨s0, s1, s2, s3, s4, s5, s6, s7, s8, s9, s10, s11, s12⟩
    go_simp
    with_reducible rfl
  rotate_left
  · simp only [Act.put, List.setIfInBounds_toArray, List.set_cons_zero, List.set_cons_succ, i64_w, i32_w]
    rfl
  refine take_ (i := 1) (N := some 14) (v := ?_) (a' := ?_) #[true, true, false, false, false, false, false, false, false, false, false, false, false, false] rfl rfl (by kernel_rfl) (fun _ _ _ h => h) (Or.inl ⟨by rfl, ?_⟩) hHeld ?_ ?_
  rotate_left
  · rintro w' ⟨s0, s1, s2, s3, s4, s5, s6, s7, s8, s9, s10, s11, s12⟩
    go_simp
    with_reducible rfl
  rotate_left
  · simp only [Act.put, List.setIfInBounds_toArray, List.set_cons_zero, List.set_cons_succ, i64_w, i32_w]
    rfl
  refine one_ (i := 2) (N := some 15) #[true, true, true, false, false, false, false, false, false, false, false, false, false, false] rfl rfl (by kernel_rfl) (by decide) (fun K hK => ?_)
  refine goes_ Tryz.func28 (by kernel_rfl) rfl #[.agg #[.int .i64 Ka, .int .i64 Ha, .string sa, .slice A3a n3a c3a, .slice A4a n4a c4a, .slice A5a n5a c5a], .agg #[.int .i64 Kb, .int .i64 Hb, .string sb, .slice A3b n3b c3b, .slice A4b n4b c4b, .slice A5b n5b c5b]] (by rfl) rfl rfl (by simp only [List.map_toArray, List.map_cons, List.map_nil]; rfl) ?_
  with_reducible refine ((HFI.out _ (SPL.bel (hHeld.2.2.2.2.2.2.2.2.2.2.2.2)))).mono ?_
  rintro e w3 ⟨r, rfl, hr, hb⟩
  cases r with
  | false =>
    refine ⟨_, rfl, ?_⟩
    have hz1 := SPL.below (hHeld.2.2.2.2.2.2.2.2.2.2.2.2) hb
    refine hK.out _ _ ⟨((six_cells (hz1.get 0 rfl)).1), ((six_cells (hz1.get 0 rfl)).2.1), ((six_cells (hz1.get 0 rfl)).2.2.1), ((six_cells (hz1.get 0 rfl)).2.2.2.1), ((six_cells (hz1.get 0 rfl)).2.2.2.2.1), ((six_cells (hz1.get 0 rfl)).2.2.2.2.2.1), ((six_cells (hz1.get 1 rfl)).1), ((six_cells (hz1.get 1 rfl)).2.1), ((six_cells (hz1.get 1 rfl)).2.2.1), ((six_cells (hz1.get 1 rfl)).2.2.2.1), ((six_cells (hz1.get 1 rfl)).2.2.2.2.1), ((six_cells (hz1.get 1 rfl)).2.2.2.2.2.1), hz1⟩ (fun hHeld => ?_)
    clear hK K
    refine norm_ (a' := ?_) ?_ ?_
    rotate_left
    · show Act.put _ (some 15) _ = _
      simp only [Act.put, List.setIfInBounds_toArray, List.set_cons_zero, List.set_cons_succ, i64_w, i32_w]
      rfl
    refine pure_ (i := 3) (N := some 16) (v := ?_) (a' := ?_) #[true, true, true, true, false, false, false, false, false, false, false, false, false, false] rfl rfl (by kernel_rfl) (fun _ _ _ h => h) (Or.inl ⟨by rfl, ?_⟩) ?_ ?_
    rotate_left
    · intro w'
      go_simp
      with_reducible rfl
    rotate_left
    · simp only [Act.put, List.setIfInBounds_toArray, List.set_cons_zero, List.set_cons_succ, i64_w, i32_w]
      rfl
    refine pure_ (i := 4) (N := some 17) (v := ?_) (a' := ?_) #[true, true, true, true, true, false, false, false, false, false, false, false, false, false] rfl rfl (by kernel_rfl) (fun _ _ _ h => h) (Or.inl ⟨by rfl, ?_⟩) ?_ ?_
    rotate_left
    · intro w'
      go_simp
      with_reducible rfl
    rotate_left
    · simp only [Act.put, List.setIfInBounds_toArray, List.set_cons_zero, List.set_cons_succ, i64_w, i32_w]
      rfl
    refine pure_ (i := 5) (N := some 18) (v := undef) (a' := ?_) #[true, true, true, true, true, true, false, false, false, false, false, false, false, false] rfl rfl (by kernel_rfl) (fun _ _ _ h => h) (Or.inr ⟨by rfl, rfl⟩) ?_ ?_
    rotate_left
    · simp only [Act.put, List.setIfInBounds_toArray, List.set_cons_zero, List.set_cons_succ, i64_w, i32_w]
      rfl
    refine pure_ (i := 6) (N := some 19) (v := undef) (a' := ?_) #[true, true, true, true, true, true, true, false, false, false, false, false, false, false] rfl rfl (by kernel_rfl) (fun _ _ _ h => h) (Or.inr ⟨by rfl, rfl⟩) ?_ ?_
    rotate_left
    · simp only [Act.put, List.setIfInBounds_toArray, List.set_cons_zero, List.set_cons_succ, i64_w, i32_w]
      rfl
    refine pure_ (i := 7) (N := some 20) (v := undef) (a' := ?_) #[true, true, true, true, true, true, true, true, false, false, false, false, false, false] rfl rfl (by kernel_rfl) (fun _ _ _ h => h) (Or.inr ⟨by rfl, rfl⟩) ?_ ?_
    rotate_left
    · simp only [Act.put, List.setIfInBounds_toArray, List.set_cons_zero, List.set_cons_succ, i64_w, i32_w]
      rfl
    refine pure_ (i := 8) (N := some 21) (v := undef) (a' := ?_) #[true, true, true, true, true, true, true, true, true, false, false, false, false, false] rfl rfl (by kernel_rfl) (fun _ _ _ h => h) (Or.inr ⟨by rfl, rfl⟩) ?_ ?_
    rotate_left
    · simp only [Act.put, List.setIfInBounds_toArray, List.set_cons_zero, List.set_cons_succ, i64_w, i32_w]
      rfl
    refine pure_ (i := 9) (N := some 22) (v := undef) (a' := ?_) #[true, true, true, true, true, true, true, true, true, true, false, false, false, false] rfl rfl (by kernel_rfl) (fun _ _ _ h => h) (Or.inr ⟨by rfl, rfl⟩) ?_ ?_
    rotate_left
    · simp only [Act.put, List.setIfInBounds_toArray, List.set_cons_zero, List.set_cons_succ, i64_w, i32_w]
      rfl
    refine pure_ (i := 10) (N := some 23) (v := undef) (a' := ?_) #[true, true, true, true, true, true, true, true, true, true, true, false, false, false] rfl rfl (by kernel_rfl) (fun _ _ _ h => h) (Or.inr ⟨by rfl, rfl⟩) ?_ ?_
    rotate_left
    · simp only [Act.put, List.setIfInBounds_toArray, List.set_cons_zero, List.set_cons_succ, i64_w, i32_w]
      rfl
    refine pure_ (i := 11) (N := some 24) (v := undef) (a' := ?_) #[true, true, true, true, true, true, true, true, true, true, true, true, false, false] rfl rfl (by kernel_rfl) (fun _ _ _ h => h) (Or.inr ⟨by rfl, rfl⟩) ?_ ?_
    rotate_left
    · simp only [Act.put, List.setIfInBounds_toArray, List.set_cons_zero, List.set_cons_succ, i64_w, i32_w]
      rfl
    refine pure_ (i := 12) (N := some 25) (v := ?_) (a' := ?_) #[true, true, true, true, true, true, true, true, true, true, true, true, true, false] rfl rfl (by kernel_rfl) (fun _ _ _ h => h) (Or.inl ⟨by rfl, ?_⟩) ?_ ?_
    rotate_left
    · intro w'
      go_simp
      with_reducible rfl
    rotate_left
    · simp only [Act.put, List.setIfInBounds_toArray, List.set_cons_zero, List.set_cons_succ, i64_w, i32_w]
      rfl
    refine pure_ (i := 13) (N := some 4) (v := ?_) (a' := ?_) #[true, true, true, true, true, true, true, true, true, true, true, true, true, true] rfl rfl (by kernel_rfl) (fun _ _ _ h => h) (Or.inl ⟨by rfl, ?_⟩) ?_ ?_
    rotate_left
    · intro w'
      go_simp
      with_reducible rfl
    rotate_left
    · simp only [Act.put, List.setIfInBounds_toArray, List.set_cons_zero, List.set_cons_succ, i64_w, i32_w]
      rfl
    refine done_ (by kernel_rfl) ?_
    go_wp2_with fail
    go_ret
    exact ⟨rfl, hz1.1⟩
  | true =>
  have HW := Lib.hid (hr (by trivial))
  have HAB := Lib.hid (fun w1 hb => impl_compare w xa xb Ka Ha sa A3a A4a A5a n3a c3a n4a c4a n5a c5a Kb Hb sb A3b A4b A5b n3b c3b n4b c4b n5b c5b (HTa.out HW.out.1) (HTb.out HW.out.2) (cmpV xa xb) (HPab.out HW.out.1 HW.out.2) w1 hb)
  have HCM := Lib.hid (HSab.out HW.out.1 HW.out.2)
  unfold CmpOk at HCM
  generalize cmpV xa xb = z at HAB HCM
  have hzz : (z == z) = true := by simp
  refine ⟨_, rfl, ?_⟩
  have hz1 := SPL.below (hHeld.2.2.2.2.2.2.2.2.2.2.2.2) hb
  refine hK.out _ _ ⟨((six_cells (hz1.get 0 rfl)).1), ((six_cells (hz1.get 0 rfl)).2.1), ((six_cells (hz1.get 0 rfl)).2.2.1), ((six_cells (hz1.get 0 rfl)).2.2.2.1), ((six_cells (hz1.get 0 rfl)).2.2.2.2.1), ((six_cells (hz1.get 0 rfl)).2.2.2.2.2.1), ((six_cells (hz1.get 1 rfl)).1), ((six_cells (hz1.get 1 rfl)).2.1), ((six_cells (hz1.get 1 rfl)).2.2.1), ((six_cells (hz1.get 1 rfl)).2.2.2.1), ((six_cells (hz1.get 1 rfl)).2.2.2.2.1), ((six_cells (hz1.get 1 rfl)).2.2.2.2.2.1), hz1⟩ (fun hHeld => ?_)
  clear hK K
  refine norm_ (a' := ?_) ?_ ?_
  rotate_left
  · show Act.put _ (some 15) _ = _
    simp only [Act.put, List.setIfInBounds_toArray, List.set_cons_zero, List.set_cons_succ, i64_w, i32_w]
    rfl
  refine pure_ (i := 3) (N := some 16) (v := ?_) (a' := ?_) #[true, true, true, true, false, false, false, false, false, false, false, false, false, false] rfl rfl (by kernel_rfl) (fun _ _ _ h => h) (Or.inl ⟨by rfl, ?_⟩) ?_ ?_
  rotate_left
  · intro w'
    go_simp
    with_reducible rfl
  rotate_left
  · simp only [Act.put, List.setIfInBounds_toArray, List.set_cons_zero, List.set_cons_succ, i64_w, i32_w]
    rfl
  refine pure_ (i := 4) (N := some 17) (v := ?_) (a' := ?_) #[true, true, true, true, true, false, false, false, false, false, false, false, false, false] rfl rfl (by kernel_rfl) (fun _ _ _ h => h) (Or.inl ⟨by rfl, ?_⟩) ?_ ?_
  rotate_left
  · intro w'
    go_simp
    with_reducible rfl
  rotate_left
  · simp only [Act.put, List.setIfInBounds_toArray, List.set_cons_zero, List.set_cons_succ, i64_w, i32_w]
    rfl
  refine take_ (i := 5) (N := some 18) (v := ?_) (a' := ?_) #[true, true, true, true, true, true, false, false, false, false, false, false, false, false] rfl rfl (by kernel_rfl) (fun _ _ _ h => h) (Or.inl ⟨by rfl, ?_⟩) hHeld ?_ ?_
  rotate_left
  · rintro w' ⟨s0, s1, s2, s3, s4, s5, s6, s7, s8, s9, s10, s11, s12⟩
    go_simp
    with_reducible rfl
  rotate_left
  · simp only [Act.put, List.setIfInBounds_toArray, List.set_cons_zero, List.set_cons_succ, i64_w, i32_w]
    rfl
  refine take_ (i := 6) (N := some 19) (v := ?_) (a' := ?_) #[true, true, true, true, true, true, true, false, false, false, false, false, false, false] rfl rfl (by kernel_rfl) (fun _ _ _ h => h) (Or.inl ⟨by rfl, ?_⟩) hHeld ?_ ?_
  rotate_left
  · rintro w' ⟨s0, s1, s2, s3, s4, s5, s6, s7, s8, s9, s10, s11, s12⟩
    go_simp
    with_reducible rfl
  rotate_left
  · simp only [Act.put, List.setIfInBounds_toArray, List.set_cons_zero, List.set_cons_succ, i64_w, i32_w]
    rfl
  refine take_ (i := 8) (N := some 21) (v := ?_) (a' := ?_) #[true, true, true, true, true, true, true, false, true, false, false, false, false, false] rfl rfl (by kernel_rfl) (fun _ _ _ h => h) (Or.inl ⟨by rfl, ?_⟩) hHeld ?_ ?_
  rotate_left
  · rintro w' ⟨s0, s1, s2, s3, s4, s5, s6, s7, s8, s9, s10, s11, s12⟩
    go_simp
    with_reducible rfl
  rotate_left
  · simp only [Act.put, List.setIfInBounds_toArray, List.set_cons_zero, List.set_cons_succ, i64_w, i32_w]
    rfl
  refine take_ (i := 9) (N := some 22) (v := ?_) (a' := ?_) #[true, true, true, true, true, true, true, false, true, true, false, false, false, false] rfl rfl (by kernel_rfl) (fun _ _ _ h => h) (Or.inl ⟨by rfl, ?_⟩) hHeld ?_ ?_
  rotate_left
  · rintro w' ⟨s0, s1, s2, s3, s4, s5, s6, s7, s8, s9, s10, s11, s12⟩
    go_simp
    with_reducible rfl
  rotate_left
  · simp only [Act.put, List.setIfInBounds_toArray, List.set_cons_zero, List.set_cons_succ, i64_w, i32_w]
    rfl
  refine one_ (i := 7) (N := some 20) #[true, true, true, true, true, true, true, true, true, true, false, false, false, false] rfl rfl (by kernel_rfl) (by decide) (fun K hK => ?_)
  refine goes_ Tryz.func29 (by kernel_rfl) rfl #[.agg #[.int .i64 Ka, .int .i64 Ha, .string sa, .slice A3a n3a c3a, .slice A4a n4a c4a, .slice A5a n5a c5a], .agg #[.int .i64 Kb, .int .i64 Hb, .string sb, .slice A3b n3b c3b, .slice A4b n4b c4b, .slice A5b n5b c5b]] (by rfl) rfl rfl (by simp only [List.map_toArray, List.map_cons, List.map_nil]; rfl) ?_
  with_reducible refine ((HAB.out _ (SPL.bel (hHeld.2.2.2.2.2.2.2.2.2.2.2.2)))).mono ?_
  rintro e w4 ⟨rfl, hb⟩
  refine ⟨_, rfl, ?_⟩
  have hz2 := SPL.below (hHeld.2.2.2.2.2.2.2.2.2.2.2.2) hb
  refine hK.out _ _ ⟨((six_cells (hz2.get 0 rfl)).1), ((six_cells (hz2.get 0 rfl)).2.1), ((six_cells (hz2.get 0 rfl)).2.2.1), ((six_cells (hz2.get 0 rfl)).2.2.2.1), ((six_cells (hz2.get 0 rfl)).2.2.2.2.1), ((six_cells (hz2.get 0 rfl)).2.2.2.2.2.1), ((six_cells (hz2.get 1 rfl)).1), ((six_cells (hz2.get 1 rfl)).2.1), ((six_cells (hz2.get 1 rfl)).2.2.1), ((six_cells (hz2.get 1 rfl)).2.2.2.1), ((six_cells (hz2.get 1 rfl)).2.2.2.2.1), ((six_cells (hz2.get 1 rfl)).2.2.2.2.2.1), hz2⟩ (fun hHeld => ?_)
  clear hK K
  refine norm_ (a' := ?_) ?_ ?_
  rotate_left
  · show Act.put _ (some 20) _ = _
    simp only [Act.put, List.setIfInBounds_toArray, List.set_cons_zero, List.set_cons_succ, i64_w, i32_w]
    rfl
  refine one_ (i := 10) (N := some 23) #[true, true, true, true, true, true, true, true, true, true, true, false, false, false] rfl rfl (by kernel_rfl) (by decide) (fun K hK => ?_)
  refine goes_ Tryz.func30 (by kernel_rfl) rfl #[.agg #[.int .i64 Ka, .int .i64 Ha, .string sa, .slice A3a n3a c3a, .slice A4a n4a c4a, .slice A5a n5a c5a], .agg #[.int .i64 Kb, .int .i64 Hb, .string sb, .slice A3b n3b c3b, .slice A4b n4b c4b, .slice A5b n5b c5b]] (by rfl) rfl rfl (by simp only [List.map_toArray, List.map_cons, List.map_nil]; rfl) ?_
  with_reducible refine ((HCM.out _ (SPL.bel (hHeld.2.2.2.2.2.2.2.2.2.2.2.2)))).mono ?_
  rintro e w5 ⟨rfl, hb⟩
  refine ⟨_, rfl, ?_⟩
  have hz3 := SPL.below (hHeld.2.2.2.2.2.2.2.2.2.2.2.2) hb
  refine hK.out _ _ ⟨((six_cells (hz3.get 0 rfl)).1), ((six_cells (hz3.get 0 rfl)).2.1), ((six_cells (hz3.get 0 rfl)).2.2.1), ((six_cells (hz3.get 0 rfl)).2.2.2.1), ((six_cells (hz3.get 0 rfl)).2.2.2.2.1), ((six_cells (hz3.get 0 rfl)).2.2.2.2.2.1), ((six_cells (hz3.get 1 rfl)).1), ((six_cells (hz3.get 1 rfl)).2.1), ((six_cells (hz3.get 1 rfl)).2.2.1), ((six_cells (hz3.get 1 rfl)).2.2.2.1), ((six_cells (hz3.get 1 rfl)).2.2.2.2.1), ((six_cells (hz3.get 1 rfl)).2.2.2.2.2.1), hz3⟩ (fun hHeld => ?_)
  clear hK K
  refine norm_ (a' := ?_) ?_ ?_
  rotate_left
  · show Act.put _ (some 23) _ = _
    simp only [Act.put, List.setIfInBounds_toArray, List.set_cons_zero, List.set_cons_succ, i64_w, i32_w]
    rfl
  refine pure_ (i := 11) (N := some 24) (v := ?_) (a' := ?_) #[true, true, true, true, true, true, true, true, true, true, true, true, false, false] rfl rfl (by kernel_rfl) (fun _ _ _ h => h) (Or.inl ⟨by rfl, ?_⟩) ?_ ?_
  rotate_left
  · intro w'
    go_simp
    with_reducible rfl
  rotate_left
  · simp only [Act.put, List.setIfInBounds_toArray, List.set_cons_zero, List.set_cons_succ, i64_w, i32_w]
    rfl
  refine pure_ (i := 12) (N := some 25) (v := ?_) (a' := ?_) #[true, true, true, true, true, true, true, true, true, true, true, true, true, false] rfl rfl (by kernel_rfl) (fun _ _ _ h => h) (Or.inl ⟨by rfl, ?_⟩) ?_ ?_
  rotate_left
  · intro w'
    go_simp
    with_reducible rfl
  rotate_left
  · simp only [Act.put, List.setIfInBounds_toArray, List.set_cons_zero, List.set_cons_succ, i64_w, i32_w]
    rfl
  refine pure_ (i := 13) (N := some 4) (v := ?_) (a' := ?_) #[true, true, true, true, true, true, true, true, true, true, true, true, true, true] rfl rfl (by kernel_rfl) (fun _ _ _ h => h) (Or.inl ⟨by rfl, ?_⟩) ?_ ?_
  rotate_left
  · intro w'
    go_simp
    with_reducible rfl
  rotate_left
  · simp only [Act.put, List.setIfInBounds_toArray, List.set_cons_zero, List.set_cons_succ, i64_w, i32_w]
    rfl
  refine done_ (by kernel_rfl) ?_
  go_wp2_with fail
  go_ret
  exact ⟨rfl, hz3.1⟩
end Go.Proofs.YtdcgjfiknknjfaaGreatDoor.ValA
