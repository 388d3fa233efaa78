/-
Parts of the proof, one behind the other: CmpI.
-/
import Derived.Test.YtdcgjfiknknjfaaGreatDoorMH
import Derived.Test.YtdcgjfiknknjfaaGreatDoorME
/-
The six comparisons: package gojq's, impl's; laws.is.
-/
set_option linter.unusedSimpArgs false
set_option linter.unusedVariables false
namespace Go.Proofs.YtdcgjfiknknjfaaGreatDoor.NumA
open Go.RowKit Go.Lib Go.Proofs.YtdcgjfiknknjfaaGreatDoor.ValA Go.Proofs.YtdcgjfiknknjfaaGreatDoor.FloH Go.Proofs.YtdcgjfiknknjfaaGreatDoorW.PrintWords Go.Proofs.YtdcgjfiknknjfaaGreatDoorW.PrintLast Go.Proofs.YtdcgjfiknknjfaaGreatDoorW.PrintMore Go.Proofs.YtdcgjfiknknjfaaGreatDoor.PzzFits1
theorem zz_opEq (l r : Value) (z : Int) (t : Bool) (ht : (z == 0) = t) (w : World) (HC : Calls Tryz.prog 49 #[l, r] w (Gz z w)) : Calls Tryz.prog 55 #[l, r] w (Gives (fun v => v = .iface 4 (.bool t)) w) := by
  have HC0 := Lib.hid HC
  clear HC
  have H1 : Hid (Calls Tryz.prog 82 #[.nilIface, l, r] w (Gives (fun v => v = .iface 4 (.bool t)) w)) := by
    refine Lib.hid ?_
    go_enter Tryz.func82, Tryz.ntmps82
    go_wp2_with fail
    refine HC0.out.mono ?_
    rintro e w1 ⟨rfl, hb⟩
    have HB := Lib.hid hb; clear hb
    go_wp2_with fail
    go_ret
    exact ⟨_, rfl, by first | rfl | (rw [← ht]; rfl) | (rw [← ht]; simp), HB.out⟩
  clear HC0 ht
  go_enter Tryz.func55, Tryz.ntmps55
  go_wp2_with fail
  refine H1.out.mono ?_
  rintro e w1 ⟨v, rfl, rfl, hb⟩
  have HB := Lib.hid hb; clear hb
  go_wp2_with fail
  go_ret
  exact ⟨_, rfl, rfl, HB.out⟩
set_option maxHeartbeats 4000000 in
theorem impl_opEq (w0 : World) (x y : V) (Ka Ha : Int) (sa : ByteArray) (A3a A4a A5a : Option Addr) (n3a c3a n4a c4a n5a c5a : Nat) (Kb Hb : Int) (sb : ByteArray) (A3b A4b A5b : Option Addr) (n3b c3b n4b c4b n5b c5b : Nat) (Tx : ToGo w0 x [.int .i64 Ka, .int .i64 Ha, .string sa, .slice A3a n3a c3a, .slice A4a n4a c4a, .slice A5a n5a c5a]) (Ty : ToGo w0 y [.int .i64 Kb, .int .i64 Hb, .string sb, .slice A3b n3b c3b, .slice A4b n4b c4b, .slice A5b n5b c5b]) (z : Int) (t : Bool) (ht : (z == 0) = t)
    (HC : ∀ g h n m w, G n w x g → G m w y h → Calls Tryz.prog 49 #[g, h] w (Gz z w)) (w : World) (hb : Below w0.heap.size w0 w) :
    Calls Tryz.prog 34 #[.agg #[.int .i64 Ka, .int .i64 Ha, .string sa, .slice A3a n3a c3a, .slice A4a n4a c4a, .slice A5a n5a c5a], .agg #[.int .i64 Kb, .int .i64 Hb, .string sb, .slice A3b n3b c3b, .slice A4b n4b c4b, .slice A5b n5b c5b]] w fun e w' => e = .returned (.agg #[.int .i64 (kb t), .int .i64 0, .string ⟨#[]⟩, .slice none 0 0, .slice none 0 0, .slice none 0 0, .int .i64 0]) ∧ Below w.heap.size w w' := by
  have HX := Lib.hid Tx
  have HY := Lib.hid Ty
  have HCC := Lib.hid (fun g h n m w hg hh => zz_opEq g h z t ht w (HC g h n m w hg hh))
  have HB := Lib.hid hb
  have HD := Lib.hid (fun w => result_bool t w)
  simp only [rv, r0] at HD
  clear Tx Ty HC hb ht
  go_enter Tryz.func34, Tryz.ntmps34
  go_wp2_with fail
  have h3 := three_boxes w #[.int .i64 Ka, .int .i64 Ha, .string sa, .slice A3a n3a c3a, .slice A4a n4a c4a, .slice A5a n5a c5a] #[.int .i64 Kb, .int .i64 Hb, .string sb, .slice A3b n3b c3b, .slice A4b n4b c4b, .slice A5b n5b c5b] #[.int .i64 0, .int .i64 0, .string ⟨#[]⟩, .slice none 0 0, .slice none 0 0, .slice none 0 0, .int .i64 0] 26 26 30
  obtain ⟨W0, hw0⟩ : ∃ W0, W0 = (((w.alloc (.cells #[.int .i64 Ka, .int .i64 Ha, .string sa, .slice A3a n3a c3a, .slice A4a n4a c4a, .slice A5a n5a c5a] 26)).alloc (.cells #[.int .i64 Kb, .int .i64 Hb, .string sb, .slice A3b n3b c3b, .slice A4b n4b c4b, .slice A5b n5b c5b] 26)).alloc (.cells #[.int .i64 0, .int .i64 0, .string ⟨#[]⟩, .slice none 0 0, .slice none 0 0, .slice none 0 0, .int .i64 0] 30)) := ⟨_, rfl⟩
  rw [← hw0] at h3 ⊢
  clear hw0
  have H0 := Lib.hid h3
  clear h3
  refine (HX.out W0 (HB.out.trans (H0.out.1.mono HB.out.size))).mono ?_
  rintro e w1 ⟨g, rfl, hG, hb⟩
  have hy := (hb.block _ (lt_of_heap H0.out.2.2)).trans H0.out.2.2
  have H1 := Lib.hid (And.intro (H0.out.1.trans (hb.mono H0.out.1.size)) (And.intro ((hb.block _ (lt_of_heap H0.out.2.1)).trans H0.out.2.1) hG))
  clear hb H0 hG
  have y := six_cells hy
  clear hy
  go_wp2_with fail
  refine (HY.out w1 (HB.out.trans (H1.out.1.mono HB.out.size))).mono ?_
  rintro e w2 ⟨h, rfl, hG, hb⟩
  clear y
  have H2 := Lib.hid (And.intro (H1.out.1.trans (hb.mono H1.out.1.size)) (And.intro ((hb.block _ (lt_of_heap H1.out.2.1)).trans H1.out.2.1) (And.intro (H1.out.2.2.keepB hb) hG)))
  clear hb H1 hG
  go_wp2_with fail
  refine (HCC.out g h _ _ w2 H2.out.2.2.1 H2.out.2.2.2).mono ?_
  rintro e w3 ⟨v, rfl, rfl, hb⟩
  have H3 := Lib.hid (And.intro (H2.out.1.trans (hb.mono H2.out.1.size)) ((hb.block _ (lt_of_heap H2.out.2.1)).trans H2.out.2.1))
  clear hb H2
  go_wp2_with fail
  refine (HD.out w3).mono ?_
  rintro e w4 ⟨rfl, hb⟩
  have hx := (hb.block _ (lt_of_heap H3.out.2)).trans H3.out.2
  have H4 := Lib.hid (H3.out.1.trans (hb.mono H3.out.1.size))
  clear hb H3
  have y := sev_cells hx
  go_wp2_with fail
  have hz := sev_set hx (.int .i64 (kb t)) (.int .i64 0) (.string ⟨#[]⟩) (.slice none 0 0) (.slice none 0 0) (.slice none 0 0) (.int .i64 0)
  have hg := sev_grown w4 (w.heap.size + 1 + 1) (.int .i64 (kb t)) (.int .i64 0) (.string ⟨#[]⟩) (.slice none 0 0) (.slice none 0 0) (.slice none 0 0) (.int .i64 0)
  obtain ⟨W2, hW⟩ : ∃ W2, W2 = (((((((w4.setCell ⟨w.heap.size + 1 + 1, 0, none⟩ (.int .i64 (kb t))).setCell ⟨w.heap.size + 1 + 1, 1, none⟩ (.int .i64 0)).setCell ⟨w.heap.size + 1 + 1, 2, none⟩ (.string ⟨#[]⟩)).setCell ⟨w.heap.size + 1 + 1, 3, none⟩ (.slice none 0 0)).setCell ⟨w.heap.size + 1 + 1, 4, none⟩ (.slice none 0 0)).setCell ⟨w.heap.size + 1 + 1, 5, none⟩ (.slice none 0 0)).setCell ⟨w.heap.size + 1 + 1, 6, none⟩ (.int .i64 0)) := ⟨_, rfl⟩
  rw [← hW] at hz hg ⊢
  clear hW y hx
  obtain ⟨q0, q1, q2, q3, q4, q5, q6, _⟩ := sev_cells hz
  refine bodyPost_ret (v := .agg #[.int .i64 (kb t), .int .i64 0, .string ⟨#[]⟩, .slice none 0 0, .slice none 0 0, .slice none 0 0, .int .i64 0]) (by simp [results, Tryz.results34, go_sem, q0, q1, q2, q3, q4, q5, q6]) rfl ?_
  exact ⟨rfl, H4.out.grown hg H4.out.size (fun k hk => by cases hk; omega)⟩
theorem zz_opNe (l r : Value) (z : Int) (t : Bool) (ht : (z != 0) = t) (w : World) (HC : Calls Tryz.prog 49 #[l, r] w (Gz z w)) : Calls Tryz.prog 56 #[l, r] w (Gives (fun v => v = .iface 4 (.bool t)) w) := by
  have HC0 := Lib.hid HC
  clear HC
  have H1 : Hid (Calls Tryz.prog 83 #[.nilIface, l, r] w (Gives (fun v => v = .iface 4 (.bool t)) w)) := by
    refine Lib.hid ?_
    go_enter Tryz.func83, Tryz.ntmps83
    go_wp2_with fail
    refine HC0.out.mono ?_
    rintro e w1 ⟨rfl, hb⟩
    have HB := Lib.hid hb; clear hb
    go_wp2_with fail
    go_ret
    exact ⟨_, rfl, by first | rfl | (rw [← ht]; rfl) | (rw [← ht]; simp), HB.out⟩
  clear HC0 ht
  go_enter Tryz.func56, Tryz.ntmps56
  go_wp2_with fail
  refine H1.out.mono ?_
  rintro e w1 ⟨v, rfl, rfl, hb⟩
  have HB := Lib.hid hb; clear hb
  go_wp2_with fail
  go_ret
  exact ⟨_, rfl, rfl, HB.out⟩
set_option maxHeartbeats 4000000 in
theorem impl_opNe (w0 : World) (x y : V) (Ka Ha : Int) (sa : ByteArray) (A3a A4a A5a : Option Addr) (n3a c3a n4a c4a n5a c5a : Nat) (Kb Hb : Int) (sb : ByteArray) (A3b A4b A5b : Option Addr) (n3b c3b n4b c4b n5b c5b : Nat) (Tx : ToGo w0 x [.int .i64 Ka, .int .i64 Ha, .string sa, .slice A3a n3a c3a, .slice A4a n4a c4a, .slice A5a n5a c5a]) (Ty : ToGo w0 y [.int .i64 Kb, .int .i64 Hb, .string sb, .slice A3b n3b c3b, .slice A4b n4b c4b, .slice A5b n5b c5b]) (z : Int) (t : Bool) (ht : (z != 0) = t)
    (HC : ∀ g h n m w, G n w x g → G m w y h → Calls Tryz.prog 49 #[g, h] w (Gz z w)) (w : World) (hb : Below w0.heap.size w0 w) :
    Calls Tryz.prog 35 #[.agg #[.int .i64 Ka, .int .i64 Ha, .string sa, .slice A3a n3a c3a, .slice A4a n4a c4a, .slice A5a n5a c5a], .agg #[.int .i64 Kb, .int .i64 Hb, .string sb, .slice A3b n3b c3b, .slice A4b n4b c4b, .slice A5b n5b c5b]] w fun e w' => e = .returned (.agg #[.int .i64 (kb t), .int .i64 0, .string ⟨#[]⟩, .slice none 0 0, .slice none 0 0, .slice none 0 0, .int .i64 0]) ∧ Below w.heap.size w w' := by
  have HX := Lib.hid Tx
  have HY := Lib.hid Ty
  have HCC := Lib.hid (fun g h n m w hg hh => zz_opNe g h z t ht w (HC g h n m w hg hh))
  have HB := Lib.hid hb
  have HD := Lib.hid (fun w => result_bool t w)
  simp only [rv, r0] at HD
  clear Tx Ty HC hb ht
  go_enter Tryz.func35, Tryz.ntmps35
  go_wp2_with fail
  have h3 := three_boxes w #[.int .i64 Ka, .int .i64 Ha, .string sa, .slice A3a n3a c3a, .slice A4a n4a c4a, .slice A5a n5a c5a] #[.int .i64 Kb, .int .i64 Hb, .string sb, .slice A3b n3b c3b, .slice A4b n4b c4b, .slice A5b n5b c5b] #[.int .i64 0, .int .i64 0, .string ⟨#[]⟩, .slice none 0 0, .slice none 0 0, .slice none 0 0, .int .i64 0] 26 26 30
  obtain ⟨W0, hw0⟩ : ∃ W0, W0 = (((w.alloc (.cells #[.int .i64 Ka, .int .i64 Ha, .string sa, .slice A3a n3a c3a, .slice A4a n4a c4a, .slice A5a n5a c5a] 26)).alloc (.cells #[.int .i64 Kb, .int .i64 Hb, .string sb, .slice A3b n3b c3b, .slice A4b n4b c4b, .slice A5b n5b c5b] 26)).alloc (.cells #[.int .i64 0, .int .i64 0, .string ⟨#[]⟩, .slice none 0 0, .slice none 0 0, .slice none 0 0, .int .i64 0] 30)) := ⟨_, rfl⟩
  rw [← hw0] at h3 ⊢
  clear hw0
  have H0 := Lib.hid h3
  clear h3
  refine (HX.out W0 (HB.out.trans (H0.out.1.mono HB.out.size))).mono ?_
  rintro e w1 ⟨g, rfl, hG, hb⟩
  have hy := (hb.block _ (lt_of_heap H0.out.2.2)).trans H0.out.2.2
  have H1 := Lib.hid (And.intro (H0.out.1.trans (hb.mono H0.out.1.size)) (And.intro ((hb.block _ (lt_of_heap H0.out.2.1)).trans H0.out.2.1) hG))
  clear hb H0 hG
  have y := six_cells hy
  clear hy
  go_wp2_with fail
  refine (HY.out w1 (HB.out.trans (H1.out.1.mono HB.out.size))).mono ?_
  rintro e w2 ⟨h, rfl, hG, hb⟩
  clear y
  have H2 := Lib.hid (And.intro (H1.out.1.trans (hb.mono H1.out.1.size)) (And.intro ((hb.block _ (lt_of_heap H1.out.2.1)).trans H1.out.2.1) (And.intro (H1.out.2.2.keepB hb) hG)))
  clear hb H1 hG
  go_wp2_with fail
  refine (HCC.out g h _ _ w2 H2.out.2.2.1 H2.out.2.2.2).mono ?_
  rintro e w3 ⟨v, rfl, rfl, hb⟩
  have H3 := Lib.hid (And.intro (H2.out.1.trans (hb.mono H2.out.1.size)) ((hb.block _ (lt_of_heap H2.out.2.1)).trans H2.out.2.1))
  clear hb H2
  go_wp2_with fail
  refine (HD.out w3).mono ?_
  rintro e w4 ⟨rfl, hb⟩
  have hx := (hb.block _ (lt_of_heap H3.out.2)).trans H3.out.2
  have H4 := Lib.hid (H3.out.1.trans (hb.mono H3.out.1.size))
  clear hb H3
  have y := sev_cells hx
  go_wp2_with fail
  have hz := sev_set hx (.int .i64 (kb t)) (.int .i64 0) (.string ⟨#[]⟩) (.slice none 0 0) (.slice none 0 0) (.slice none 0 0) (.int .i64 0)
  have hg := sev_grown w4 (w.heap.size + 1 + 1) (.int .i64 (kb t)) (.int .i64 0) (.string ⟨#[]⟩) (.slice none 0 0) (.slice none 0 0) (.slice none 0 0) (.int .i64 0)
  obtain ⟨W2, hW⟩ : ∃ W2, W2 = (((((((w4.setCell ⟨w.heap.size + 1 + 1, 0, none⟩ (.int .i64 (kb t))).setCell ⟨w.heap.size + 1 + 1, 1, none⟩ (.int .i64 0)).setCell ⟨w.heap.size + 1 + 1, 2, none⟩ (.string ⟨#[]⟩)).setCell ⟨w.heap.size + 1 + 1, 3, none⟩ (.slice none 0 0)).setCell ⟨w.heap.size + 1 + 1, 4, none⟩ (.slice none 0 0)).setCell ⟨w.heap.size + 1 + 1, 5, none⟩ (.slice none 0 0)).setCell ⟨w.heap.size + 1 + 1, 6, none⟩ (.int .i64 0)) := ⟨_, rfl⟩
  rw [← hW] at hz hg ⊢
  clear hW y hx
  obtain ⟨q0, q1, q2, q3, q4, q5, q6, _⟩ := sev_cells hz
  refine bodyPost_ret (v := .agg #[.int .i64 (kb t), .int .i64 0, .string ⟨#[]⟩, .slice none 0 0, .slice none 0 0, .slice none 0 0, .int .i64 0]) (by simp [results, Tryz.results35, go_sem, q0, q1, q2, q3, q4, q5, q6]) rfl ?_
  exact ⟨rfl, H4.out.grown hg H4.out.size (fun k hk => by cases hk; omega)⟩
theorem zz_opLt (l r : Value) (z : Int) (t : Bool) (ht : (decide (z < 0)) = t) (w : World) (HC : Calls Tryz.prog 49 #[l, r] w (Gz z w)) : Calls Tryz.prog 57 #[l, r] w (Gives (fun v => v = .iface 4 (.bool t)) w) := by
  have HC0 := Lib.hid HC
  clear HC
  have H1 : Hid (Calls Tryz.prog 84 #[.nilIface, l, r] w (Gives (fun v => v = .iface 4 (.bool t)) w)) := by
    refine Lib.hid ?_
    go_enter Tryz.func84, Tryz.ntmps84
    go_wp2_with fail
    refine HC0.out.mono ?_
    rintro e w1 ⟨rfl, hb⟩
    have HB := Lib.hid hb; clear hb
    go_wp2_with fail
    go_ret
    exact ⟨_, rfl, by first | rfl | (rw [← ht]; rfl) | (rw [← ht]; simp), HB.out⟩
  clear HC0 ht
  go_enter Tryz.func57, Tryz.ntmps57
  go_wp2_with fail
  refine H1.out.mono ?_
  rintro e w1 ⟨v, rfl, rfl, hb⟩
  have HB := Lib.hid hb; clear hb
  go_wp2_with fail
  go_ret
  exact ⟨_, rfl, rfl, HB.out⟩
set_option maxHeartbeats 4000000 in
theorem impl_opLt (w0 : World) (x y : V) (Ka Ha : Int) (sa : ByteArray) (A3a A4a A5a : Option Addr) (n3a c3a n4a c4a n5a c5a : Nat) (Kb Hb : Int) (sb : ByteArray) (A3b A4b A5b : Option Addr) (n3b c3b n4b c4b n5b c5b : Nat) (Tx : ToGo w0 x [.int .i64 Ka, .int .i64 Ha, .string sa, .slice A3a n3a c3a, .slice A4a n4a c4a, .slice A5a n5a c5a]) (Ty : ToGo w0 y [.int .i64 Kb, .int .i64 Hb, .string sb, .slice A3b n3b c3b, .slice A4b n4b c4b, .slice A5b n5b c5b]) (z : Int) (t : Bool) (ht : (decide (z < 0)) = t)
    (HC : ∀ g h n m w, G n w x g → G m w y h → Calls Tryz.prog 49 #[g, h] w (Gz z w)) (w : World) (hb : Below w0.heap.size w0 w) :
    Calls Tryz.prog 36 #[.agg #[.int .i64 Ka, .int .i64 Ha, .string sa, .slice A3a n3a c3a, .slice A4a n4a c4a, .slice A5a n5a c5a], .agg #[.int .i64 Kb, .int .i64 Hb, .string sb, .slice A3b n3b c3b, .slice A4b n4b c4b, .slice A5b n5b c5b]] w fun e w' => e = .returned (.agg #[.int .i64 (kb t), .int .i64 0, .string ⟨#[]⟩, .slice none 0 0, .slice none 0 0, .slice none 0 0, .int .i64 0]) ∧ Below w.heap.size w w' := by
  have HX := Lib.hid Tx
  have HY := Lib.hid Ty
  have HCC := Lib.hid (fun g h n m w hg hh => zz_opLt g h z t ht w (HC g h n m w hg hh))
  have HB := Lib.hid hb
  have HD := Lib.hid (fun w => result_bool t w)
  simp only [rv, r0] at HD
  clear Tx Ty HC hb ht
  go_enter Tryz.func36, Tryz.ntmps36
  go_wp2_with fail
  have h3 := three_boxes w #[.int .i64 Ka, .int .i64 Ha, .string sa, .slice A3a n3a c3a, .slice A4a n4a c4a, .slice A5a n5a c5a] #[.int .i64 Kb, .int .i64 Hb, .string sb, .slice A3b n3b c3b, .slice A4b n4b c4b, .slice A5b n5b c5b] #[.int .i64 0, .int .i64 0, .string ⟨#[]⟩, .slice none 0 0, .slice none 0 0, .slice none 0 0, .int .i64 0] 26 26 30
  obtain ⟨W0, hw0⟩ : ∃ W0, W0 = (((w.alloc (.cells #[.int .i64 Ka, .int .i64 Ha, .string sa, .slice A3a n3a c3a, .slice A4a n4a c4a, .slice A5a n5a c5a] 26)).alloc (.cells #[.int .i64 Kb, .int .i64 Hb, .string sb, .slice A3b n3b c3b, .slice A4b n4b c4b, .slice A5b n5b c5b] 26)).alloc (.cells #[.int .i64 0, .int .i64 0, .string ⟨#[]⟩, .slice none 0 0, .slice none 0 0, .slice none 0 0, .int .i64 0] 30)) := ⟨_, rfl⟩
  rw [← hw0] at h3 ⊢
  clear hw0
  have H0 := Lib.hid h3
  clear h3
  refine (HX.out W0 (HB.out.trans (H0.out.1.mono HB.out.size))).mono ?_
  rintro e w1 ⟨g, rfl, hG, hb⟩
  have hy := (hb.block _ (lt_of_heap H0.out.2.2)).trans H0.out.2.2
  have H1 := Lib.hid (And.intro (H0.out.1.trans (hb.mono H0.out.1.size)) (And.intro ((hb.block _ (lt_of_heap H0.out.2.1)).trans H0.out.2.1) hG))
  clear hb H0 hG
  have y := six_cells hy
  clear hy
  go_wp2_with fail
  refine (HY.out w1 (HB.out.trans (H1.out.1.mono HB.out.size))).mono ?_
  rintro e w2 ⟨h, rfl, hG, hb⟩
  clear y
  have H2 := Lib.hid (And.intro (H1.out.1.trans (hb.mono H1.out.1.size)) (And.intro ((hb.block _ (lt_of_heap H1.out.2.1)).trans H1.out.2.1) (And.intro (H1.out.2.2.keepB hb) hG)))
  clear hb H1 hG
  go_wp2_with fail
  refine (HCC.out g h _ _ w2 H2.out.2.2.1 H2.out.2.2.2).mono ?_
  rintro e w3 ⟨v, rfl, rfl, hb⟩
  have H3 := Lib.hid (And.intro (H2.out.1.trans (hb.mono H2.out.1.size)) ((hb.block _ (lt_of_heap H2.out.2.1)).trans H2.out.2.1))
  clear hb H2
  go_wp2_with fail
  refine (HD.out w3).mono ?_
  rintro e w4 ⟨rfl, hb⟩
  have hx := (hb.block _ (lt_of_heap H3.out.2)).trans H3.out.2
  have H4 := Lib.hid (H3.out.1.trans (hb.mono H3.out.1.size))
  clear hb H3
  have y := sev_cells hx
  go_wp2_with fail
  have hz := sev_set hx (.int .i64 (kb t)) (.int .i64 0) (.string ⟨#[]⟩) (.slice none 0 0) (.slice none 0 0) (.slice none 0 0) (.int .i64 0)
  have hg := sev_grown w4 (w.heap.size + 1 + 1) (.int .i64 (kb t)) (.int .i64 0) (.string ⟨#[]⟩) (.slice none 0 0) (.slice none 0 0) (.slice none 0 0) (.int .i64 0)
  obtain ⟨W2, hW⟩ : ∃ W2, W2 = (((((((w4.setCell ⟨w.heap.size + 1 + 1, 0, none⟩ (.int .i64 (kb t))).setCell ⟨w.heap.size + 1 + 1, 1, none⟩ (.int .i64 0)).setCell ⟨w.heap.size + 1 + 1, 2, none⟩ (.string ⟨#[]⟩)).setCell ⟨w.heap.size + 1 + 1, 3, none⟩ (.slice none 0 0)).setCell ⟨w.heap.size + 1 + 1, 4, none⟩ (.slice none 0 0)).setCell ⟨w.heap.size + 1 + 1, 5, none⟩ (.slice none 0 0)).setCell ⟨w.heap.size + 1 + 1, 6, none⟩ (.int .i64 0)) := ⟨_, rfl⟩
  rw [← hW] at hz hg ⊢
  clear hW y hx
  obtain ⟨q0, q1, q2, q3, q4, q5, q6, _⟩ := sev_cells hz
  refine bodyPost_ret (v := .agg #[.int .i64 (kb t), .int .i64 0, .string ⟨#[]⟩, .slice none 0 0, .slice none 0 0, .slice none 0 0, .int .i64 0]) (by simp [results, Tryz.results36, go_sem, q0, q1, q2, q3, q4, q5, q6]) rfl ?_
  exact ⟨rfl, H4.out.grown hg H4.out.size (fun k hk => by cases hk; omega)⟩
theorem zz_opLe (l r : Value) (z : Int) (t : Bool) (ht : (decide (z ≤ 0)) = t) (w : World) (HC : Calls Tryz.prog 49 #[l, r] w (Gz z w)) : Calls Tryz.prog 58 #[l, r] w (Gives (fun v => v = .iface 4 (.bool t)) w) := by
  have HC0 := Lib.hid HC
  clear HC
  have H1 : Hid (Calls Tryz.prog 85 #[.nilIface, l, r] w (Gives (fun v => v = .iface 4 (.bool t)) w)) := by
    refine Lib.hid ?_
    go_enter Tryz.func85, Tryz.ntmps85
    go_wp2_with fail
    refine HC0.out.mono ?_
    rintro e w1 ⟨rfl, hb⟩
    have HB := Lib.hid hb; clear hb
    go_wp2_with fail
    go_ret
    exact ⟨_, rfl, by first | rfl | (rw [← ht]; rfl) | (rw [← ht]; simp), HB.out⟩
  clear HC0 ht
  go_enter Tryz.func58, Tryz.ntmps58
  go_wp2_with fail
  refine H1.out.mono ?_
  rintro e w1 ⟨v, rfl, rfl, hb⟩
  have HB := Lib.hid hb; clear hb
  go_wp2_with fail
  go_ret
  exact ⟨_, rfl, rfl, HB.out⟩
set_option maxHeartbeats 4000000 in
theorem impl_opLe (w0 : World) (x y : V) (Ka Ha : Int) (sa : ByteArray) (A3a A4a A5a : Option Addr) (n3a c3a n4a c4a n5a c5a : Nat) (Kb Hb : Int) (sb : ByteArray) (A3b A4b A5b : Option Addr) (n3b c3b n4b c4b n5b c5b : Nat) (Tx : ToGo w0 x [.int .i64 Ka, .int .i64 Ha, .string sa, .slice A3a n3a c3a, .slice A4a n4a c4a, .slice A5a n5a c5a]) (Ty : ToGo w0 y [.int .i64 Kb, .int .i64 Hb, .string sb, .slice A3b n3b c3b, .slice A4b n4b c4b, .slice A5b n5b c5b]) (z : Int) (t : Bool) (ht : (decide (z ≤ 0)) = t)
    (HC : ∀ g h n m w, G n w x g → G m w y h → Calls Tryz.prog 49 #[g, h] w (Gz z w)) (w : World) (hb : Below w0.heap.size w0 w) :
    Calls Tryz.prog 37 #[.agg #[.int .i64 Ka, .int .i64 Ha, .string sa, .slice A3a n3a c3a, .slice A4a n4a c4a, .slice A5a n5a c5a], .agg #[.int .i64 Kb, .int .i64 Hb, .string sb, .slice A3b n3b c3b, .slice A4b n4b c4b, .slice A5b n5b c5b]] w fun e w' => e = .returned (.agg #[.int .i64 (kb t), .int .i64 0, .string ⟨#[]⟩, .slice none 0 0, .slice none 0 0, .slice none 0 0, .int .i64 0]) ∧ Below w.heap.size w w' := by
  have HX := Lib.hid Tx
  have HY := Lib.hid Ty
  have HCC := Lib.hid (fun g h n m w hg hh => zz_opLe g h z t ht w (HC g h n m w hg hh))
  have HB := Lib.hid hb
  have HD := Lib.hid (fun w => result_bool t w)
  simp only [rv, r0] at HD
  clear Tx Ty HC hb ht
  go_enter Tryz.func37, Tryz.ntmps37
  go_wp2_with fail
  have h3 := three_boxes w #[.int .i64 Ka, .int .i64 Ha, .string sa, .slice A3a n3a c3a, .slice A4a n4a c4a, .slice A5a n5a c5a] #[.int .i64 Kb, .int .i64 Hb, .string sb, .slice A3b n3b c3b, .slice A4b n4b c4b, .slice A5b n5b c5b] #[.int .i64 0, .int .i64 0, .string ⟨#[]⟩, .slice none 0 0, .slice none 0 0, .slice none 0 0, .int .i64 0] 26 26 30
  obtain ⟨W0, hw0⟩ : ∃ W0, W0 = (((w.alloc (.cells #[.int .i64 Ka, .int .i64 Ha, .string sa, .slice A3a n3a c3a, .slice A4a n4a c4a, .slice A5a n5a c5a] 26)).alloc (.cells #[.int .i64 Kb, .int .i64 Hb, .string sb, .slice A3b n3b c3b, .slice A4b n4b c4b, .slice A5b n5b c5b] 26)).alloc (.cells #[.int .i64 0, .int .i64 0, .string ⟨#[]⟩, .slice none 0 0, .slice none 0 0, .slice none 0 0, .int .i64 0] 30)) := ⟨_, rfl⟩
  rw [← hw0] at h3 ⊢
  clear hw0
  have H0 := Lib.hid h3
  clear h3
  refine (HX.out W0 (HB.out.trans (H0.out.1.mono HB.out.size))).mono ?_
  rintro e w1 ⟨g, rfl, hG, hb⟩
  have hy := (hb.block _ (lt_of_heap H0.out.2.2)).trans H0.out.2.2
  have H1 := Lib.hid (And.intro (H0.out.1.trans (hb.mono H0.out.1.size)) (And.intro ((hb.block _ (lt_of_heap H0.out.2.1)).trans H0.out.2.1) hG))
  clear hb H0 hG
  have y := six_cells hy
  clear hy
  go_wp2_with fail
  refine (HY.out w1 (HB.out.trans (H1.out.1.mono HB.out.size))).mono ?_
  rintro e w2 ⟨h, rfl, hG, hb⟩
  clear y
  have H2 := Lib.hid (And.intro (H1.out.1.trans (hb.mono H1.out.1.size)) (And.intro ((hb.block _ (lt_of_heap H1.out.2.1)).trans H1.out.2.1) (And.intro (H1.out.2.2.keepB hb) hG)))
  clear hb H1 hG
  go_wp2_with fail
  refine (HCC.out g h _ _ w2 H2.out.2.2.1 H2.out.2.2.2).mono ?_
  rintro e w3 ⟨v, rfl, rfl, hb⟩
  have H3 := Lib.hid (And.intro (H2.out.1.trans (hb.mono H2.out.1.size)) ((hb.block _ (lt_of_heap H2.out.2.1)).trans H2.out.2.1))
  clear hb H2
  go_wp2_with fail
  refine (HD.out w3).mono ?_
  rintro e w4 ⟨rfl, hb⟩
  have hx := (hb.block _ (lt_of_heap H3.out.2)).trans H3.out.2
  have H4 := Lib.hid (H3.out.1.trans (hb.mono H3.out.1.size))
  clear hb H3
  have y := sev_cells hx
  go_wp2_with fail
  have hz := sev_set hx (.int .i64 (kb t)) (.int .i64 0) (.string ⟨#[]⟩) (.slice none 0 0) (.slice none 0 0) (.slice none 0 0) (.int .i64 0)
  have hg := sev_grown w4 (w.heap.size + 1 + 1) (.int .i64 (kb t)) (.int .i64 0) (.string ⟨#[]⟩) (.slice none 0 0) (.slice none 0 0) (.slice none 0 0) (.int .i64 0)
  obtain ⟨W2, hW⟩ : ∃ W2, W2 = (((((((w4.setCell ⟨w.heap.size + 1 + 1, 0, none⟩ (.int .i64 (kb t))).setCell ⟨w.heap.size + 1 + 1, 1, none⟩ (.int .i64 0)).setCell ⟨w.heap.size + 1 + 1, 2, none⟩ (.string ⟨#[]⟩)).setCell ⟨w.heap.size + 1 + 1, 3, none⟩ (.slice none 0 0)).setCell ⟨w.heap.size + 1 + 1, 4, none⟩ (.slice none 0 0)).setCell ⟨w.heap.size + 1 + 1, 5, none⟩ (.slice none 0 0)).setCell ⟨w.heap.size + 1 + 1, 6, none⟩ (.int .i64 0)) := ⟨_, rfl⟩
  rw [← hW] at hz hg ⊢
  clear hW y hx
  obtain ⟨q0, q1, q2, q3, q4, q5, q6, _⟩ := sev_cells hz
  refine bodyPost_ret (v := .agg #[.int .i64 (kb t), .int .i64 0, .string ⟨#[]⟩, .slice none 0 0, .slice none 0 0, .slice none 0 0, .int .i64 0]) (by simp [results, Tryz.results37, go_sem, q0, q1, q2, q3, q4, q5, q6]) rfl ?_
  exact ⟨rfl, H4.out.grown hg H4.out.size (fun k hk => by cases hk; omega)⟩
theorem zz_opGt (l r : Value) (z : Int) (t : Bool) (ht : (decide (z > 0)) = t) (w : World) (HC : Calls Tryz.prog 49 #[l, r] w (Gz z w)) : Calls Tryz.prog 59 #[l, r] w (Gives (fun v => v = .iface 4 (.bool t)) w) := by
  have HC0 := Lib.hid HC
  clear HC
  have H1 : Hid (Calls Tryz.prog 86 #[.nilIface, l, r] w (Gives (fun v => v = .iface 4 (.bool t)) w)) := by
    refine Lib.hid ?_
    go_enter Tryz.func86, Tryz.ntmps86
    go_wp2_with fail
    refine HC0.out.mono ?_
    rintro e w1 ⟨rfl, hb⟩
    have HB := Lib.hid hb; clear hb
    go_wp2_with fail
    go_ret
    exact ⟨_, rfl, by first | rfl | (rw [← ht]; rfl) | (rw [← ht]; simp), HB.out⟩
  clear HC0 ht
  go_enter Tryz.func59, Tryz.ntmps59
  go_wp2_with fail
  refine H1.out.mono ?_
  rintro e w1 ⟨v, rfl, rfl, hb⟩
  have HB := Lib.hid hb; clear hb
  go_wp2_with fail
  go_ret
  exact ⟨_, rfl, rfl, HB.out⟩
set_option maxHeartbeats 4000000 in
theorem impl_opGt (w0 : World) (x y : V) (Ka Ha : Int) (sa : ByteArray) (A3a A4a A5a : Option Addr) (n3a c3a n4a c4a n5a c5a : Nat) (Kb Hb : Int) (sb : ByteArray) (A3b A4b A5b : Option Addr) (n3b c3b n4b c4b n5b c5b : Nat) (Tx : ToGo w0 x [.int .i64 Ka, .int .i64 Ha, .string sa, .slice A3a n3a c3a, .slice A4a n4a c4a, .slice A5a n5a c5a]) (Ty : ToGo w0 y [.int .i64 Kb, .int .i64 Hb, .string sb, .slice A3b n3b c3b, .slice A4b n4b c4b, .slice A5b n5b c5b]) (z : Int) (t : Bool) (ht : (decide (z > 0)) = t)
    (HC : ∀ g h n m w, G n w x g → G m w y h → Calls Tryz.prog 49 #[g, h] w (Gz z w)) (w : World) (hb : Below w0.heap.size w0 w) :
    Calls Tryz.prog 38 #[.agg #[.int .i64 Ka, .int .i64 Ha, .string sa, .slice A3a n3a c3a, .slice A4a n4a c4a, .slice A5a n5a c5a], .agg #[.int .i64 Kb, .int .i64 Hb, .string sb, .slice A3b n3b c3b, .slice A4b n4b c4b, .slice A5b n5b c5b]] w fun e w' => e = .returned (.agg #[.int .i64 (kb t), .int .i64 0, .string ⟨#[]⟩, .slice none 0 0, .slice none 0 0, .slice none 0 0, .int .i64 0]) ∧ Below w.heap.size w w' := by
  have HX := Lib.hid Tx
  have HY := Lib.hid Ty
  have HCC := Lib.hid (fun g h n m w hg hh => zz_opGt g h z t ht w (HC g h n m w hg hh))
  have HB := Lib.hid hb
  have HD := Lib.hid (fun w => result_bool t w)
  simp only [rv, r0] at HD
  clear Tx Ty HC hb ht
  go_enter Tryz.func38, Tryz.ntmps38
  go_wp2_with fail
  have h3 := three_boxes w #[.int .i64 Ka, .int .i64 Ha, .string sa, .slice A3a n3a c3a, .slice A4a n4a c4a, .slice A5a n5a c5a] #[.int .i64 Kb, .int .i64 Hb, .string sb, .slice A3b n3b c3b, .slice A4b n4b c4b, .slice A5b n5b c5b] #[.int .i64 0, .int .i64 0, .string ⟨#[]⟩, .slice none 0 0, .slice none 0 0, .slice none 0 0, .int .i64 0] 26 26 30
  obtain ⟨W0, hw0⟩ : ∃ W0, W0 = (((w.alloc (.cells #[.int .i64 Ka, .int .i64 Ha, .string sa, .slice A3a n3a c3a, .slice A4a n4a c4a, .slice A5a n5a c5a] 26)).alloc (.cells #[.int .i64 Kb, .int .i64 Hb, .string sb, .slice A3b n3b c3b, .slice A4b n4b c4b, .slice A5b n5b c5b] 26)).alloc (.cells #[.int .i64 0, .int .i64 0, .string ⟨#[]⟩, .slice none 0 0, .slice none 0 0, .slice none 0 0, .int .i64 0] 30)) := ⟨_, rfl⟩
  rw [← hw0] at h3 ⊢
  clear hw0
  have H0 := Lib.hid h3
  clear h3
  refine (HX.out W0 (HB.out.trans (H0.out.1.mono HB.out.size))).mono ?_
  rintro e w1 ⟨g, rfl, hG, hb⟩
  have hy := (hb.block _ (lt_of_heap H0.out.2.2)).trans H0.out.2.2
  have H1 := Lib.hid (And.intro (H0.out.1.trans (hb.mono H0.out.1.size)) (And.intro ((hb.block _ (lt_of_heap H0.out.2.1)).trans H0.out.2.1) hG))
  clear hb H0 hG
  have y := six_cells hy
  clear hy
  go_wp2_with fail
  refine (HY.out w1 (HB.out.trans (H1.out.1.mono HB.out.size))).mono ?_
  rintro e w2 ⟨h, rfl, hG, hb⟩
  clear y
  have H2 := Lib.hid (And.intro (H1.out.1.trans (hb.mono H1.out.1.size)) (And.intro ((hb.block _ (lt_of_heap H1.out.2.1)).trans H1.out.2.1) (And.intro (H1.out.2.2.keepB hb) hG)))
  clear hb H1 hG
  go_wp2_with fail
  refine (HCC.out g h _ _ w2 H2.out.2.2.1 H2.out.2.2.2).mono ?_
  rintro e w3 ⟨v, rfl, rfl, hb⟩
  have H3 := Lib.hid (And.intro (H2.out.1.trans (hb.mono H2.out.1.size)) ((hb.block _ (lt_of_heap H2.out.2.1)).trans H2.out.2.1))
  clear hb H2
  go_wp2_with fail
  refine (HD.out w3).mono ?_
  rintro e w4 ⟨rfl, hb⟩
  have hx := (hb.block _ (lt_of_heap H3.out.2)).trans H3.out.2
  have H4 := Lib.hid (H3.out.1.trans (hb.mono H3.out.1.size))
  clear hb H3
  have y := sev_cells hx
  go_wp2_with fail
  have hz := sev_set hx (.int .i64 (kb t)) (.int .i64 0) (.string ⟨#[]⟩) (.slice none 0 0) (.slice none 0 0) (.slice none 0 0) (.int .i64 0)
  have hg := sev_grown w4 (w.heap.size + 1 + 1) (.int .i64 (kb t)) (.int .i64 0) (.string ⟨#[]⟩) (.slice none 0 0) (.slice none 0 0) (.slice none 0 0) (.int .i64 0)
  obtain ⟨W2, hW⟩ : ∃ W2, W2 = (((((((w4.setCell ⟨w.heap.size + 1 + 1, 0, none⟩ (.int .i64 (kb t))).setCell ⟨w.heap.size + 1 + 1, 1, none⟩ (.int .i64 0)).setCell ⟨w.heap.size + 1 + 1, 2, none⟩ (.string ⟨#[]⟩)).setCell ⟨w.heap.size + 1 + 1, 3, none⟩ (.slice none 0 0)).setCell ⟨w.heap.size + 1 + 1, 4, none⟩ (.slice none 0 0)).setCell ⟨w.heap.size + 1 + 1, 5, none⟩ (.slice none 0 0)).setCell ⟨w.heap.size + 1 + 1, 6, none⟩ (.int .i64 0)) := ⟨_, rfl⟩
  rw [← hW] at hz hg ⊢
  clear hW y hx
  obtain ⟨q0, q1, q2, q3, q4, q5, q6, _⟩ := sev_cells hz
  refine bodyPost_ret (v := .agg #[.int .i64 (kb t), .int .i64 0, .string ⟨#[]⟩, .slice none 0 0, .slice none 0 0, .slice none 0 0, .int .i64 0]) (by simp [results, Tryz.results38, go_sem, q0, q1, q2, q3, q4, q5, q6]) rfl ?_
  exact ⟨rfl, H4.out.grown hg H4.out.size (fun k hk => by cases hk; omega)⟩
theorem zz_opGe (l r : Value) (z : Int) (t : Bool) (ht : (decide (z ≥ 0)) = t) (w : World) (HC : Calls Tryz.prog 49 #[l, r] w (Gz z w)) : Calls Tryz.prog 60 #[l, r] w (Gives (fun v => v = .iface 4 (.bool t)) w) := by
  have HC0 := Lib.hid HC
  clear HC
  have H1 : Hid (Calls Tryz.prog 87 #[.nilIface, l, r] w (Gives (fun v => v = .iface 4 (.bool t)) w)) := by
    refine Lib.hid ?_
    go_enter Tryz.func87, Tryz.ntmps87
    go_wp2_with fail
    refine HC0.out.mono ?_
    rintro e w1 ⟨rfl, hb⟩
    have HB := Lib.hid hb; clear hb
    go_wp2_with fail
    go_ret
    exact ⟨_, rfl, by first | rfl | (rw [← ht]; rfl) | (rw [← ht]; simp), HB.out⟩
  clear HC0 ht
  go_enter Tryz.func60, Tryz.ntmps60
  go_wp2_with fail
  refine H1.out.mono ?_
  rintro e w1 ⟨v, rfl, rfl, hb⟩
  have HB := Lib.hid hb; clear hb
  go_wp2_with fail
  go_ret
  exact ⟨_, rfl, rfl, HB.out⟩
set_option maxHeartbeats 4000000 in
theorem impl_opGe (w0 : World) (x y : V) (Ka Ha : Int) (sa : ByteArray) (A3a A4a A5a : Option Addr) (n3a c3a n4a c4a n5a c5a : Nat) (Kb Hb : Int) (sb : ByteArray) (A3b A4b A5b : Option Addr) (n3b c3b n4b c4b n5b c5b : Nat) (Tx : ToGo w0 x [.int .i64 Ka, .int .i64 Ha, .string sa, .slice A3a n3a c3a, .slice A4a n4a c4a, .slice A5a n5a c5a]) (Ty : ToGo w0 y [.int .i64 Kb, .int .i64 Hb, .string sb, .slice A3b n3b c3b, .slice A4b n4b c4b, .slice A5b n5b c5b]) (z : Int) (t : Bool) (ht : (decide (z ≥ 0)) = t)
    (HC : ∀ g h n m w, G n w x g → G m w y h → Calls Tryz.prog 49 #[g, h] w (Gz z w)) (w : World) (hb : Below w0.heap.size w0 w) :
    Calls Tryz.prog 39 #[.agg #[.int .i64 Ka, .int .i64 Ha, .string sa, .slice A3a n3a c3a, .slice A4a n4a c4a, .slice A5a n5a c5a], .agg #[.int .i64 Kb, .int .i64 Hb, .string sb, .slice A3b n3b c3b, .slice A4b n4b c4b, .slice A5b n5b c5b]] w fun e w' => e = .returned (.agg #[.int .i64 (kb t), .int .i64 0, .string ⟨#[]⟩, .slice none 0 0, .slice none 0 0, .slice none 0 0, .int .i64 0]) ∧ Below w.heap.size w w' := by
  have HX := Lib.hid Tx
  have HY := Lib.hid Ty
  have HCC := Lib.hid (fun g h n m w hg hh => zz_opGe g h z t ht w (HC g h n m w hg hh))
  have HB := Lib.hid hb
  have HD := Lib.hid (fun w => result_bool t w)
  simp only [rv, r0] at HD
  clear Tx Ty HC hb ht
  go_enter Tryz.func39, Tryz.ntmps39
  go_wp2_with fail
  have h3 := three_boxes w #[.int .i64 Ka, .int .i64 Ha, .string sa, .slice A3a n3a c3a, .slice A4a n4a c4a, .slice A5a n5a c5a] #[.int .i64 Kb, .int .i64 Hb, .string sb, .slice A3b n3b c3b, .slice A4b n4b c4b, .slice A5b n5b c5b] #[.int .i64 0, .int .i64 0, .string ⟨#[]⟩, .slice none 0 0, .slice none 0 0, .slice none 0 0, .int .i64 0] 26 26 30
  obtain ⟨W0, hw0⟩ : ∃ W0, W0 = (((w.alloc (.cells #[.int .i64 Ka, .int .i64 Ha, .string sa, .slice A3a n3a c3a, .slice A4a n4a c4a, .slice A5a n5a c5a] 26)).alloc (.cells #[.int .i64 Kb, .int .i64 Hb, .string sb, .slice A3b n3b c3b, .slice A4b n4b c4b, .slice A5b n5b c5b] 26)).alloc (.cells #[.int .i64 0, .int .i64 0, .string ⟨#[]⟩, .slice none 0 0, .slice none 0 0, .slice none 0 0, .int .i64 0] 30)) := ⟨_, rfl⟩
  rw [← hw0] at h3 ⊢
  clear hw0
  have H0 := Lib.hid h3
  clear h3
  refine (HX.out W0 (HB.out.trans (H0.out.1.mono HB.out.size))).mono ?_
  rintro e w1 ⟨g, rfl, hG, hb⟩
  have hy := (hb.block _ (lt_of_heap H0.out.2.2)).trans H0.out.2.2
  have H1 := Lib.hid (And.intro (H0.out.1.trans (hb.mono H0.out.1.size)) (And.intro ((hb.block _ (lt_of_heap H0.out.2.1)).trans H0.out.2.1) hG))
  clear hb H0 hG
  have y := six_cells hy
  clear hy
  go_wp2_with fail
  refine (HY.out w1 (HB.out.trans (H1.out.1.mono HB.out.size))).mono ?_
  rintro e w2 ⟨h, rfl, hG, hb⟩
  clear y
  have H2 := Lib.hid (And.intro (H1.out.1.trans (hb.mono H1.out.1.size)) (And.intro ((hb.block _ (lt_of_heap H1.out.2.1)).trans H1.out.2.1) (And.intro (H1.out.2.2.keepB hb) hG)))
  clear hb H1 hG
  go_wp2_with fail
  refine (HCC.out g h _ _ w2 H2.out.2.2.1 H2.out.2.2.2).mono ?_
  rintro e w3 ⟨v, rfl, rfl, hb⟩
  have H3 := Lib.hid (And.intro (H2.out.1.trans (hb.mono H2.out.1.size)) ((hb.block _ (lt_of_heap H2.out.2.1)).trans H2.out.2.1))
  clear hb H2
  go_wp2_with fail
  refine (HD.out w3).mono ?_
  rintro e w4 ⟨rfl, hb⟩
  have hx := (hb.block _ (lt_of_heap H3.out.2)).trans H3.out.2
  have H4 := Lib.hid (H3.out.1.trans (hb.mono H3.out.1.size))
  clear hb H3
  have y := sev_cells hx
  go_wp2_with fail
  have hz := sev_set hx (.int .i64 (kb t)) (.int .i64 0) (.string ⟨#[]⟩) (.slice none 0 0) (.slice none 0 0) (.slice none 0 0) (.int .i64 0)
  have hg := sev_grown w4 (w.heap.size + 1 + 1) (.int .i64 (kb t)) (.int .i64 0) (.string ⟨#[]⟩) (.slice none 0 0) (.slice none 0 0) (.slice none 0 0) (.int .i64 0)
  obtain ⟨W2, hW⟩ : ∃ W2, W2 = (((((((w4.setCell ⟨w.heap.size + 1 + 1, 0, none⟩ (.int .i64 (kb t))).setCell ⟨w.heap.size + 1 + 1, 1, none⟩ (.int .i64 0)).setCell ⟨w.heap.size + 1 + 1, 2, none⟩ (.string ⟨#[]⟩)).setCell ⟨w.heap.size + 1 + 1, 3, none⟩ (.slice none 0 0)).setCell ⟨w.heap.size + 1 + 1, 4, none⟩ (.slice none 0 0)).setCell ⟨w.heap.size + 1 + 1, 5, none⟩ (.slice none 0 0)).setCell ⟨w.heap.size + 1 + 1, 6, none⟩ (.int .i64 0)) := ⟨_, rfl⟩
  rw [← hW] at hz hg ⊢
  clear hW y hx
  obtain ⟨q0, q1, q2, q3, q4, q5, q6, _⟩ := sev_cells hz
  refine bodyPost_ret (v := .agg #[.int .i64 (kb t), .int .i64 0, .string ⟨#[]⟩, .slice none 0 0, .slice none 0 0, .slice none 0 0, .int .i64 0]) (by simp [results, Tryz.results39, go_sem, q0, q1, q2, q3, q4, q5, q6]) rfl ?_
  exact ⟨rfl, H4.out.grown hg H4.out.size (fun k hk => by cases hk; omega)⟩
set_option maxHeartbeats 4000000 in
set_option maxRecDepth 100000 in
theorem is_true (w : World) : Calls Tryz.prog 33 #[.agg #[.int .i64 2, .int .i64 0, .string ⟨#[]⟩, .slice none 0 0, .slice none 0 0, .slice none 0 0, .int .i64 0], .bool true] w fun e w' => e = .returned (.bool true) ∧ Below w.heap.size w w' := by
  have HB := Lib.hid spec_true
  have HG := Lib.hid (fun w => given_of 2 2 0 0 r0 r0 true (same_of 2 2 0 0 r0 r0 0 (cmp_k2 0 0 r0 r0)) w)
  simp only [vl, rv, r0] at HB HG
  go_enter Tryz.func33, Tryz.ntmps33
  go_wp2_with fail
  have HZ : Hid (SPL w [(w.heap.size, #[.int .i64 2, .int .i64 0, .string ⟨#[]⟩, .slice none 0 0, .slice none 0 0, .slice none 0 0, .int .i64 0], 30)] (w.alloc (.cells #[.int .i64 2, .int .i64 0, .string ⟨#[]⟩, .slice none 0 0, .slice none 0 0, .slice none 0 0, .int .i64 0] 30))) := Lib.hid (SPL.box w _ _)
  refine start_ (n := 5) (S := fun w' => w'.cell? ⟨w.heap.size, 0, none⟩ = some (.int .i64 2) ∧ w'.cell? ⟨w.heap.size, 1, none⟩ = some (.int .i64 0) ∧ w'.cell? ⟨w.heap.size, 2, none⟩ = some (.string ⟨#[]⟩) ∧ w'.cell? ⟨w.heap.size, 3, none⟩ = some (.slice none 0 0) ∧ w'.cell? ⟨w.heap.size, 4, none⟩ = some (.slice none 0 0) ∧ w'.cell? ⟨w.heap.size, 5, none⟩ = some (.slice none 0 0) ∧ w'.cell? ⟨w.heap.size, 6, none⟩ = some (.int .i64 0) ∧ SPL w [(w.heap.size, #[.int .i64 2, .int .i64 0, .string ⟨#[]⟩, .slice none 0 0, .slice none 0 0, .slice none 0 0, .int .i64 0], 30)] w') (ds := []) #[false, false, false, false, false] (by kernel_rfl) rfl rfl ⟨((sev_cells ((SPL.drew HZ.out).get 0 rfl)).1), ((sev_cells ((SPL.drew HZ.out).get 0 rfl)).2.1), ((sev_cells ((SPL.drew HZ.out).get 0 rfl)).2.2.1), ((sev_cells ((SPL.drew HZ.out).get 0 rfl)).2.2.2.1), ((sev_cells ((SPL.drew HZ.out).get 0 rfl)).2.2.2.2.1), ((sev_cells ((SPL.drew HZ.out).get 0 rfl)).2.2.2.2.2.1), ((sev_cells ((SPL.drew HZ.out).get 0 rfl)).2.2.2.2.2.2.1), (SPL.drew HZ.out)⟩ (fun hHeld => ?_)
  refine pure_ (i := 1) (N := some 6) (v := ?_) (a' := ?_) #[false, true, false, false, false] rfl rfl (by kernel_rfl) (fun _ _ _ h => h) (Or.inl ⟨by rfl, ?_⟩) ?_ ?_
  rotate_left
  · intro w'
    go_simp
    with_reducible rfl
  rotate_left
  · simp only [Act.put, List.setIfInBounds_toArray, List.set_cons_zero, List.set_cons_succ, i64_w, i32_w]
    rfl
  refine take_ (i := 0) (N := some 5) (v := ?_) (a' := ?_) #[true, true, false, false, false] rfl rfl (by kernel_rfl) (fun _ _ _ h => h) (Or.inl ⟨by rfl, ?_⟩) hHeld ?_ ?_
  rotate_left
  · rintro w' ⟨s0, s1, s2, s3, s4, s5, s6, s7⟩
    go_simp
    with_reducible rfl
  rotate_left
  · simp only [Act.put, List.setIfInBounds_toArray, List.set_cons_zero, List.set_cons_succ, i64_w, i32_w]
    rfl
  refine one_ (i := 2) (N := some 7) #[true, true, true, false, false] rfl rfl (by kernel_rfl) (by decide) (fun K hK => ?_)
  refine goes_ Tryz.func48 (by kernel_rfl) rfl #[.bool true] (by rfl) rfl rfl (by simp only [List.map_toArray, List.map_cons, List.map_nil]; rfl) ?_
  with_reducible refine ((HB.out _)).mono ?_
  rintro e w3 ⟨rfl, hb⟩
  refine ⟨_, rfl, ?_⟩
  have hz1 := SPL.below (hHeld.2.2.2.2.2.2.2) hb
  refine hK.out _ _ ⟨((sev_cells (hz1.get 0 rfl)).1), ((sev_cells (hz1.get 0 rfl)).2.1), ((sev_cells (hz1.get 0 rfl)).2.2.1), ((sev_cells (hz1.get 0 rfl)).2.2.2.1), ((sev_cells (hz1.get 0 rfl)).2.2.2.2.1), ((sev_cells (hz1.get 0 rfl)).2.2.2.2.2.1), ((sev_cells (hz1.get 0 rfl)).2.2.2.2.2.2.1), hz1⟩ (fun hHeld => ?_)
  clear hK K
  refine norm_ (a' := ?_) ?_ ?_
  rotate_left
  · show Act.put _ (some 7) _ = _
    simp only [Act.put, List.setIfInBounds_toArray, List.set_cons_zero, List.set_cons_succ, i64_w, i32_w]
    rfl
  refine one_ (i := 3) (N := some 8) #[true, true, true, true, false] rfl rfl (by kernel_rfl) (by decide) (fun K hK => ?_)
  refine goes_ Tryz.func18 (by kernel_rfl) rfl #[.agg #[.int .i64 2, .int .i64 0, .string ⟨#[]⟩, .slice none 0 0, .slice none 0 0, .slice none 0 0, .int .i64 0], .agg #[.int .i64 2, .int .i64 0, .string ⟨#[]⟩, .slice none 0 0, .slice none 0 0, .slice none 0 0]] (by rfl) rfl rfl (by simp only [List.map_toArray, List.map_cons, List.map_nil]; rfl) ?_
  with_reducible refine ((HG.out _)).mono ?_
  rintro e w4 ⟨rfl, hb⟩
  refine ⟨_, rfl, ?_⟩
  have hz2 := SPL.below (hHeld.2.2.2.2.2.2.2) hb
  refine hK.out _ _ ⟨((sev_cells (hz2.get 0 rfl)).1), ((sev_cells (hz2.get 0 rfl)).2.1), ((sev_cells (hz2.get 0 rfl)).2.2.1), ((sev_cells (hz2.get 0 rfl)).2.2.2.1), ((sev_cells (hz2.get 0 rfl)).2.2.2.2.1), ((sev_cells (hz2.get 0 rfl)).2.2.2.2.2.1), ((sev_cells (hz2.get 0 rfl)).2.2.2.2.2.2.1), hz2⟩ (fun hHeld => ?_)
  clear hK K
  refine norm_ (a' := ?_) ?_ ?_
  rotate_left
  · show Act.put _ (some 8) _ = _
    simp only [Act.put, List.setIfInBounds_toArray, List.set_cons_zero, List.set_cons_succ, i64_w, i32_w]
    rfl
  refine pure_ (i := 4) (N := some 4) (v := ?_) (a' := ?_) #[true, true, true, true, true] rfl rfl (by kernel_rfl) (fun _ _ _ h => h) (Or.inl ⟨by rfl, ?_⟩) ?_ ?_
  rotate_left
  · intro w'
    go_simp
    with_reducible rfl
  rotate_left
  · simp only [Act.put, List.setIfInBounds_toArray, List.set_cons_zero, List.set_cons_succ, i64_w, i32_w]
    rfl
  refine done_ (by kernel_rfl) ?_
  go_wp2_with fail
  go_ret
  exact ⟨rfl, hz2.1⟩
set_option maxHeartbeats 4000000 in
set_option maxRecDepth 100000 in
theorem is_false (w : World) : Calls Tryz.prog 33 #[.agg #[.int .i64 1, .int .i64 0, .string ⟨#[]⟩, .slice none 0 0, .slice none 0 0, .slice none 0 0, .int .i64 0], .bool false] w fun e w' => e = .returned (.bool true) ∧ Below w.heap.size w w' := by
  have HB := Lib.hid spec_false
  have HG := Lib.hid (fun w => given_of 1 1 0 0 r0 r0 true (same_of 1 1 0 0 r0 r0 0 (cmp_k1 0 0 r0 r0)) w)
  simp only [vl, rv, r0] at HB HG
  go_enter Tryz.func33, Tryz.ntmps33
  go_wp2_with fail
  have HZ : Hid (SPL w [(w.heap.size, #[.int .i64 1, .int .i64 0, .string ⟨#[]⟩, .slice none 0 0, .slice none 0 0, .slice none 0 0, .int .i64 0], 30)] (w.alloc (.cells #[.int .i64 1, .int .i64 0, .string ⟨#[]⟩, .slice none 0 0, .slice none 0 0, .slice none 0 0, .int .i64 0] 30))) := Lib.hid (SPL.box w _ _)
  refine start_ (n := 5) (S := fun w' => w'.cell? ⟨w.heap.size, 0, none⟩ = some (.int .i64 1) ∧ w'.cell? ⟨w.heap.size, 1, none⟩ = some (.int .i64 0) ∧ w'.cell? ⟨w.heap.size, 2, none⟩ = some (.string ⟨#[]⟩) ∧ w'.cell? ⟨w.heap.size, 3, none⟩ = some (.slice none 0 0) ∧ w'.cell? ⟨w.heap.size, 4, none⟩ = some (.slice none 0 0) ∧ w'.cell? ⟨w.heap.size, 5, none⟩ = some (.slice none 0 0) ∧ w'.cell? ⟨w.heap.size, 6, none⟩ = some (.int .i64 0) ∧ SPL w [(w.heap.size, #[.int .i64 1, .int .i64 0, .string ⟨#[]⟩, .slice none 0 0, .slice none 0 0, .slice none 0 0, .int .i64 0], 30)] w') (ds := []) #[false, false, false, false, false] (by kernel_rfl) rfl rfl ⟨((sev_cells ((SPL.drew HZ.out).get 0 rfl)).1), ((sev_cells ((SPL.drew HZ.out).get 0 rfl)).2.1), ((sev_cells ((SPL.drew HZ.out).get 0 rfl)).2.2.1), ((sev_cells ((SPL.drew HZ.out).get 0 rfl)).2.2.2.1), ((sev_cells ((SPL.drew HZ.out).get 0 rfl)).2.2.2.2.1), ((sev_cells ((SPL.drew HZ.out).get 0 rfl)).2.2.2.2.2.1), ((sev_cells ((SPL.drew HZ.out).get 0 rfl)).2.2.2.2.2.2.1), (SPL.drew HZ.out)⟩ (fun hHeld => ?_)
  refine pure_ (i := 1) (N := some 6) (v := ?_) (a' := ?_) #[false, true, false, false, false] rfl rfl (by kernel_rfl) (fun _ _ _ h => h) (Or.inl ⟨by rfl, ?_⟩) ?_ ?_
  rotate_left
  · intro w'
    go_simp
    with_reducible rfl
  rotate_left
  · simp only [Act.put, List.setIfInBounds_toArray, List.set_cons_zero, List.set_cons_succ, i64_w, i32_w]
    rfl
  refine take_ (i := 0) (N := some 5) (v := ?_) (a' := ?_) #[true, true, false, false, false] rfl rfl (by kernel_rfl) (fun _ _ _ h => h) (Or.inl ⟨by rfl, ?_⟩) hHeld ?_ ?_
  rotate_left
  · rintro w' ⟨s0, s1, s2, s3, s4, s5, s6, s7⟩
    go_simp
    with_reducible rfl
  rotate_left
  · simp only [Act.put, List.setIfInBounds_toArray, List.set_cons_zero, List.set_cons_succ, i64_w, i32_w]
    rfl
  refine one_ (i := 2) (N := some 7) #[true, true, true, false, false] rfl rfl (by kernel_rfl) (by decide) (fun K hK => ?_)
  refine goes_ Tryz.func48 (by kernel_rfl) rfl #[.bool false] (by rfl) rfl rfl (by simp only [List.map_toArray, List.map_cons, List.map_nil]; rfl) ?_
  with_reducible refine ((HB.out _)).mono ?_
  rintro e w3 ⟨rfl, hb⟩
  refine ⟨_, rfl, ?_⟩
  have hz1 := SPL.below (hHeld.2.2.2.2.2.2.2) hb
  refine hK.out _ _ ⟨((sev_cells (hz1.get 0 rfl)).1), ((sev_cells (hz1.get 0 rfl)).2.1), ((sev_cells (hz1.get 0 rfl)).2.2.1), ((sev_cells (hz1.get 0 rfl)).2.2.2.1), ((sev_cells (hz1.get 0 rfl)).2.2.2.2.1), ((sev_cells (hz1.get 0 rfl)).2.2.2.2.2.1), ((sev_cells (hz1.get 0 rfl)).2.2.2.2.2.2.1), hz1⟩ (fun hHeld => ?_)
  clear hK K
  refine norm_ (a' := ?_) ?_ ?_
  rotate_left
  · show Act.put _ (some 7) _ = _
    simp only [Act.put, List.setIfInBounds_toArray, List.set_cons_zero, List.set_cons_succ, i64_w, i32_w]
    rfl
  refine one_ (i := 3) (N := some 8) #[true, true, true, true, false] rfl rfl (by kernel_rfl) (by decide) (fun K hK => ?_)
  refine goes_ Tryz.func18 (by kernel_rfl) rfl #[.agg #[.int .i64 1, .int .i64 0, .string ⟨#[]⟩, .slice none 0 0, .slice none 0 0, .slice none 0 0, .int .i64 0], .agg #[.int .i64 1, .int .i64 0, .string ⟨#[]⟩, .slice none 0 0, .slice none 0 0, .slice none 0 0]] (by rfl) rfl rfl (by simp only [List.map_toArray, List.map_cons, List.map_nil]; rfl) ?_
  with_reducible refine ((HG.out _)).mono ?_
  rintro e w4 ⟨rfl, hb⟩
  refine ⟨_, rfl, ?_⟩
  have hz2 := SPL.below (hHeld.2.2.2.2.2.2.2) hb
  refine hK.out _ _ ⟨((sev_cells (hz2.get 0 rfl)).1), ((sev_cells (hz2.get 0 rfl)).2.1), ((sev_cells (hz2.get 0 rfl)).2.2.1), ((sev_cells (hz2.get 0 rfl)).2.2.2.1), ((sev_cells (hz2.get 0 rfl)).2.2.2.2.1), ((sev_cells (hz2.get 0 rfl)).2.2.2.2.2.1), ((sev_cells (hz2.get 0 rfl)).2.2.2.2.2.2.1), hz2⟩ (fun hHeld => ?_)
  clear hK K
  refine norm_ (a' := ?_) ?_ ?_
  rotate_left
  · show Act.put _ (some 8) _ = _
    simp only [Act.put, List.setIfInBounds_toArray, List.set_cons_zero, List.set_cons_succ, i64_w, i32_w]
    rfl
  refine pure_ (i := 4) (N := some 4) (v := ?_) (a' := ?_) #[true, true, true, true, true] rfl rfl (by kernel_rfl) (fun _ _ _ h => h) (Or.inl ⟨by rfl, ?_⟩) ?_ ?_
  rotate_left
  · intro w'
    go_simp
    with_reducible rfl
  rotate_left
  · simp only [Act.put, List.setIfInBounds_toArray, List.set_cons_zero, List.set_cons_succ, i64_w, i32_w]
    rfl
  refine done_ (by kernel_rfl) ?_
  go_wp2_with fail
  go_ret
  exact ⟨rfl, hz2.1⟩
theorem is_any (t : Bool) (w : World) : Calls Tryz.prog 33 #[.agg #[.int .i64 (kb t), .int .i64 0, .string ⟨#[]⟩, .slice none 0 0, .slice none 0 0, .slice none 0 0, .int .i64 0], .bool t] w fun e w' => e = .returned (.bool true) ∧ Below w.heap.size w w' := by
  cases t with
  | true => exact is_true w
  | false => exact is_false w
end Go.Proofs.YtdcgjfiknknjfaaGreatDoor.NumA
