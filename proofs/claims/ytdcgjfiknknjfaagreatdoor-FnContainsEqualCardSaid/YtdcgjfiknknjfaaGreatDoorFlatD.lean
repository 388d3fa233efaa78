/-
Contains and sameness of two flat values; fits of two values, container.
-/
import Derived.Test.YtdcgjfiknknjfaaGreatDoorFlatC
set_option linter.unusedSimpArgs false
set_option linter.unusedVariables false
namespace Go.Proofs.YtdcgjfiknknjfaaGreatDoor.NumA
open Go.RowKit Go.Lib Go.Proofs.YtdcgjfiknknjfaaGreatDoor.ValA Go.Proofs.YtdcgjfiknknjfaaGreatDoor.FloH Go.Proofs.YtdcgjfiknknjfaaGreatDoorW.PrintWords Go.Proofs.YtdcgjfiknknjfaaGreatDoorW.PrintLast Go.Proofs.YtdcgjfiknknjfaaGreatDoorW.PrintMore Go.Proofs.YtdcgjfiknknjfaaGreatDoor.PzzFits1
/-- What is known of two flat values of one kind. -/
def FlatCon (va vb : Value) : Prop := ∃ c d : Bool,
  (∀ w, Calls Tryz.prog 24 #[va, vb] w fun e w' => e = .returned (rv (kb c) 0 0 r0) ∧ Below w.heap.size w w') ∧
  (∀ w, Calls Tryz.prog 24 #[vb, va] w fun e w' => e = .returned (rv (kb d) 0 0 r0) ∧ Below w.heap.size w w') ∧
  ∀ w, Calls Tryz.prog 27 #[va, vb] w fun e w' => e = .returned (.bool (c && d)) ∧ Below w.heap.size w w'
theorem con_flat (k h h' : Int) (r r' : Rest) (k0 : 0 ≤ k) (k4 : k ≤ 4) (hj : JN h) (hj' : JN h') (hs : r.s.size ≤ 2147483647) (hs' : r'.s.size ≤ 2147483647) : FlatCon (vl k h r) (vl k h' r') := by
  have hk : k = 0 ∨ k = 1 ∨ k = 2 ∨ k = 3 ∨ k = 4 := by omega
  rcases hk with rfl | rfl | rfl | rfl | rfl
  · have H : ∀ (h h' : Int) (r r' : Rest) (w : World), Calls Tryz.prog 24 #[vl 0 h r, vl 0 h' r'] w fun e w' => e = .returned (rv (kb true) 0 0 r0) ∧ Below w.heap.size w w' := fun h h' r r' w =>
      impl_contains 0 0 h h' r r' .nilIface .nilIface _ _ _ (toGo_null h r) (toGo_null h' r') (zz_contains _ _ _ (fun w => bin_con_nn _ con_null w)) (result_bool true) w
    exact ⟨true, true, H _ _ _ _, H _ _ _ _, same_of 0 0 h h' r r' 0 (cmp_k0 h h' r r')⟩
  · have H : ∀ (h h' : Int) (r r' : Rest) (w : World), Calls Tryz.prog 24 #[vl 1 h r, vl 1 h' r'] w fun e w' => e = .returned (rv (kb true) 0 0 r0) ∧ Below w.heap.size w w' := fun h h' r r' w =>
      impl_contains 1 1 h h' r r' _ _ _ _ _ (toGo_no h r) (toGo_no h' r') (zz_contains _ _ _ (fun w => bin_con_tt _ _ _ (con_bool false) w)) (result_bool true) w
    exact ⟨true, true, H _ _ _ _, H _ _ _ _, same_of 1 1 h h' r r' 0 (cmp_k1 h h' r r')⟩
  · have H : ∀ (h h' : Int) (r r' : Rest) (w : World), Calls Tryz.prog 24 #[vl 2 h r, vl 2 h' r'] w fun e w' => e = .returned (rv (kb true) 0 0 r0) ∧ Below w.heap.size w w' := fun h h' r r' w =>
      impl_contains 2 2 h h' r r' _ _ _ _ _ (toGo_yes h r) (toGo_yes h' r') (zz_contains _ _ _ (fun w => bin_con_tt _ _ _ (con_bool true) w)) (result_bool true) w
    exact ⟨true, true, H _ _ _ _, H _ _ _ _, same_of 2 2 h h' r r' 0 (cmp_k2 h h' r r')⟩
  · have H : ∀ (h h' : Int) (r r' : Rest), JN h → JN h' → ∀ (w : World), Calls Tryz.prog 24 #[vl 3 h r, vl 3 h' r'] w fun e w' => e = .returned (rv (kb (decide (h = h'))) 0 0 r0) ∧ Below w.heap.size w w' := fun h h' r r' hj hj' w =>
      impl_contains 3 3 h h' r r' _ _ _ _ _ (toGo_jn h r hj) (toGo_jn h' r' hj') (zz_contains _ _ _ (fun w => contains_num h h' hj hj' w)) (result_bool _) w
    have e : decide (h = h') = (decide (h = h') && decide (h' = h)) := by
      by_cases c : h = h'
      · simp [c]
      · simp [c]
    refine ⟨decide (h = h'), decide (h' = h), H h h' r r' hj hj', H h' h r' r hj' hj, ?_⟩
    rw [← e]
    obtain ⟨⟨a1, a2⟩, _⟩ := hj
    obtain ⟨⟨b1, b2⟩, _⟩ := hj'
    exact fun w => same_num h h' r r' w (by omega) (by omega) (by omega) (by omega)
  · have H : ∀ (h h' : Int) (r r' : Rest), r.s.size ≤ 2147483647 → r'.s.size ≤ 2147483647 → ∀ (w : World), Calls Tryz.prog 24 #[vl 4 h r, vl 4 h' r'] w fun e w' => e = .returned (rv (kb (conB r.s r'.s)) 0 0 r0) ∧ Below w.heap.size w w' := fun h h' r r' hj hj' w =>
      impl_contains 4 4 h h' r r' _ _ _ _ _ (toGo_text h r) (toGo_text h' r') (zz_contains _ _ _ (fun w => bin_con_ss _ _ _ (con_text r.s r'.s hj hj') w)) (result_bool _) w
    refine ⟨conB r.s r'.s, conB r'.s r.s, H h h' r r' hs hs', H h' h r' r hs' hs, ?_⟩
    have e : (tx r.s r'.s == 0) = (conB r.s r'.s && conB r'.s r.s) := by
      rw [tx_zero, Bool.eq_iff_iff, decide_eq_true_eq, Bool.and_eq_true]
      obtain ⟨_, p1, p2⟩ := con_ev r.s r'.s hs hs'
      obtain ⟨_, q1, q2⟩ := con_ev r'.s r.s hs' hs
      constructor
      · intro c
        exact ⟨p2 c, q2 c.symm⟩
      · rintro ⟨c1, c2⟩
        exact (p1 c1).2 (by have := (p1 c1).1; have := (q1 c2).1; omega)
    rw [← e]
    exact same_of 4 4 h h' r r' _ (cmp_k4 h h' r r')
theorem container_any (k h : Int) (r : Rest) (w : World) : Calls Tryz.prog 23 #[vl k h r] w fun e w' => e = .returned (.bool (k == 5 || k == 6)) ∧ Below w.heap.size w w' := by
  obtain ⟨s, a, l, c, a1, l1, c1, a2, l2, c2⟩ := r
  simp only [vl]
  cases h5 : (k == 5) with
  | true =>
    go_enter Tryz.func23, Tryz.ntmps23
    go_wp2_with fail
    go_ret
    exact ⟨rfl, (Below.refl _ w).alloc (Nat.le_refl _) _⟩
  | false =>
    cases h6 : (k == 6) with
    | true =>
      go_enter Tryz.func23, Tryz.ntmps23
      go_wp2_with fail
      go_ret
      exact ⟨rfl, (Below.refl _ w).alloc (Nat.le_refl _) _⟩
    | false =>
      go_enter Tryz.func23, Tryz.ntmps23
      go_wp2_with fail
      go_ret
      exact ⟨rfl, (Below.refl _ w).alloc (Nat.le_refl _) _⟩
theorem twelve_cells {w : World} {g : Nat} {c0 c1 c2 c3 c4 c5 d0 d1 d2 d3 d4 d5 : Value} {t : TypeId} (h : w.heap[g]? = some (.cells #[c0, c1, c2, c3, c4, c5, d0, d1, d2, d3, d4, d5] t (0, 0))) :
    (w.cell? ⟨g, 0, none⟩ = some c0 ∧ w.cell? ⟨g, 1, none⟩ = some c1 ∧ w.cell? ⟨g, 2, none⟩ = some c2 ∧ w.cell? ⟨g, 3, none⟩ = some c3 ∧ w.cell? ⟨g, 4, none⟩ = some c4 ∧ w.cell? ⟨g, 5, none⟩ = some c5) ∧ w.cell? ⟨g, 6, none⟩ = some d0 ∧ w.cell? ⟨g, 7, none⟩ = some d1 ∧ w.cell? ⟨g, 8, none⟩ = some d2 ∧ w.cell? ⟨g, 9, none⟩ = some d3 ∧ w.cell? ⟨g, 10, none⟩ = some d4 ∧ w.cell? ⟨g, 11, none⟩ = some d5 := by
  simp [World.cell?, h]
set_option maxHeartbeats 4000000 in
theorem fits_two (w0 : World) (hE : Env w0) (xa : V) (hza : Sz xa) (Ka Ha : Int) (sa : ByteArray) (A3a A4a A5a : Option Addr) (n3a c3a n4a c4a n5a c5a : Nat) (hKa : k26.K w0 xa [.int .i64 Ka, .int .i64 Ha, .string sa, .slice A3a n3a c3a, .slice A4a n4a c4a, .slice A5a n5a c5a]) (xb : V) (hzb : Sz xb) (Kb Hb : Int) (sb : ByteArray) (A3b A4b A5b : Option Addr) (n3b c3b n4b c4b n5b c5b : Nat) (hKb : k26.K w0 xb [.int .i64 Kb, .int .i64 Hb, .string sb, .slice A3b n3b c3b, .slice A4b n4b c4b, .slice A5b n5b c5b]) (w : World) (hb : Below w0.heap.size w0 w) (g : Nat) (hg : w.heap[g]? = some (.cells #[.int .i64 Ka, .int .i64 Ha, .string sa, .slice A3a n3a c3a, .slice A4a n4a c4a, .slice A5a n5a c5a, .int .i64 Kb, .int .i64 Hb, .string sb, .slice A3b n3b c3b, .slice A4b n4b c4b, .slice A5b n5b c5b] 26 (0, 0))) :
    Calls Tryz.prog 22 #[.slice (some ⟨g, 0, none⟩) 2 2] w (Says (WF xa ∧ WF xb) w) := by
  have HFa := Lib.hid (fun w1 hb => fit_any w0 hE xa hza Ka Ha sa A3a A4a A5a n3a c3a n4a c4a n5a c5a hKa w1 hb)
  have HFb := Lib.hid (fun w1 hb => fit_any w0 hE xb hzb Kb Hb sb A3b A4b A5b n3b c3b n4b c4b n5b c5b hKb w1 hb)
  have HG := Lib.hid (And.intro hb hg)
  clear hE hza hKa hzb hKb hb hg
  go_enter Tryz.func22, Tryz.ntmps22
  go_wp2_with fail
  go_loopg [7] 2 (fun k i wr => ∃ j : Nat, i = .int .i64 j ∧ k + j = 2 ∧ Below w.heap.size w wr ∧ (1 ≤ j → WF xa) ∧ (2 ≤ j → WF xb))
  case atStart => exact ⟨0, rfl, rfl, Below.refl _ _, by omega, by omega⟩
  case round =>
    obtain ⟨j, rfl, hkj, hbr, h1, h2⟩ := hrel
    have hgr := (hbr.block g (lt_of_heap HG.out.2)).trans HG.out.2
    have HR := Lib.hid (And.intro hbr (And.intro h1 h2))
    clear hbr h1 h2
    have hj : j = 0 ∨ j = 1 ∨ j = 2 := by omega
    rcases hj with rfl | rfl | rfl
    · skip
      obtain ⟨y, z⟩ := twelve_cells hgr
      obtain ⟨y0, y1, y2, y3, y4, y5⟩ := y
      clear hgr
      go_wp2_with fail
      refine (HFa.out _ ?_).mono ?_
      · exact (HG.out.1.trans (HR.out.1.mono HG.out.1.size)).alloc (Nat.le_trans HG.out.1.size HR.out.1.size) _
      rintro e w2 ⟨r, rfl, hr, hb2⟩
      have HB2 := Lib.hid ((HR.out.1.alloc HR.out.1.size _).trans (hb2.mono (Nat.le_trans HR.out.1.size (by rw [World.size_alloc]; omega))))
      have HX := Lib.hid hr
      clear hb2 hr z y0 y1 y2 y3 y4 y5
      cases r with
      | false =>
        go_wp2_with fail
        go_ret
        exact ⟨false, rfl, fun e => (by cases e), HB2.out⟩
      | true =>
        go_wp2_with fail
        go_roundg (gk - 1)
        case measure => omega
        case rel => exact ⟨1, by go_num, by omega, HB2.out, fun _ => HX.out (by trivial), fun h => absurd h (by omega)⟩
    · skip
      obtain ⟨y, z⟩ := twelve_cells hgr
      obtain ⟨y0, y1, y2, y3, y4, y5⟩ := z
      clear hgr
      go_wp2_with fail
      refine (HFb.out _ ?_).mono ?_
      · exact (HG.out.1.trans (HR.out.1.mono HG.out.1.size)).alloc (Nat.le_trans HG.out.1.size HR.out.1.size) _
      rintro e w2 ⟨r, rfl, hr, hb2⟩
      have HB2 := Lib.hid ((HR.out.1.alloc HR.out.1.size _).trans (hb2.mono (Nat.le_trans HR.out.1.size (by rw [World.size_alloc]; omega))))
      have HX := Lib.hid hr
      clear hb2 hr y y0 y1 y2 y3 y4 y5
      cases r with
      | false =>
        go_wp2_with fail
        go_ret
        exact ⟨false, rfl, fun e => (by cases e), HB2.out⟩
      | true =>
        go_wp2_with fail
        go_roundg (gk - 1)
        case measure => omega
        case rel => exact ⟨2, by go_num, by omega, HB2.out, fun _ => HR.out.2.1 (by omega), fun _ => HX.out (by trivial)⟩
    · clear hgr
      go_wp2_with fail
      go_ret
      exact ⟨true, rfl, fun _ => ⟨HR.out.2.1 (by omega), HR.out.2.2 (by omega)⟩, HR.out.1⟩
end Go.Proofs.YtdcgjfiknknjfaaGreatDoor.NumA
