/-
Opposites of numbers: package gojq's, impl.Negate; spec.Num.
-/
import Derived.Test.YtdcgjfiknknjfaaGreatDoorNumC
namespace Go.Proofs.YtdcgjfiknknjfaaGreatDoor.NumA
open Go.RowKit Go.Lib Go.Proofs.YtdcgjfiknknjfaaGreatDoor.ValA Go.Proofs.YtdcgjfiknknjfaaGreatDoor.FloH
theorem negate_int (n : Int) (n1 : -1000000000000000000 ≤ n) (n2 : n ≤ 1000000000000000000) (w : World) :
    Calls Tryz.prog 110 #[.int .i64 n] w fun e w' => e = .returned (.iface 3 (.int .i64 (-n))) ∧ w = w' := by
  have e1 : (n == -9223372036854775808) = false := by rw [beq_eq_false_iff_ne]; omega
  have hw : wrap64 (-n) = -n := by unfold wrap64; omega
  have HW := Lib.hid hw
  clear hw n1 n2
  go_enter Tryz.func110, Tryz.ntmps110
  go_wp2_with fail
  go_ret
  exact ⟨congrArg (fun x => Ending.returned (.iface 3 (.int .i64 x))) HW.out, rfl⟩
theorem opneg_num (v : Value) (h : Int) (hv : GNum v h) (h0 : v = .iface 61 (.float .f64 (fw h)) → h ≠ 0) (w : World) :
    Calls Tryz.prog 66 #[v] w (Gives (fun v => GNum v (-h)) w) := by
  rcases hv with ⟨n, rfl, rfl, n1, n2⟩ | ⟨rfl, h1, h2⟩
  · have HN := Lib.hid (fun w => negate_int n n1 n2 w)
    have HF := Lib.hid (show GNum (.iface 3 (.int .i64 (-n))) (-(2 * n)) from .inl ⟨-n, by omega, rfl, by omega, by omega⟩)
    have i1 := fun w => is33 (.int .i64 n) w
    clear n1 n2 h0
    go_enter Tryz.func66, Tryz.ntmps66
    go_wp2_with fail
    refine (HN.out _).mono ?_
    rintro e w1 ⟨rfl, rfl⟩
    go_wp2_with fail
    go_ret
    exact ⟨_, rfl, HF.out, Below.refl _ _⟩
  · have hn := h0 rfl
    have HF := Lib.hid (show GNum (.iface 61 (.float .f64 (fw (-h)))) (-h) from .inr ⟨rfl, by omega, by omega⟩)
    have f1 := fun w => no63 (.float .f64 (fw h)) w
    have f2 := fun w => is66 (.float .f64 (fw h)) w
    have hq : ∀ w, (Op.unary .neg (.float .f64 (fw h))).run Tryz.prog w = .ok (.float .f64 (fw (-h))) w := fun w => by
      show Result.ok (Value.float .f64 (Op.negFloat .f64 (fw h))) w = _
      rw [neg_fw h hn (he_small h h1 h2)]
    clear hn h0 h1 h2
    go_enter Tryz.func66, Tryz.ntmps66
    go_wp2_with fail
    go_ret
    exact ⟨_, rfl, HF.out, Below.refl _ _⟩
theorem zzneg_num (v : Value) (h : Int) (hv : GNum v h) (h0 : v = .iface 61 (.float .f64 (fw h)) → h ≠ 0) (w : World) :
    Calls Tryz.prog 46 #[v] w (Gives (fun v => GNum v (-h)) w) := by
  have HB := Lib.hid (fun w => opneg_num v h hv h0 w)
  clear hv h0
  go_enter Tryz.func46, Tryz.ntmps46
  go_wp2_with fail
  refine (HB.out _).mono ?_
  rintro e w1 ⟨v, rfl, hv⟩
  have HV := Lib.hid hv; clear hv
  go_wp2_with fail
  go_ret
  exact ⟨_, rfl, HV.out⟩
theorem two_boxes (w : World) (ca cc : Array Value) (ta tc : TypeId) : Below w.heap.size w ((w.alloc (.cells ca ta)).alloc (.cells cc tc)) ∧ ((w.alloc (.cells ca ta)).alloc (.cells cc tc)).heap[w.heap.size + 1]? = some (.cells cc tc (0, 0)) := by
  refine ⟨((Below.refl _ w).alloc (Nat.le_refl _) _).alloc (by simp) _, ?_⟩
  have := heap_alloc_new (w.alloc (.cells ca ta)) (.cells cc tc)
  simpa using this
set_option maxHeartbeats 1000000 in
theorem impl_neg (h : Int) (r : Rest) (h1 : -9007199254740992 ≤ h) (h2 : h ≤ 9007199254740992) (w : World) :
    Calls Tryz.prog 21 #[vl 3 h r] w fun e w' => e = .returned (rv 3 (-h) 0 r0) ∧ Below w.heap.size w w' := by
  have HA := Lib.hid (fun w => toGo_num h r w (by omega) (by omega))
  have HC := Lib.hid (fun w => zzneg_num (gv h) h (gv_num h (by omega) (by omega)) (fun e => by
    unfold gv at e
    by_cases c : h % 2 = 0
    · rw [if_pos c] at e; simp at e
    · omega) w)
  have HD := Lib.hid (fun v hv w => result_num v (-h) hv w)
  obtain ⟨a, ha⟩ : ∃ a, a = gv h := ⟨_, rfl⟩
  rw [← ha] at HA HC
  clear h1 h2 ha
  obtain ⟨s, q, l, c, q1, l1, c1, q2, l2, c2⟩ := r
  simp only [vl, rv, r0] at HA HD ⊢
  go_enter Tryz.func21, Tryz.ntmps21
  go_wp2_with fail
  have h3 := two_boxes w #[.int .i64 3, .int .i64 h, .string s, .slice q l c, .slice q1 l1 c1, .slice q2 l2 c2] #[.int .i64 0, .int .i64 0, .string ⟨#[]⟩, .slice none 0 0, .slice none 0 0, .slice none 0 0, .int .i64 0] 26 30
  obtain ⟨w0, hw0⟩ : ∃ w0, w0 = ((w.alloc (.cells #[.int .i64 3, .int .i64 h, .string s, .slice q l c, .slice q1 l1 c1, .slice q2 l2 c2] 26)).alloc (.cells #[.int .i64 0, .int .i64 0, .string ⟨#[]⟩, .slice none 0 0, .slice none 0 0, .slice none 0 0, .int .i64 0] 30)) := ⟨_, rfl⟩
  rw [← hw0] at h3 ⊢
  clear hw0
  have H1 := Lib.hid h3
  clear h3
  refine (HA.out w0).mono ?_
  rintro e w2 ⟨rfl, hb⟩
  have H2 := Lib.hid (And.intro (H1.out.1.trans (hb.mono H1.out.1.size)) ((hb.block _ (lt_of_heap H1.out.2)).trans H1.out.2))
  clear hb H1
  go_wp2_with fail
  refine (HC.out w2).mono ?_
  rintro e w3 ⟨v, rfl, hv, hb⟩
  have HV := Lib.hid hv
  have H3 := Lib.hid (And.intro (H2.out.1.trans (hb.mono H2.out.1.size)) ((hb.block _ (lt_of_heap H2.out.2)).trans H2.out.2))
  clear hb H2 hv
  go_wp2_with fail
  refine (HD.out v HV.out w3).mono ?_
  rintro e w4 ⟨rfl, hb⟩
  have hx := (hb.block _ (lt_of_heap H3.out.2)).trans H3.out.2
  have H4 := Lib.hid (H3.out.1.trans (hb.mono H3.out.1.size))
  clear hb H3
  have y := sev_cells hx
  go_wp2_with fail
  have hz := sev_set hx (.int .i64 3) (.int .i64 (-h)) (.string ⟨#[]⟩) (.slice none 0 0) (.slice none 0 0) (.slice none 0 0) (.int .i64 0)
  have hg := sev_grown w4 (w.heap.size + 1) (.int .i64 3) (.int .i64 (-h)) (.string ⟨#[]⟩) (.slice none 0 0) (.slice none 0 0) (.slice none 0 0) (.int .i64 0)
  obtain ⟨W2, hW⟩ : ∃ W2, W2 = (((((((w4.setCell ⟨w.heap.size + 1, 0, none⟩ (.int .i64 3)).setCell ⟨w.heap.size + 1, 1, none⟩ (.int .i64 (-h))).setCell ⟨w.heap.size + 1, 2, none⟩ (.string ⟨#[]⟩)).setCell ⟨w.heap.size + 1, 3, none⟩ (.slice none 0 0)).setCell ⟨w.heap.size + 1, 4, none⟩ (.slice none 0 0)).setCell ⟨w.heap.size + 1, 5, none⟩ (.slice none 0 0)).setCell ⟨w.heap.size + 1, 6, none⟩ (.int .i64 0)) := ⟨_, rfl⟩
  rw [← hW] at hz hg ⊢
  clear hW y hx
  obtain ⟨q0, q1, q2, q3, q4, q5, q6, _⟩ := sev_cells hz
  refine bodyPost_ret (v := .agg #[.int .i64 3, .int .i64 (-h), .string ⟨#[]⟩, .slice none 0 0, .slice none 0 0, .slice none 0 0, .int .i64 0]) (by simp [results, Tryz.results21, go_sem, q0, q1, q2, q3, q4, q5, q6]) rfl ?_
  exact ⟨rfl, H4.out.grown hg H4.out.size (fun k hk => by cases hk; omega)⟩
theorem spec_Num0 (w : World) : Calls Tryz.prog 20 #[.int .i64 0] w fun e w' => e = .returned (vl 3 0 r0) ∧ Below w.heap.size w w' := by
  simp only [vl, r0]
  go_enter Tryz.func20, Tryz.ntmps20
  go_wp2_with fail
  refine bodyPost_ret (v := .agg #[.int .i64 3, .int .i64 0, .string ⟨#[]⟩, .slice none 0 0, .slice none 0 0, .slice none 0 0]) (by simp [results, Tryz.results20, go_sem]) rfl ⟨rfl, ?_⟩
  exact (Below.refl _ w).alloc (Nat.le_refl _) _
end Go.Proofs.YtdcgjfiknknjfaaGreatDoor.NumA
