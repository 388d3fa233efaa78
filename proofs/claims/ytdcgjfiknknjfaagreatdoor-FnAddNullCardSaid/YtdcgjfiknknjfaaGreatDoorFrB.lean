/-
impl.fromGo at null, booleans, numbers, strings, arrays.
-/
import Derived.Test.YtdcgjfiknknjfaaGreatDoorFrA
import Derived.Test.YtdcgjfiknknjfaaGreatDoorMF
set_option linter.unusedSimpArgs false
set_option linter.unusedVariables false
namespace Go.Proofs.YtdcgjfiknknjfaaGreatDoor.NumA
open Go.RowKit Go.Lib Go.Proofs.YtdcgjfiknknjfaaGreatDoor.ValA Go.Proofs.YtdcgjfiknknjfaaGreatDoor.FloH Go.Proofs.YtdcgjfiknknjfaaGreatDoorW.PrintWords Go.Proofs.YtdcgjfiknknjfaaGreatDoorW.PrintLast Go.Proofs.YtdcgjfiknknjfaaGreatDoorW.PrintMore Go.Proofs.YtdcgjfiknknjfaaGreatDoor.PzzFits1
/-- A value of JSON has nothing beside what its kind says. -/
theorem wf_shape {x : V} (h : WF x) : (x.f0 ≠ 3 → x.f1 = 0) ∧ (x.f0 ≠ 4 → x.f2 = ⟨#[]⟩) ∧ (x.f0 ≠ 5 → x.f3 = []) ∧ (x.f0 ≠ 6 → x.f4 = [] ∧ x.f5 = []) := by
  obtain ⟨_, h1, _⟩ := h
  unfold c1B at h1
  simp only [Bool.and_eq_true, Bool.or_eq_true, decide_eq_true_eq, beq_iff_eq] at h1
  obtain ⟨⟨⟨⟨⟨_, a1⟩, a2⟩, a3⟩, a4⟩, a5⟩ := h1
  refine ⟨fun e => a1.resolve_left e, fun e => ?_, fun e => List.eq_nil_of_length_eq_zero (a3.resolve_left e), fun e => ?_⟩
  · have := a2.resolve_left e
    rw [List.isEmpty_iff, Lib.toList_data] at this
    have h := x.f2
    cases hx : x.f2 with
    | mk d =>
      rw [hx] at this
      simp at this
      rw [this]
  · have := a4.resolve_left e
    exact ⟨List.eq_nil_of_length_eq_zero this, List.eq_nil_of_length_eq_zero (by omega)⟩
/-- A flat value's cells are made. -/
theorem flat_M (w w' : World) (x : V) (h3 : x.f3 = []) (h4 : x.f4 = []) (h5 : x.f5 = []) : k26.M w' w.heap.size (fun k => w.heap.size ≤ k) x [.int .i64 x.f0, .int .i64 x.f1, .string x.f2, .slice none 0 0, .slice none 0 0, .slice none 0 0] :=
  k26_mkM w' w.heap.size _ x (by rw [h3]; exact Kd.R_nil _ _ _ _ _) (by rw [h4]; exact Kd.R_nil _ _ _ _ _) (by rw [h5]; exact Kd.R_nil _ _ _ _ _)
theorem fromGo_of_flat (x : V) (g : Value) (w : World) (h3 : x.f3 = []) (h4 : x.f4 = []) (h5 : x.f5 = []) (H : Calls Tryz.prog 63 #[g] w fun e w' => e = .returned (.tuple #[.agg #[.int .i64 x.f0, .int .i64 x.f1, .string x.f2, .slice none 0 0, .slice none 0 0, .slice none 0 0], .bool true]) ∧ Below w.heap.size w w') : FromGo x g w := by
  refine H.mono ?_
  rintro e w' ⟨rfl, hb⟩
  exact ⟨_, rfl, flat_M w w' x h3 h4 h5, hb⟩
theorem fromGo_nil (w : World) : Calls Tryz.prog 63 #[.nilIface] w fun e w' => e = .returned (.tuple #[vl 0 0 r0, .bool true]) ∧ Below w.heap.size w w' := by
  have fT := fun w => noNT w
  have fI := fun w => noNI w
  have fF := fun w => noNF w
  have fS := fun w => noNS w
  have fL := fun w => noNL w
  have fM := fun w => noNM w
  go_enter Tryz.func63, Tryz.ntmps63
  go_wp2_with fail
  refine bodyPost_ret (v := .tuple #[vl 0 0 r0, .bool true]) (by simp [results, Tryz.results63, go_sem, vl, r0]) rfl ⟨rfl, ?_⟩
  exact (Below.refl _ w).alloc (Nat.le_refl _) _
theorem fromGo_str (s : ByteArray) (w : World) : Calls Tryz.prog 63 #[.iface 9 (.string s)] w fun e w' => e = .returned (.tuple #[.agg #[.int .i64 4, .int .i64 0, .string s, .slice none 0 0, .slice none 0 0, .slice none 0 0], .bool true]) ∧ Below w.heap.size w w' := by
  have fT := fun w => qST (.string s) w
  have fI := fun w => qSI (.string s) w
  have fF := fun w => qSF (.string s) w
  have gS := fun w => qS (.string s) w
  go_enter Tryz.func63, Tryz.ntmps63
  go_wp2_with fail
  refine bodyPost_ret (v := .tuple #[.agg #[.int .i64 4, .int .i64 0, .string s, .slice none 0 0, .slice none 0 0, .slice none 0 0], .bool true]) (by simp [results, Tryz.results63, go_sem]) rfl ⟨rfl, ?_⟩
  exact (Below.refl _ w).alloc (Nat.le_refl _) _
/-- A flat value. -/
theorem fromGo_flat (x : V) (hw : WF x) (hk : x.f0 ≤ 4) (w : World) : FromGo x (fg x.f0 x.f1 x.f2) w := by
  obtain ⟨s1, s2, s3, s4⟩ := wf_shape hw
  obtain ⟨f0, f6, fj, f45⟩ := wf_facts hw
  refine fromGo_of_flat x _ w (s3 (by omega)) (s4 (by omega)).1 (s4 (by omega)).2 ?_
  have hc : x.f0 = 0 ∨ x.f0 = 1 ∨ x.f0 = 2 ∨ x.f0 = 3 ∨ x.f0 = 4 := by omega
  rcases hc with c | c | c | c | c
  · rw [s1 (by omega), s2 (by omega), c]; exact fromGo_nil w
  · rw [s1 (by omega), s2 (by omega), c]; exact fromGo_false w
  · rw [s1 (by omega), s2 (by omega), c]; exact fromGo_true w
  · rw [s2 (by omega), c]
    show Calls _ _ #[gv x.f1] w _
    unfold gv
    by_cases e : x.f1 % 2 = 0
    · rw [if_pos e]
      have h := fromGo_int (x.f1 / 2) w (by have := fj.1; omega) (by have := fj.1; omega)
      rw [show 2 * (x.f1 / 2) = x.f1 by omega] at h
      exact h
    · rw [if_neg e]
      have hb := fj.2.resolve_left e
      exact fromGo_flt x.f1 w (by omega) (by omega)
  · rw [s1 (by omega), c]; exact fromGo_str x.f2 w
/-- The tail of fromGo: what a part has given is handed on. -/
theorem fromGo_of_list (w : World) (x : V) (b n : Nat) (H : ∀ w1, Below w.heap.size w w1 → Calls Tryz.prog 89 #[.slice (some ⟨b, 0, none⟩) n n] w1 fun e w' => ∃ cs, e = .returned (.tuple #[.agg cs.toArray, .bool true]) ∧ k26.M w' w1.heap.size (fun k => w1.heap.size ≤ k) x cs ∧ Below w1.heap.size w1 w') : FromGo x (.iface 62 (.slice (some ⟨b, 0, none⟩) n n)) w := by
  have HH := Lib.hid (H (w.alloc (.cells #[.int .i64 0, .int .i64 0, .string ⟨#[]⟩, .slice none 0 0, .slice none 0 0, .slice none 0 0] 26)) ((Below.refl _ w).alloc (Nat.le_refl _) _))
  clear H
  have fT := fun w => qLT (.slice (some ⟨b, 0, none⟩) n n) w
  have fI := fun w => qLI (.slice (some ⟨b, 0, none⟩) n n) w
  have fF := fun w => qLF (.slice (some ⟨b, 0, none⟩) n n) w
  have fS := fun w => qLS (.slice (some ⟨b, 0, none⟩) n n) w
  have gL := fun w => qL (.slice (some ⟨b, 0, none⟩) n n) w
  unfold FromGo
  go_enter Tryz.func63, Tryz.ntmps63
  go_wp2_with fail
  refine HH.out.mono ?_
  rintro e w4 ⟨cs, rfl, hM, hb4⟩
  obtain ⟨v3, v4, v5, rfl, g3, g4, g5⟩ := k26_openM hM
  obtain ⟨B3, d3, rfl⟩ := Kd.R_slice g3
  obtain ⟨B4, d4, rfl⟩ := Kd.R_slice g4
  obtain ⟨B5, d5, rfl⟩ := Kd.R_slice g5
  have hx := (hb4.block _ (by rw [World.size_alloc]; omega)).trans (heap_alloc_new w (.cells #[.int .i64 0, .int .i64 0, .string ⟨#[]⟩, .slice none 0 0, .slice none 0 0, .slice none 0 0] 26))
  have H4 := Lib.hid (show k26.M w4 (w.heap.size + 1) (fun k => w.heap.size + 1 ≤ k) x _ ∧ Below w.heap.size w w4 from ⟨by rw [World.size_alloc] at hM; exact hM, ((Below.refl _ w).alloc (Nat.le_refl _) _).trans (hb4.mono (by rw [World.size_alloc]; omega))⟩)
  have y := six_cells hx
  clear hM hb4 g3 g4 g5
  go_wp2_with fail
  have hz := six_set hx (.int .i64 x.f0) (.int .i64 x.f1) (.string x.f2) (.slice B3 x.f3.length d3) (.slice B4 x.f4.length d4) (.slice B5 x.f5.length d5)
  have hg := six_grown w4 w.heap.size (.int .i64 x.f0) (.int .i64 x.f1) (.string x.f2) (.slice B3 x.f3.length d3) (.slice B4 x.f4.length d4) (.slice B5 x.f5.length d5)
  obtain ⟨W2, hW⟩ : ∃ W2, W2 = ((((((w4.setCell ⟨w.heap.size, 0, none⟩ (.int .i64 x.f0)).setCell ⟨w.heap.size, 1, none⟩ (.int .i64 x.f1)).setCell ⟨w.heap.size, 2, none⟩ (.string x.f2)).setCell ⟨w.heap.size, 3, none⟩ (.slice B3 x.f3.length d3)).setCell ⟨w.heap.size, 4, none⟩ (.slice B4 x.f4.length d4)).setCell ⟨w.heap.size, 5, none⟩ (.slice B5 x.f5.length d5)) := ⟨_, rfl⟩
  rw [← hW] at hz hg ⊢
  clear hW y hx
  obtain ⟨q0, q1, q2, q3, q4, q5, _⟩ := six_cells hz
  refine bodyPost_ret (v := .tuple #[.agg #[.int .i64 x.f0, .int .i64 x.f1, .string x.f2, .slice B3 x.f3.length d3, .slice B4 x.f4.length d4, .slice B5 x.f5.length d5], .bool true]) (by simp [results, Tryz.results63, go_sem, q0, q1, q2, q3, q4, q5]) rfl ?_
  have hM2 := Kd.M_grown H4.out.1 hg (fun k hk e => by cases e; have : w.heap.size + 1 ≤ w.heap.size := hk; omega)
  exact ⟨[.int .i64 x.f0, .int .i64 x.f1, .string x.f2, .slice B3 x.f3.length d3, .slice B4 x.f4.length d4, .slice B5 x.f5.length d5], rfl, k26.M_mono (fun k hk => by show w.heap.size ≤ k; have : w.heap.size + 1 ≤ k := hk; omega) (k26.M_lower (by omega) hM2), H4.out.2.grown hg H4.out.2.size (fun k hk => by cases hk; exact Nat.le_refl _)⟩
theorem fromGo_of_map (w : World) (x : V) (b : Nat) (H : ∀ w1, Below w.heap.size w w1 → Calls Tryz.prog 90 #[.map (some b)] w1 fun e w' => ∃ cs, e = .returned (.tuple #[.agg cs.toArray, .bool true]) ∧ k26.M w' w1.heap.size (fun k => w1.heap.size ≤ k) x cs ∧ Below w1.heap.size w1 w') : FromGo x (.iface 65 (.map (some b))) w := by
  have HH := Lib.hid (H (w.alloc (.cells #[.int .i64 0, .int .i64 0, .string ⟨#[]⟩, .slice none 0 0, .slice none 0 0, .slice none 0 0] 26)) ((Below.refl _ w).alloc (Nat.le_refl _) _))
  clear H
  have fT := fun w => qMT (.map (some b)) w
  have fI := fun w => qMI (.map (some b)) w
  have fF := fun w => qMF (.map (some b)) w
  have fS := fun w => qMS (.map (some b)) w
  have fL := fun w => qML (.map (some b)) w
  have gM := fun w => qM (.map (some b)) w
  unfold FromGo
  go_enter Tryz.func63, Tryz.ntmps63
  go_wp2_with fail
  refine HH.out.mono ?_
  rintro e w4 ⟨cs, rfl, hM, hb4⟩
  obtain ⟨v3, v4, v5, rfl, g3, g4, g5⟩ := k26_openM hM
  obtain ⟨B3, d3, rfl⟩ := Kd.R_slice g3
  obtain ⟨B4, d4, rfl⟩ := Kd.R_slice g4
  obtain ⟨B5, d5, rfl⟩ := Kd.R_slice g5
  have hx := (hb4.block _ (by rw [World.size_alloc]; omega)).trans (heap_alloc_new w (.cells #[.int .i64 0, .int .i64 0, .string ⟨#[]⟩, .slice none 0 0, .slice none 0 0, .slice none 0 0] 26))
  have H4 := Lib.hid (show k26.M w4 (w.heap.size + 1) (fun k => w.heap.size + 1 ≤ k) x _ ∧ Below w.heap.size w w4 from ⟨by rw [World.size_alloc] at hM; exact hM, ((Below.refl _ w).alloc (Nat.le_refl _) _).trans (hb4.mono (by rw [World.size_alloc]; omega))⟩)
  have y := six_cells hx
  clear hM hb4 g3 g4 g5
  go_wp2_with fail
  have hz := six_set hx (.int .i64 x.f0) (.int .i64 x.f1) (.string x.f2) (.slice B3 x.f3.length d3) (.slice B4 x.f4.length d4) (.slice B5 x.f5.length d5)
  have hg := six_grown w4 w.heap.size (.int .i64 x.f0) (.int .i64 x.f1) (.string x.f2) (.slice B3 x.f3.length d3) (.slice B4 x.f4.length d4) (.slice B5 x.f5.length d5)
  obtain ⟨W2, hW⟩ : ∃ W2, W2 = ((((((w4.setCell ⟨w.heap.size, 0, none⟩ (.int .i64 x.f0)).setCell ⟨w.heap.size, 1, none⟩ (.int .i64 x.f1)).setCell ⟨w.heap.size, 2, none⟩ (.string x.f2)).setCell ⟨w.heap.size, 3, none⟩ (.slice B3 x.f3.length d3)).setCell ⟨w.heap.size, 4, none⟩ (.slice B4 x.f4.length d4)).setCell ⟨w.heap.size, 5, none⟩ (.slice B5 x.f5.length d5)) := ⟨_, rfl⟩
  rw [← hW] at hz hg ⊢
  clear hW y hx
  obtain ⟨q0, q1, q2, q3, q4, q5, _⟩ := six_cells hz
  refine bodyPost_ret (v := .tuple #[.agg #[.int .i64 x.f0, .int .i64 x.f1, .string x.f2, .slice B3 x.f3.length d3, .slice B4 x.f4.length d4, .slice B5 x.f5.length d5], .bool true]) (by simp [results, Tryz.results63, go_sem, q0, q1, q2, q3, q4, q5]) rfl ?_
  have hM2 := Kd.M_grown H4.out.1 hg (fun k hk e => by cases e; have : w.heap.size + 1 ≤ w.heap.size := hk; omega)
  exact ⟨[.int .i64 x.f0, .int .i64 x.f1, .string x.f2, .slice B3 x.f3.length d3, .slice B4 x.f4.length d4, .slice B5 x.f5.length d5], rfl, k26.M_mono (fun k hk => by show w.heap.size ≤ k; have : w.heap.size + 1 ≤ k := hk; omega) (k26.M_lower (by omega) hM2), H4.out.2.grown hg H4.out.2.size (fun k hk => by cases hk; exact Nat.le_refl _)⟩
end Go.Proofs.YtdcgjfiknknjfaaGreatDoor.NumA
