/-
FnSliceLength: how long a slice is.
-/
import Derived.Test.YtdaiodiafahkkaaGreatDoorML
set_option linter.unusedSimpArgs false
set_option linter.unusedVariables false
namespace Go.Proofs.YtdaiodiafahkkaaGreatDoor.ValA
open Go.RowKit Go.Lib Go.Proofs.YtdaiodiafahkkaaGreatDoorW.PrintWords Go.Proofs.YtdaiodiafahkkaaGreatDoorW.PrintLast Go.Proofs.YtdaiodiafahkkaaGreatDoorW.PrintMore Go.Proofs.YtdaiodiafahkkaaGreatDoor.PzzFits1 Go.Proofs.YtdaiodiafahkkaaGreatDoor.NumA Go.Proofs.YtdaiodiafahkkaaGreatDoor.TxtA
attribute [local go_sem] run_val
/-- The head of the loop over both ends. -/
def RE4 (w : World) (L0 : Nat × Array Value × TypeId) (E : Nat) (a b N : Int) (k : Nat) (i : Value) (wr : World) : Prop :=
  ∃ (j : Nat) (p q : Int), i = .int .i64 j ∧ k + j = 2 ∧ SPR w [L0, (E, #[.int .i64 p, .int .i64 q], 56)] [] wr ∧ p = (if 1 ≤ j then cl a N else a) ∧ q = (if 2 ≤ j then cl b N else b)
set_option maxRecDepth 100000 in
set_option maxHeartbeats 20000000 in
theorem fnSliceLength_4 (w0 : World) (hE : Env w0) (x : V) (hz : Sz x) (K H : Int) (s : ByteArray) (A3 A4 A5 : Option Addr) (n3 c3 n4 c4 n5 c5 : Nat) (hK : k26.K w0 x [.int .i64 K, .int .i64 H, .string s, .slice A3 n3 c3, .slice A4 n4 c4, .slice A5 n5 c5]) (m1 : Int) (zm1 : (Lit.int .i8 m1).wf = true) (m2 : Int) (zm2 : (Lit.int .i8 m2).wf = true) (hk : x.f0 = 4) :
    Calls Tryz.prog 10 #[.agg #[.int .i64 K, .int .i64 H, .string s, .slice A3 n3 c3, .slice A4 n4 c4, .slice A5 n5 c5], .int .i8 m1, .int .i8 m2] w0 fun e w' => e = .returned (.bool true) ∧ Below w0.heap.size w0 w' := by
  have HKX := Lib.hid hk
  clear hk
  obtain ⟨w, hw⟩ : ∃ w, w = w0 := ⟨_, rfl⟩
  obtain ⟨B3, e3, B4, e4, B5, e5, he, l3, g3, l4, g4, l5, g5⟩ := k26_open hK
  simp only [List.cons.injEq, Value.int.injEq, Value.string.injEq, Value.slice.injEq, true_and, and_true] at he
  obtain ⟨rfl, rfl, rfl, ⟨rfl, rfl, rfl⟩, ⟨rfl, rfl, rfl⟩, ⟨rfl, rfl, rfl⟩⟩ := he
  clear l3 g3 l4 g4 l5 g5
  have bm1 := i8_in zm1
  have bm2 := i8_in zm2
  clear zm1 zm2
  have HZ := Lib.hid hz
  have HF1 := Lib.hid (fun w1 hb => fits1_size w0 x x.f0 x.f1 x.f2 A3 A4 A5 x.f3.length c3 x.f4.length c4 x.f5.length c5 hK w1 hb)
  have HF := Lib.hid (fun w1 g (hg : g = w1.heap.size) hb => fits_at w0 hE hz hK w1 g hg hb)
  have HT := Lib.hid (fun h => toGo_any w0 _ x (Nat.lt_succ_self _) hz h _ hK)
  have HNU := Lib.hid (fun n w => number_any n w)
  have HKW := Lib.hid hK
  clear hE hz hK
  subst hw
  go_enter Tryz.func10, Tryz.ntmps10
  go_wp2_with fail
  obtain ⟨V, hV⟩ : ∃ V, V = w.heap.size := ⟨_, rfl⟩
  obtain ⟨W0, hW0⟩ : ∃ W0, W0 = w.alloc (.cells #[.int .i64 x.f0, .int .i64 x.f1, .string x.f2, .slice A3 x.f3.length c3, .slice A4 x.f4.length c4, .slice A5 x.f5.length c5] 26) := ⟨_, rfl⟩
  have hS0 : SPR w [(V, cv x A3 c3 A4 c4 A5 c5, 26)] [] W0 := by rw [hV, hW0]; exact (spr0 (Below.refl _ w)).more _ _
  rw [← hW0]
  try rw [← hV]
  have H0 := Lib.hid hS0
  clear hS0 hW0 hV
  have y := six_cells (H0.out.get 0 rfl)
  try go_wp2_with fail
  refine (HF1.out W0 H0.out.bel).mono ?_
  rintro e w1 ⟨r, rfl, hr, hb⟩
  have H1 := Lib.hid (H0.out.below hb)
  clear hb H0 y HF1
  cases r with
  | false =>
    go_wp2_with fail
    go_ret
    exact ⟨rfl, H1.out.bel⟩
  | true =>
  have SZ := Lib.hid (hr (by trivial))
  clear hr
  have y := six_cells (H1.out.get 0 rfl)
  go_wp2_with fail
  refine (HF.out w1 _ rfl H1.out.bel).mono ?_
  rintro e w2 ⟨r, rfl, hr, hb⟩
  have H2 := Lib.hid (((H1.out.more _ _).below hb).tk 1 0)
  clear hb H1 HF y
  have ya := six_cells (H2.out.get 0 rfl)
  cases r with
  | false =>
    go_wp2_with fail
    go_ret
    exact ⟨rfl, H2.out.bel⟩
  | true =>
  have HW := Lib.hid (hr (by trivial))
  clear hr
  have hk : x.f0 = 4 ∨ x.f0 = 5 := Or.inl HKX.out
  have q3 : (x.f0 != 5) = true := by rw [HKX.out]; rfl
  have q4 : (x.f0 != 4) = false := by rw [HKX.out]; rfl
  have HT := Lib.hid (HT.out (loose HW.out))
  have HWL := Lib.hid (loose HW.out)
  obtain ⟨gc, ob, hconv⟩ := runes_run x.f2 SZ.out
  obtain ⟨N, hN⟩ : ∃ N, N = lenV x := ⟨_, rfl⟩
  have hN0 : N = x.f3.length + runeCount x.f2 ∧ N ≤ 2147483647 := by
    have hs := wf_shape HWL.out
    have hn := wf_n3 HW.out
    have hr := runeCount_le x.f2
    have hsz := SZ.out
    have hkx := HKX.out
    rw [hN]
    unfold lenV
    have h3 : x.f3 = [] := hs.2.2.1 (by omega)
    rw [if_pos hkx, h3]
    simp
    omega
  have eN : wrap64 ((x.f3.length : Int) + (runeCount x.f2 : Int)) = (N : Int) := by unfold wrap64; omega
  obtain ⟨x1, hx1⟩ : ∃ x1, x1 = slV x (some m1) (some m2) := ⟨_, rfl⟩
  obtain ⟨x2, hx2⟩ : ∃ x2, x2 = aV (some (lenV x1 : Int)) := ⟨_, rfl⟩
  have HX1 : Hid (WL x1 ∧ Sz x1 ∧ (x1.f0 = 4 ∨ x1.f0 = 5) ∧ x1.f2.size ≤ 2147483647) := Lib.hid (by rw [hx1]; exact ⟨part_wl HWL.out _ _, part_sz HZ.out _ _, by unfold slV; rw [part_f0 hk]; exact hk, part_size _ _ _ SZ.out⟩)
  have HD : Hid (x2 = aV (some (max 0 (cl m2 N - cl m1 N)))) := Lib.hid (by rw [hx2, hx1, slice_lenV hk, hN])
  have HB0 : Hid ((0 ≤ cl m1 N ∧ cl m1 N ≤ N) ∧ (0 ≤ cl m2 N ∧ cl m2 N ≤ N) ∧ N ≤ 2147483647 ∧ (-128 ≤ m1 ∧ m1 ≤ 127) ∧ (-128 ≤ m2 ∧ m2 ≤ 127)) := Lib.hid ⟨@cl_in m1 N (by omega), @cl_in m2 N (by omega), hN0.2, bm1, bm2⟩
  have HSA : Hid (∀ L rs w1, SPR w L rs w1 → Calls Tryz.prog 33 #[.agg #[.int .i64 x.f0, .int .i64 x.f1, .string x.f2, .slice A3 x.f3.length c3, .slice A4 x.f4.length c4, .slice A5 x.f5.length c5], .agg #[.int .i64 3, .int .i64 (2 * m1), .string ⟨#[]⟩, .slice none 0 0, .slice none 0 0, .slice none 0 0], .agg #[.int .i64 3, .int .i64 (2 * m2), .string ⟨#[]⟩, .slice none 0 0, .slice none 0 0, .slice none 0 0]] w1 fun e w' => ∃ cs, e = .returned (.agg cs) ∧ SPR w L (rs ++ [(x1, cs)]) w') := Lib.hid (by
    intro L rs w1 h
    rw [hx1]
    exact slice_resV w HT.out HWL.out HZ.out hk SZ.out (some m1) (some m2) (tiny_some (by omega) (by omega)) (tiny_some (by omega) (by omega)) h h.bel)
  have HLN : Hid (∀ L rs w1, SPR w L rs w1 → ∀ {B3 B4 B5 : Option Addr} {d3 d4 d5 : Nat} (i : Nat), rs[i]? = some (x1, #[.int .i64 x1.f0, .int .i64 x1.f1, .string x1.f2, .slice B3 x1.f3.length d3, .slice B4 x1.f4.length d4, .slice B5 x1.f5.length d5, .int .i64 0]) → Calls Tryz.prog 35 #[.agg #[.int .i64 x1.f0, .int .i64 x1.f1, .string x1.f2, .slice B3 x1.f3.length d3, .slice B4 x1.f4.length d4, .slice B5 x1.f5.length d5]] w1 fun e w' => ∃ cs, e = .returned (.agg cs) ∧ SPR w L (rs ++ [(x2, cs)]) w') := Lib.hid (by
    intro L rs w1 h B3 B4 B5 d3 d4 d5 i hi
    rw [hx2]
    exact length_res w1 (h.toGo i hi HX1.out.1 HX1.out.2.1) HX1.out.1 HX1.out.2.2.1 HX1.out.2.2.2 h (Below.refl _ _))
  have HE : Hid (wrap64 m1 = m1 ∧ wrap64 m2 = m2 ∧ wrap64 (2 * m1) = 2 * m1 ∧ wrap64 (2 * m2) = 2 * m2) := Lib.hid ⟨by unfold wrap64; omega, by unfold wrap64; omega, by unfold wrap64; omega, by unfold wrap64; omega⟩
  have f1 := HE.out.1
  have f2 := HE.out.2.1
  clear hx1 hx2 bm1 bm2 hk hN hN0
  go_wp2_with fail
  obtain ⟨E, hE⟩ : ∃ E, E = w2.heap.size + 1 := ⟨_, rfl⟩
  obtain ⟨W3, hW3⟩ : ∃ W3, W3 = ((w2.alloc (ob w2)).alloc (.cells #[.int .i64 m1, .int .i64 m2] 56)).drew := ⟨_, rfl⟩
  have hS3 : SPR w [(V, cv x A3 c3 A4 c4 A5 c5, 26), (E, #[.int .i64 m1, .int .i64 m2], 56)] [] W3 := by
    rw [hW3, hE, show w2.heap.size + 1 = (w2.alloc (ob w2)).heap.size from (World.size_alloc _ _).symm]
    exact ((H2.out.below ((Below.refl _ w2).alloc (Nat.le_refl _) (ob w2))).more _ _).drew
  rw [← hW3, ← hE, eN]
  have H3 := Lib.hid (show RE4 w (V, #[.int .i64 x.f0, .int .i64 x.f1, .string x.f2, .slice A3 x.f3.length c3, .slice A4 x.f4.length c4, .slice A5 x.f5.length c5], 26) E m1 m2 N 2 (.int .i64 ((0 : Nat) : Int)) W3 from ⟨0, m1, m2, rfl, rfl, hS3, by simp, by simp⟩)
  clear hS3 hW3 hE eN f1 f2 ya hconv H2
  go_loopg [41] 2 (fun k i wr => RE4 w (V, #[.int .i64 x.f0, .int .i64 x.f1, .string x.f2, .slice A3 x.f3.length c3, .slice A4 x.f4.length c4, .slice A5 x.f5.length c5], 26) E m1 m2 N k i wr)
  case atStart => exact H3.out
  case round =>
    clear H3
    obtain ⟨j, p, q, rfl, hkj, hS, hp, hq⟩ := hrel
    have hj : j = 0 ∨ j = 1 ∨ j = 2 := by omega
    rcases hj with rfl | rfl | rfl
    · obtain rfl : m1 = p := by simpa using hp.symm
      obtain rfl : m2 = q := by simpa using hq.symm
      have HR := Lib.hid hS
      have HK := Lib.hid hkj
      clear hS hp hq hkj
      by_cases c : m1 < 0
      · have d : decide (m1 < 0) = true := decide_eq_true c
        have HX := Lib.hid c
        clear c
        obtain ⟨y0, y1, f0, f1⟩ := two_cells (HR.out.get 1 rfl)
        go_wp2_with fail
        go_roundg (gk - 1)
        case measure => have := HK.out; omega
        case rel => exact ⟨1, _, _, rfl, by have := HK.out; omega, (HR.out.set1 1 rfl 0 (.int .i64 (wrap64 (m1 + (N : Int))))).set1 1 rfl 0 (.int .i64 (min (max (wrap64 (m1 + (N : Int))) 0) (N : Int))), by rw [if_pos (by omega)]; unfold cl; rw [if_pos (by have := HX.out; omega), show wrap64 (m1 + (N : Int)) = m1 + (N : Int) by have := HB0.out; unfold wrap64; omega], by simp⟩
      · have d : decide (m1 < 0) = false := decide_eq_false c
        have HX := Lib.hid c
        clear c
        obtain ⟨y0, y1, f0, f1⟩ := two_cells (HR.out.get 1 rfl)
        go_wp2_with fail
        go_roundg (gk - 1)
        case measure => have := HK.out; omega
        case rel => exact ⟨1, _, _, rfl, by have := HK.out; omega, HR.out.set1 1 rfl 0 (.int .i64 (min (max (m1) 0) (N : Int))), by rw [if_pos (by omega)]; unfold cl; rw [if_neg (by have := HX.out; omega)], by simp⟩
    · have hp' : p = cl m1 N := by simpa using hp
      obtain rfl : m2 = q := by simpa using hq.symm
      have HR := Lib.hid hS
      have HK := Lib.hid (And.intro hkj hp')
      clear hS hp hq hkj hp'
      by_cases c : m2 < 0
      · have d : decide (m2 < 0) = true := decide_eq_true c
        have HX := Lib.hid c
        clear c
        obtain ⟨y0, y1, f0, f1⟩ := two_cells (HR.out.get 1 rfl)
        go_wp2_with fail
        go_roundg (gk - 1)
        case measure => have := HK.out.1; omega
        case rel => exact ⟨2, _, _, rfl, by have := HK.out.1; omega, (HR.out.set1 1 rfl 1 (.int .i64 (wrap64 (m2 + (N : Int))))).set1 1 rfl 1 (.int .i64 (min (max (wrap64 (m2 + (N : Int))) 0) (N : Int))), by rw [if_pos (by omega)]; exact HK.out.2, by rw [if_pos (by omega)]; unfold cl; rw [if_pos (by have := HX.out; omega), show wrap64 (m2 + (N : Int)) = m2 + (N : Int) by have := HB0.out; unfold wrap64; omega]⟩
      · have d : decide (m2 < 0) = false := decide_eq_false c
        have HX := Lib.hid c
        clear c
        obtain ⟨y0, y1, f0, f1⟩ := two_cells (HR.out.get 1 rfl)
        go_wp2_with fail
        go_roundg (gk - 1)
        case measure => have := HK.out.1; omega
        case rel => exact ⟨2, _, _, rfl, by have := HK.out.1; omega, HR.out.set1 1 rfl 1 (.int .i64 (min (max (m2) 0) (N : Int))), by rw [if_pos (by omega)]; exact HK.out.2, by rw [if_pos (by omega)]; unfold cl; rw [if_neg (by have := HX.out; omega)]⟩
    · have hp' : p = cl m1 N := by simpa using hp
      have hq' : q = cl m2 N := by simpa using hq
      have HL := Lib.hid hS
      have HPQ := Lib.hid (And.intro hp' hq')
      have hD : max 0 (wrap64 (q - p)) = max 0 (cl m2 N - cl m1 N) := by have := HB0.out; rw [hp', hq']; unfold wrap64; omega
      have HN3 : Hid (∀ w1, Calls Tryz.prog 34 #[.int .i64 (max 0 (wrap64 (q - p)))] w1 fun e w' => e = .returned (.agg #[.int .i64 3, .int .i64 (2 * max 0 (cl m2 N - cl m1 N)), .string ⟨#[]⟩, .slice none 0 0, .slice none 0 0, .slice none 0 0]) ∧ Below w1.heap.size w1 w') := Lib.hid (by
        intro w1
        rw [hD]
        have h := number_any (max 0 (cl m2 N - cl m1 N)) w1
        rw [show wrap64 (2 * max 0 (cl m2 N - cl m1 N)) = 2 * max 0 (cl m2 N - cl m1 N) by have := HB0.out; unfold wrap64; omega] at h
        exact h)
      clear hS hp hq hkj hp' hq' hD
      go_wp2_with fail
      have HN1 : Hid (∀ w1, Calls Tryz.prog 34 #[.int .i64 (wrap64 m1)] w1 fun e w' => e = .returned (.agg #[.int .i64 3, .int .i64 (2 * m1), .string ⟨#[]⟩, .slice none 0 0, .slice none 0 0, .slice none 0 0]) ∧ Below w1.heap.size w1 w') := Lib.hid (by
        intro w1
        have h := number_any m1 w1
        rw [HE.out.2.2.1] at h
        rw [HE.out.1]
        exact h)
      have HN2 : Hid (∀ w1, Calls Tryz.prog 34 #[.int .i64 (wrap64 m2)] w1 fun e w' => e = .returned (.agg #[.int .i64 3, .int .i64 (2 * m2), .string ⟨#[]⟩, .slice none 0 0, .slice none 0 0, .slice none 0 0]) ∧ Below w1.heap.size w1 w') := Lib.hid (by
        intro w1
        have h := number_any m2 w1
        rw [HE.out.2.2.2] at h
        rw [HE.out.2.1]
        exact h)
      have HSa : ∀ w', SPR w [(V, cv x A3 c3 A4 c4 A5 c5, 26), (E, #[.int .i64 p, .int .i64 q], 56)] [] w' → w'.cell? ⟨V, 0, none⟩ = some (.int .i64 x.f0) ∧ w'.cell? ⟨V, 1, none⟩ = some (.int .i64 x.f1) ∧ w'.cell? ⟨V, 2, none⟩ = some (.string x.f2) ∧ w'.cell? ⟨V, 3, none⟩ = some (.slice A3 x.f3.length c3) ∧ w'.cell? ⟨V, 4, none⟩ = some (.slice A4 x.f4.length c4) ∧ w'.cell? ⟨V, 5, none⟩ = some (.slice A5 x.f5.length c5) ∧ w'.cell? ⟨E, 0, none⟩ = some (.int .i64 p) ∧ w'.cell? ⟨E, 1, none⟩ = some (.int .i64 q) ∧ SPR w [(V, cv x A3 c3 A4 c4 A5 c5, 26), (E, #[.int .i64 p, .int .i64 q], 56)] [] w' := fun w' h => ⟨((six_cells ((SPR.spl h).get 0 rfl)).1), ((six_cells ((SPR.spl h).get 0 rfl)).2.1), ((six_cells ((SPR.spl h).get 0 rfl)).2.2.1), ((six_cells ((SPR.spl h).get 0 rfl)).2.2.2.1), ((six_cells ((SPR.spl h).get 0 rfl)).2.2.2.2.1), ((six_cells ((SPR.spl h).get 0 rfl)).2.2.2.2.2.1), ((two_cells ((SPR.spl h).get 1 rfl)).1), ((two_cells ((SPR.spl h).get 1 rfl)).2.1), h⟩
      refine start_ (n := 10) (S := fun w' => w'.cell? ⟨V, 0, none⟩ = some (.int .i64 x.f0) ∧ w'.cell? ⟨V, 1, none⟩ = some (.int .i64 x.f1) ∧ w'.cell? ⟨V, 2, none⟩ = some (.string x.f2) ∧ w'.cell? ⟨V, 3, none⟩ = some (.slice A3 x.f3.length c3) ∧ w'.cell? ⟨V, 4, none⟩ = some (.slice A4 x.f4.length c4) ∧ w'.cell? ⟨V, 5, none⟩ = some (.slice A5 x.f5.length c5) ∧ w'.cell? ⟨E, 0, none⟩ = some (.int .i64 p) ∧ w'.cell? ⟨E, 1, none⟩ = some (.int .i64 q) ∧ SPR w [(V, cv x A3 c3 A4 c4 A5 c5, 26), (E, #[.int .i64 p, .int .i64 q], 56)] [] w') (ds := []) #[false, false, false, false, false, false, false, false, false, false] (by kernel_rfl) rfl rfl (HSa _ (SPR.drew HL.out)) (fun hHeld => ?_)
      refine pure_ (i := 1) (N := some 64) (v := ?_) (a' := ?_) #[false, true, false, false, false, false, false, false, false, false] rfl rfl (by kernel_rfl) (fun _ _ _ h => h) (Or.inl ⟨by rfl, ?_⟩) ?_ ?_
      rotate_left
      · intro w'
        go_simp
        with_reducible rfl
      rotate_left
      · simp only [Act.put, List.setIfInBounds_toArray, List.set_cons_zero, List.set_cons_succ, i64_w, i32_w]
        rfl
      refine pure_ (i := 2) (N := some 65) (v := ?_) (a' := ?_) #[false, true, true, false, false, false, false, false, false, false] rfl rfl (by kernel_rfl) (fun _ _ _ h => h) (Or.inl ⟨by rfl, ?_⟩) ?_ ?_
      rotate_left
      · intro w'
        go_simp
        with_reducible rfl
      rotate_left
      · simp only [Act.put, List.setIfInBounds_toArray, List.set_cons_zero, List.set_cons_succ, i64_w, i32_w]
        rfl
      refine pure_ (i := 4) (N := some 67) (v := ?_) (a' := ?_) #[false, true, true, false, true, false, false, false, false, false] rfl rfl (by kernel_rfl) (fun _ _ _ h => h) (Or.inl ⟨by rfl, ?_⟩) ?_ ?_
      rotate_left
      · intro w'
        go_simp
        with_reducible rfl
      rotate_left
      · simp only [Act.put, List.setIfInBounds_toArray, List.set_cons_zero, List.set_cons_succ, i64_w, i32_w]
        rfl
      refine pure_ (i := 5) (N := some 68) (v := ?_) (a' := ?_) #[false, true, true, false, true, true, false, false, false, false] rfl rfl (by kernel_rfl) (fun _ _ _ h => h) (Or.inl ⟨by rfl, ?_⟩) ?_ ?_
      rotate_left
      · intro w'
        go_simp
        with_reducible rfl
      rotate_left
      · simp only [Act.put, List.setIfInBounds_toArray, List.set_cons_zero, List.set_cons_succ, i64_w, i32_w]
        rfl
      refine take_ (i := 0) (N := some 63) (v := ?_) (a' := ?_) #[true, true, true, false, true, true, false, false, false, false] rfl rfl (by kernel_rfl) (fun _ _ _ h => h) (Or.inl ⟨by rfl, ?_⟩) hHeld ?_ ?_
      rotate_left
      · rintro w' ⟨s0, s1, s2, s3, s4, s5, s6, s7, s8⟩
        go_simp
        with_reducible rfl
      rotate_left
      · simp only [Act.put, List.setIfInBounds_toArray, List.set_cons_zero, List.set_cons_succ, i64_w, i32_w]
        rfl
      refine join_ (σ := Nat × Array Value × Unit) 1 #[true, true, true, true, true, true, true, true, true, false] (fun s => [(66, .agg #[.int .i64 3, .int .i64 (2 * m1), .string ⟨#[]⟩, .slice none 0 0, .slice none 0 0, .slice none 0 0]), (69, .agg #[.int .i64 3, .int .i64 (2 * m2), .string ⟨#[]⟩, .slice none 0 0, .slice none 0 0, .slice none 0 0]), (70, .agg s.2.1), (10, .pointer (some ⟨s.1, 0, none⟩))]) (fun s w' => SPR w [(V, cv x A3 c3 A4 c4 A5 c5, 26), (E, #[.int .i64 p, .int .i64 q], 56), (s.1, z7, 30)] [(x1, s.2.1)] w') ?_ ?_
      rotate_left
      · intro hJ3_6_7_8
        refine join_ (σ := Array Value × Unit) 2 #[true, true, true, true, true, true, true, true, false, false] (fun s => [(66, .agg #[.int .i64 3, .int .i64 (2 * m1), .string ⟨#[]⟩, .slice none 0 0, .slice none 0 0, .slice none 0 0]), (69, .agg #[.int .i64 3, .int .i64 (2 * m2), .string ⟨#[]⟩, .slice none 0 0, .slice none 0 0, .slice none 0 0]), (70, .agg s.1)]) (fun s w' => SPR w [(V, cv x A3 c3 A4 c4 A5 c5, 26), (E, #[.int .i64 p, .int .i64 q], 56)] [(x1, s.1)] w') ?_ ?_
        rotate_left
        · intro hJ3_6_7
          refine join_ (σ := Nat × Unit) 2 #[true, true, true, true, true, true, true, false, true, false] (fun s => [(66, .agg #[.int .i64 3, .int .i64 (2 * m1), .string ⟨#[]⟩, .slice none 0 0, .slice none 0 0, .slice none 0 0]), (69, .agg #[.int .i64 3, .int .i64 (2 * m2), .string ⟨#[]⟩, .slice none 0 0, .slice none 0 0, .slice none 0 0]), (10, .pointer (some ⟨s.1, 0, none⟩))]) (fun s w' => SPR w [(V, cv x A3 c3 A4 c4 A5 c5, 26), (E, #[.int .i64 p, .int .i64 q], 56), (s.1, z7, 30)] [] w') ?_ ?_
          rotate_left
          · intro hJ3_6_8
            refine join_ (σ := Unit) 3 #[true, true, true, true, true, true, true, false, false, false] (fun s => [(66, .agg #[.int .i64 3, .int .i64 (2 * m1), .string ⟨#[]⟩, .slice none 0 0, .slice none 0 0, .slice none 0 0]), (69, .agg #[.int .i64 3, .int .i64 (2 * m2), .string ⟨#[]⟩, .slice none 0 0, .slice none 0 0, .slice none 0 0])]) (fun s w' => SPR w [(V, cv x A3 c3 A4 c4 A5 c5, 26), (E, #[.int .i64 p, .int .i64 q], 56)] [] w') ?_ ?_
            rotate_left
            · intro hJ3_6
              refine join_ (σ := Nat × Unit) 3 #[true, true, true, true, true, true, false, false, true, false] (fun s => [(66, .agg #[.int .i64 3, .int .i64 (2 * m1), .string ⟨#[]⟩, .slice none 0 0, .slice none 0 0, .slice none 0 0]), (10, .pointer (some ⟨s.1, 0, none⟩))]) (fun s w' => SPR w [(V, cv x A3 c3 A4 c4 A5 c5, 26), (E, #[.int .i64 p, .int .i64 q], 56), (s.1, z7, 30)] [] w') ?_ ?_
              rotate_left
              · intro hJ3_8
                refine join_ (σ := Unit) 4 #[true, true, true, true, true, true, false, false, false, false] (fun s => [(66, .agg #[.int .i64 3, .int .i64 (2 * m1), .string ⟨#[]⟩, .slice none 0 0, .slice none 0 0, .slice none 0 0])]) (fun s w' => SPR w [(V, cv x A3 c3 A4 c4 A5 c5, 26), (E, #[.int .i64 p, .int .i64 q], 56)] [] w') ?_ ?_
                rotate_left
                · intro hJ3
                  refine join_ (σ := Nat × Unit) 4 #[true, true, true, false, true, true, false, false, true, false] (fun s => [(10, .pointer (some ⟨s.1, 0, none⟩))]) (fun s w' => SPR w [(V, cv x A3 c3 A4 c4 A5 c5, 26), (E, #[.int .i64 p, .int .i64 q], 56), (s.1, z7, 30)] [] w') ?_ ?_
                  rotate_left
                  · intro hJ8
                    refine two_ (i := 3) (j := 8) (Ni := some 66) (Nj := some 10) #[true, true, true, true, true, true, false, false, false, false] #[true, true, true, false, true, true, false, false, true, false] rfl rfl rfl rfl (by kernel_rfl) (by decide) (by decide) (fun K hK => ?_) (fun K hK => ?_)
                    · skip
                      refine goes_ Tryz.func34 (by kernel_rfl) rfl #[.int .i64 (wrap64 m1)] (by rfl) rfl rfl (by simp only [List.map_toArray, List.map_cons, List.map_nil]; rfl) ?_
                      with_reducible refine ((HN1.out _)).mono ?_
                      rintro e wz ⟨rfl, hb⟩
                      refine ⟨_, rfl, ?_⟩
                      have hz := SPR.below (hHeld.2.2.2.2.2.2.2.2) hb
                      have hzb : SPR w [(V, cv x A3 c3 A4 c4 A5 c5, 26), (E, #[.int .i64 p, .int .i64 q], 56)] [] wz := SPR.tk 2 0 hz
                      refine hK.out _ _ (HSa _ hzb) (fun hHeld => ?_)
                      clear hK K
                      refine norm_ (a' := ?_) ?_ ?_
                      rotate_left
                      · show Act.put _ (some 66) _ = _
                        simp only [Act.put, List.setIfInBounds_toArray, List.set_cons_zero, List.set_cons_succ, i64_w, i32_w]
                        rfl
                      exact norm_ (by first | (simp only [putAll, Act.put, List.setIfInBounds_toArray, List.set_cons_zero, List.set_cons_succ]; done) | (simp only [putAll, Act.put, List.setIfInBounds_toArray, List.set_cons_zero, List.set_cons_succ]; rfl)) (hJ3 (()) _ hz)
                    · skip
                      refine freshR_ (c := #[.int .i64 0, .int .i64 0, .string ⟨#[]⟩, .slice none 0 0, .slice none 0 0, .slice none 0 0, .int .i64 0]) (t := 30) (hHeld.2.2.2.2.2.2.2.2) (by rfl) rfl ?_ ?_
                      · first | (go_simp; done) | (go_simp; rfl)
                      intro Ra8 wz hz
                      have hzb : SPR w [(V, cv x A3 c3 A4 c4 A5 c5, 26), (E, #[.int .i64 p, .int .i64 q], 56)] [] wz := SPR.tk 2 0 hz
                      refine hK.out _ _ (HSa _ hzb) (fun hHeld => ?_)
                      clear hK K
                      refine norm_ (a' := ?_) ?_ ?_
                      rotate_left
                      · show Act.put _ (some 10) _ = _
                        simp only [Act.put, List.setIfInBounds_toArray, List.set_cons_zero, List.set_cons_succ, i64_w, i32_w]
                        rfl
                      exact norm_ (by first | (simp only [putAll, Act.put, List.setIfInBounds_toArray, List.set_cons_zero, List.set_cons_succ]; done) | (simp only [putAll, Act.put, List.setIfInBounds_toArray, List.set_cons_zero, List.set_cons_succ]; rfl)) (hJ8 (Ra8, ()) _ hz)
                  · skip
                    rintro ⟨Ra8, _⟩ w' hF
                    change SPR w [(V, cv x A3 c3 A4 c4 A5 c5, 26), (E, #[.int .i64 p, .int .i64 q], 56), (Ra8, z7, 30)] [] w' at hF
                    have hFb : SPR w [(V, cv x A3 c3 A4 c4 A5 c5, 26), (E, #[.int .i64 p, .int .i64 q], 56)] [] w' := SPR.tk 2 0 hF
                    have hHeld := HSa _ hFb
                    clear hFb
                    refine norm_ (a' := ?_) ?_ ?_
                    rotate_left
                    · simp only [putAll, Act.put, List.setIfInBounds_toArray, List.set_cons_zero, List.set_cons_succ]
                      rfl
                    refine one_ (i := 3) (N := some 66) #[true, true, true, true, true, true, false, false, true, false] rfl rfl (by kernel_rfl) (by decide) (fun K hK => ?_)
                    refine goes_ Tryz.func34 (by kernel_rfl) rfl #[.int .i64 (wrap64 m1)] (by rfl) rfl rfl (by simp only [List.map_toArray, List.map_cons, List.map_nil]; rfl) ?_
                    with_reducible refine ((HN1.out _)).mono ?_
                    rintro e wz ⟨rfl, hb⟩
                    refine ⟨_, rfl, ?_⟩
                    have hz := SPR.below (hF) hb
                    have hzb : SPR w [(V, cv x A3 c3 A4 c4 A5 c5, 26), (E, #[.int .i64 p, .int .i64 q], 56)] [] wz := SPR.tk 2 0 hz
                    refine hK.out _ _ (HSa _ hzb) (fun hHeld => ?_)
                    clear hK K
                    refine norm_ (a' := ?_) ?_ ?_
                    rotate_left
                    · show Act.put _ (some 66) _ = _
                      simp only [Act.put, List.setIfInBounds_toArray, List.set_cons_zero, List.set_cons_succ, i64_w, i32_w]
                      rfl
                    exact norm_ (by first | (simp only [putAll, Act.put, List.setIfInBounds_toArray, List.set_cons_zero, List.set_cons_succ]; done) | (simp only [putAll, Act.put, List.setIfInBounds_toArray, List.set_cons_zero, List.set_cons_succ]; rfl)) (hJ3_8 (Ra8, ()) _ hz)
                · skip
                  rintro ⟨_⟩ w' hF
                  change SPR w [(V, cv x A3 c3 A4 c4 A5 c5, 26), (E, #[.int .i64 p, .int .i64 q], 56)] [] w' at hF
                  have hFb : SPR w [(V, cv x A3 c3 A4 c4 A5 c5, 26), (E, #[.int .i64 p, .int .i64 q], 56)] [] w' := SPR.tk 2 0 hF
                  have hHeld := HSa _ hFb
                  clear hFb
                  refine norm_ (a' := ?_) ?_ ?_
                  rotate_left
                  · simp only [putAll, Act.put, List.setIfInBounds_toArray, List.set_cons_zero, List.set_cons_succ]
                    rfl
                  refine two_ (i := 6) (j := 8) (Ni := some 69) (Nj := some 10) #[true, true, true, true, true, true, true, false, false, false] #[true, true, true, true, true, true, false, false, true, false] rfl rfl rfl rfl (by kernel_rfl) (by decide) (by decide) (fun K hK => ?_) (fun K hK => ?_)
                  · skip
                    refine goes_ Tryz.func34 (by kernel_rfl) rfl #[.int .i64 (wrap64 m2)] (by rfl) rfl rfl (by simp only [List.map_toArray, List.map_cons, List.map_nil]; rfl) ?_
                    with_reducible refine ((HN2.out _)).mono ?_
                    rintro e wz ⟨rfl, hb⟩
                    refine ⟨_, rfl, ?_⟩
                    have hz := SPR.below (hF) hb
                    have hzb : SPR w [(V, cv x A3 c3 A4 c4 A5 c5, 26), (E, #[.int .i64 p, .int .i64 q], 56)] [] wz := SPR.tk 2 0 hz
                    refine hK.out _ _ (HSa _ hzb) (fun hHeld => ?_)
                    clear hK K
                    refine norm_ (a' := ?_) ?_ ?_
                    rotate_left
                    · show Act.put _ (some 69) _ = _
                      simp only [Act.put, List.setIfInBounds_toArray, List.set_cons_zero, List.set_cons_succ, i64_w, i32_w]
                      rfl
                    exact norm_ (by first | (simp only [putAll, Act.put, List.setIfInBounds_toArray, List.set_cons_zero, List.set_cons_succ]; done) | (simp only [putAll, Act.put, List.setIfInBounds_toArray, List.set_cons_zero, List.set_cons_succ]; rfl)) (hJ3_6 (()) _ hz)
                  · skip
                    refine freshR_ (c := #[.int .i64 0, .int .i64 0, .string ⟨#[]⟩, .slice none 0 0, .slice none 0 0, .slice none 0 0, .int .i64 0]) (t := 30) (hF) (by rfl) rfl ?_ ?_
                    · first | (go_simp; done) | (go_simp; rfl)
                    intro Ra8 wz hz
                    have hzb : SPR w [(V, cv x A3 c3 A4 c4 A5 c5, 26), (E, #[.int .i64 p, .int .i64 q], 56)] [] wz := SPR.tk 2 0 hz
                    refine hK.out _ _ (HSa _ hzb) (fun hHeld => ?_)
                    clear hK K
                    refine norm_ (a' := ?_) ?_ ?_
                    rotate_left
                    · show Act.put _ (some 10) _ = _
                      simp only [Act.put, List.setIfInBounds_toArray, List.set_cons_zero, List.set_cons_succ, i64_w, i32_w]
                      rfl
                    exact norm_ (by first | (simp only [putAll, Act.put, List.setIfInBounds_toArray, List.set_cons_zero, List.set_cons_succ]; done) | (simp only [putAll, Act.put, List.setIfInBounds_toArray, List.set_cons_zero, List.set_cons_succ]; rfl)) (hJ3_8 (Ra8, ()) _ hz)
              · skip
                rintro ⟨Ra8, _⟩ w' hF
                change SPR w [(V, cv x A3 c3 A4 c4 A5 c5, 26), (E, #[.int .i64 p, .int .i64 q], 56), (Ra8, z7, 30)] [] w' at hF
                have hFb : SPR w [(V, cv x A3 c3 A4 c4 A5 c5, 26), (E, #[.int .i64 p, .int .i64 q], 56)] [] w' := SPR.tk 2 0 hF
                have hHeld := HSa _ hFb
                clear hFb
                refine norm_ (a' := ?_) ?_ ?_
                rotate_left
                · simp only [putAll, Act.put, List.setIfInBounds_toArray, List.set_cons_zero, List.set_cons_succ]
                  rfl
                refine one_ (i := 6) (N := some 69) #[true, true, true, true, true, true, true, false, true, false] rfl rfl (by kernel_rfl) (by decide) (fun K hK => ?_)
                refine goes_ Tryz.func34 (by kernel_rfl) rfl #[.int .i64 (wrap64 m2)] (by rfl) rfl rfl (by simp only [List.map_toArray, List.map_cons, List.map_nil]; rfl) ?_
                with_reducible refine ((HN2.out _)).mono ?_
                rintro e wz ⟨rfl, hb⟩
                refine ⟨_, rfl, ?_⟩
                have hz := SPR.below (hF) hb
                have hzb : SPR w [(V, cv x A3 c3 A4 c4 A5 c5, 26), (E, #[.int .i64 p, .int .i64 q], 56)] [] wz := SPR.tk 2 0 hz
                refine hK.out _ _ (HSa _ hzb) (fun hHeld => ?_)
                clear hK K
                refine norm_ (a' := ?_) ?_ ?_
                rotate_left
                · show Act.put _ (some 69) _ = _
                  simp only [Act.put, List.setIfInBounds_toArray, List.set_cons_zero, List.set_cons_succ, i64_w, i32_w]
                  rfl
                exact norm_ (by first | (simp only [putAll, Act.put, List.setIfInBounds_toArray, List.set_cons_zero, List.set_cons_succ]; done) | (simp only [putAll, Act.put, List.setIfInBounds_toArray, List.set_cons_zero, List.set_cons_succ]; rfl)) (hJ3_6_8 (Ra8, ()) _ hz)
            · skip
              rintro ⟨_⟩ w' hF
              change SPR w [(V, cv x A3 c3 A4 c4 A5 c5, 26), (E, #[.int .i64 p, .int .i64 q], 56)] [] w' at hF
              have hFb : SPR w [(V, cv x A3 c3 A4 c4 A5 c5, 26), (E, #[.int .i64 p, .int .i64 q], 56)] [] w' := SPR.tk 2 0 hF
              have hHeld := HSa _ hFb
              clear hFb
              refine norm_ (a' := ?_) ?_ ?_
              rotate_left
              · simp only [putAll, Act.put, List.setIfInBounds_toArray, List.set_cons_zero, List.set_cons_succ]
                rfl
              refine two_ (i := 7) (j := 8) (Ni := some 70) (Nj := some 10) #[true, true, true, true, true, true, true, true, false, false] #[true, true, true, true, true, true, true, false, true, false] rfl rfl rfl rfl (by kernel_rfl) (by decide) (by decide) (fun K hK => ?_) (fun K hK => ?_)
              · skip
                refine goes_ Tryz.func33 (by kernel_rfl) rfl #[.agg #[.int .i64 x.f0, .int .i64 x.f1, .string x.f2, .slice A3 x.f3.length c3, .slice A4 x.f4.length c4, .slice A5 x.f5.length c5], .agg #[.int .i64 3, .int .i64 (2 * m1), .string ⟨#[]⟩, .slice none 0 0, .slice none 0 0, .slice none 0 0], .agg #[.int .i64 3, .int .i64 (2 * m2), .string ⟨#[]⟩, .slice none 0 0, .slice none 0 0, .slice none 0 0]] (by rfl) rfl rfl (by simp only [List.map_toArray, List.map_cons, List.map_nil]; rfl) ?_
                with_reducible refine ((HSA.out _ _ _ (hF))).mono ?_
                rintro e wz ⟨u7, rfl, hz⟩
                refine ⟨_, rfl, ?_⟩
                have hzb : SPR w [(V, cv x A3 c3 A4 c4 A5 c5, 26), (E, #[.int .i64 p, .int .i64 q], 56)] [] wz := SPR.tk 2 0 hz
                refine hK.out _ _ (HSa _ hzb) (fun hHeld => ?_)
                clear hK K
                refine norm_ (a' := ?_) ?_ ?_
                rotate_left
                · show Act.put _ (some 70) _ = _
                  simp only [Act.put, List.setIfInBounds_toArray, List.set_cons_zero, List.set_cons_succ, i64_w, i32_w]
                  rfl
                exact norm_ (by first | (simp only [putAll, Act.put, List.setIfInBounds_toArray, List.set_cons_zero, List.set_cons_succ]; done) | (simp only [putAll, Act.put, List.setIfInBounds_toArray, List.set_cons_zero, List.set_cons_succ]; rfl)) (hJ3_6_7 (u7, ()) _ hz)
              · skip
                refine freshR_ (c := #[.int .i64 0, .int .i64 0, .string ⟨#[]⟩, .slice none 0 0, .slice none 0 0, .slice none 0 0, .int .i64 0]) (t := 30) (hF) (by rfl) rfl ?_ ?_
                · first | (go_simp; done) | (go_simp; rfl)
                intro Ra8 wz hz
                have hzb : SPR w [(V, cv x A3 c3 A4 c4 A5 c5, 26), (E, #[.int .i64 p, .int .i64 q], 56)] [] wz := SPR.tk 2 0 hz
                refine hK.out _ _ (HSa _ hzb) (fun hHeld => ?_)
                clear hK K
                refine norm_ (a' := ?_) ?_ ?_
                rotate_left
                · show Act.put _ (some 10) _ = _
                  simp only [Act.put, List.setIfInBounds_toArray, List.set_cons_zero, List.set_cons_succ, i64_w, i32_w]
                  rfl
                exact norm_ (by first | (simp only [putAll, Act.put, List.setIfInBounds_toArray, List.set_cons_zero, List.set_cons_succ]; done) | (simp only [putAll, Act.put, List.setIfInBounds_toArray, List.set_cons_zero, List.set_cons_succ]; rfl)) (hJ3_6_8 (Ra8, ()) _ hz)
          · skip
            rintro ⟨Ra8, _⟩ w' hF
            change SPR w [(V, cv x A3 c3 A4 c4 A5 c5, 26), (E, #[.int .i64 p, .int .i64 q], 56), (Ra8, z7, 30)] [] w' at hF
            have hFb : SPR w [(V, cv x A3 c3 A4 c4 A5 c5, 26), (E, #[.int .i64 p, .int .i64 q], 56)] [] w' := SPR.tk 2 0 hF
            have hHeld := HSa _ hFb
            clear hFb
            refine norm_ (a' := ?_) ?_ ?_
            rotate_left
            · simp only [putAll, Act.put, List.setIfInBounds_toArray, List.set_cons_zero, List.set_cons_succ]
              rfl
            refine one_ (i := 7) (N := some 70) #[true, true, true, true, true, true, true, true, true, false] rfl rfl (by kernel_rfl) (by decide) (fun K hK => ?_)
            refine goes_ Tryz.func33 (by kernel_rfl) rfl #[.agg #[.int .i64 x.f0, .int .i64 x.f1, .string x.f2, .slice A3 x.f3.length c3, .slice A4 x.f4.length c4, .slice A5 x.f5.length c5], .agg #[.int .i64 3, .int .i64 (2 * m1), .string ⟨#[]⟩, .slice none 0 0, .slice none 0 0, .slice none 0 0], .agg #[.int .i64 3, .int .i64 (2 * m2), .string ⟨#[]⟩, .slice none 0 0, .slice none 0 0, .slice none 0 0]] (by rfl) rfl rfl (by simp only [List.map_toArray, List.map_cons, List.map_nil]; rfl) ?_
            with_reducible refine ((HSA.out _ _ _ (hF))).mono ?_
            rintro e wz ⟨u7, rfl, hz⟩
            refine ⟨_, rfl, ?_⟩
            have hzb : SPR w [(V, cv x A3 c3 A4 c4 A5 c5, 26), (E, #[.int .i64 p, .int .i64 q], 56)] [] wz := SPR.tk 2 0 hz
            refine hK.out _ _ (HSa _ hzb) (fun hHeld => ?_)
            clear hK K
            refine norm_ (a' := ?_) ?_ ?_
            rotate_left
            · show Act.put _ (some 70) _ = _
              simp only [Act.put, List.setIfInBounds_toArray, List.set_cons_zero, List.set_cons_succ, i64_w, i32_w]
              rfl
            exact norm_ (by first | (simp only [putAll, Act.put, List.setIfInBounds_toArray, List.set_cons_zero, List.set_cons_succ]; done) | (simp only [putAll, Act.put, List.setIfInBounds_toArray, List.set_cons_zero, List.set_cons_succ]; rfl)) (hJ3_6_7_8 (Ra8, u7, ()) _ hz)
        · skip
          rintro ⟨cz7, _⟩ w' hF
          change SPR w [(V, cv x A3 c3 A4 c4 A5 c5, 26), (E, #[.int .i64 p, .int .i64 q], 56)] [(x1, cz7)] w' at hF
          obtain ⟨B3x, d3x, B4x, d4x, B5x, d5x, rfl⟩ := hF.cells 0 rfl
          have hFb : SPR w [(V, cv x A3 c3 A4 c4 A5 c5, 26), (E, #[.int .i64 p, .int .i64 q], 56)] [] w' := SPR.tk 2 0 hF
          have hHeld := HSa _ hFb
          clear hFb
          refine norm_ (a' := ?_) ?_ ?_
          rotate_left
          · simp only [putAll, Act.put, List.setIfInBounds_toArray, List.set_cons_zero, List.set_cons_succ]
            rfl
          refine one_ (i := 8) (N := some 10) #[true, true, true, true, true, true, true, true, true, false] rfl rfl (by kernel_rfl) (by decide) (fun K hK => ?_)
          refine freshR_ (c := #[.int .i64 0, .int .i64 0, .string ⟨#[]⟩, .slice none 0 0, .slice none 0 0, .slice none 0 0, .int .i64 0]) (t := 30) (hF) (by rfl) rfl ?_ ?_
          · first | (go_simp; done) | (go_simp; rfl)
          intro Ra8 wz hz
          have hzb : SPR w [(V, cv x A3 c3 A4 c4 A5 c5, 26), (E, #[.int .i64 p, .int .i64 q], 56)] [] wz := SPR.tk 2 0 hz
          refine hK.out _ _ (HSa _ hzb) (fun hHeld => ?_)
          clear hK K
          refine norm_ (a' := ?_) ?_ ?_
          rotate_left
          · show Act.put _ (some 10) _ = _
            simp only [Act.put, List.setIfInBounds_toArray, List.set_cons_zero, List.set_cons_succ, i64_w, i32_w]
            rfl
          exact norm_ (by first | (simp only [putAll, Act.put, List.setIfInBounds_toArray, List.set_cons_zero, List.set_cons_succ]; done) | (simp only [putAll, Act.put, List.setIfInBounds_toArray, List.set_cons_zero, List.set_cons_succ]; rfl)) (hJ3_6_7_8 (Ra8, #[.int .i64 x1.f0, .int .i64 x1.f1, .string x1.f2, .slice B3x x1.f3.length d3x, .slice B4x x1.f4.length d4x, .slice B5x x1.f5.length d5x, .int .i64 0], ()) _ hz)
      rintro ⟨Ra8, cz7, _⟩ w' hF
      change SPR w [(V, cv x A3 c3 A4 c4 A5 c5, 26), (E, #[.int .i64 p, .int .i64 q], 56), (Ra8, z7, 30)] [(x1, cz7)] w' at hF
      obtain ⟨B3x, d3x, B4x, d4x, B5x, d5x, rfl⟩ := hF.cells 0 rfl
      have hFb : SPR w [(V, cv x A3 c3 A4 c4 A5 c5, 26), (E, #[.int .i64 p, .int .i64 q], 56)] [] w' := SPR.tk 2 0 hF
      have hHeld := HSa _ hFb
      clear hFb
      refine norm_ (a' := ?_) ?_ ?_
      rotate_left
      · simp only [putAll, Act.put, List.setIfInBounds_toArray, List.set_cons_zero, List.set_cons_succ]
        rfl
      refine one_ (i := 9) (N := none) #[true, true, true, true, true, true, true, true, true, true] rfl rfl (by kernel_rfl) (by decide) (fun K hK => ?_)
      obtain ⟨y0, y1, y2, y3, y4, y5, y6, f0, f1, f2, f3, f4, f5, f6⟩ := sev_cells (SPR.get hF 2 rfl)
      refine put7R_ (v0 := .int .i64 x1.f0) (v1 := .int .i64 x1.f1) (v2 := .string x1.f2) (v3 := .slice B3x x1.f3.length d3x) (v4 := .slice B4x x1.f4.length d4x) (v5 := .slice B5x x1.f5.length d5x) (v6 := .int .i64 0) hF 2 rfl (by rfl) rfl ?_ ?_
      · first | (go_simp; done) | (go_simp; rfl)
      clear y0 y1 y2 y3 y4 y5 y6 f0 f1 f2 f3 f4 f5 f6
      intro wsa0 hsa0
      change SPR w [(V, cv x A3 c3 A4 c4 A5 c5, 26), (E, #[.int .i64 p, .int .i64 q], 56), (Ra8, rc x1 B3x d3x B4x d4x B5x d5x, 30)] [(x1, rc x1 B3x d3x B4x d4x B5x d5x)] wsa0 at hsa0
      have hzb : SPR w [(V, cv x A3 c3 A4 c4 A5 c5, 26), (E, #[.int .i64 p, .int .i64 q], 56)] [] wsa0 := SPR.tk 2 0 hsa0
      refine hK.out _ _ (HSa _ hzb) (fun hHeld => ?_)
      clear hK K
      refine done_ (by kernel_rfl) ?_
      have HQ := Lib.hid hsa0
      clear hsa0 hF hHeld
      have HG : Hid (∀ w1 {B3 B4 B5 : Option Addr} {d3 d4 d5 : Nat}, SPR w [(V, cv x A3 c3 A4 c4 A5 c5, 26), (E, #[.int .i64 p, .int .i64 q], 56), (Ra8, rc x1 B3x d3x B4x d4x B5x d5x, 30)] ([(x1, rc x1 B3x d3x B4x d4x B5x d5x)] ++ [(x2, #[.int .i64 x2.f0, .int .i64 x2.f1, .string x2.f2, .slice B3 x2.f3.length d3, .slice B4 x2.f4.length d4, .slice B5 x2.f5.length d5, .int .i64 0])]) w1 → Calls Tryz.prog 19 #[.agg #[.int .i64 x2.f0, .int .i64 x2.f1, .string x2.f2, .slice B3 x2.f3.length d3, .slice B4 x2.f4.length d4, .slice B5 x2.f5.length d5, .int .i64 0], .agg #[.int .i64 3, .int .i64 (2 * max 0 (cl m2 N - cl m1 N)), .string ⟨#[]⟩, .slice none 0 0, .slice none 0 0, .slice none 0 0]] w1 fun e w' => e = .returned (.bool true) ∧ Below w1.heap.size w1 w') := Lib.hid (by
        intro w1 B3 B4 B5 d3 d4 d5 h
        have ht : Tiny (some (max 0 (cl m2 N - cl m1 N))) := tiny_some (by omega) (by have := HB0.out; omega)
        have h1 := given_any w1 x2 (aV (some (max 0 (cl m2 N - cl m1 N)))) (by rw [HD.out]; exact wl_aV ht) (wl_aV ht) (h.held 1 rfl) (K_num _) w1 (Below.refl _ _)
        simp only [vl, rv] at h1
        rw [show (cmpV x2 (aV (some (max 0 (cl m2 N - cl m1 N)))) == 0) = true by rw [HD.out, cmpV_self]; rfl] at h1
        exact h1)
      go_wp2_with fail
      refine start_ (n := 17) (S := fun w' => w'.cell? ⟨V, 0, none⟩ = some (.int .i64 x.f0) ∧ w'.cell? ⟨V, 1, none⟩ = some (.int .i64 x.f1) ∧ w'.cell? ⟨V, 2, none⟩ = some (.string x.f2) ∧ w'.cell? ⟨V, 3, none⟩ = some (.slice A3 x.f3.length c3) ∧ w'.cell? ⟨V, 4, none⟩ = some (.slice A4 x.f4.length c4) ∧ w'.cell? ⟨V, 5, none⟩ = some (.slice A5 x.f5.length c5) ∧ w'.cell? ⟨E, 0, none⟩ = some (.int .i64 p) ∧ w'.cell? ⟨E, 1, none⟩ = some (.int .i64 q) ∧ w'.cell? ⟨Ra8, 0, none⟩ = some (.int .i64 x1.f0) ∧ w'.cell? ⟨Ra8, 1, none⟩ = some (.int .i64 x1.f1) ∧ w'.cell? ⟨Ra8, 2, none⟩ = some (.string x1.f2) ∧ w'.cell? ⟨Ra8, 3, none⟩ = some (.slice B3x x1.f3.length d3x) ∧ w'.cell? ⟨Ra8, 4, none⟩ = some (.slice B4x x1.f4.length d4x) ∧ w'.cell? ⟨Ra8, 5, none⟩ = some (.slice B5x x1.f5.length d5x) ∧ w'.cell? ⟨Ra8, 6, none⟩ = some (.int .i64 0) ∧ SPR w [(V, cv x A3 c3 A4 c4 A5 c5, 26), (E, #[.int .i64 p, .int .i64 q], 56), (Ra8, rc x1 B3x d3x B4x d4x B5x d5x, 30)] [(x1, rc x1 B3x d3x B4x d4x B5x d5x)] w') (ds := []) #[false, false, false, false, false, false, false, false, false, false, false, false, false, false, false, false, false] (by kernel_rfl) rfl rfl ⟨((six_cells ((SPR.spl (SPR.drew HQ.out)).get 0 rfl)).1), ((six_cells ((SPR.spl (SPR.drew HQ.out)).get 0 rfl)).2.1), ((six_cells ((SPR.spl (SPR.drew HQ.out)).get 0 rfl)).2.2.1), ((six_cells ((SPR.spl (SPR.drew HQ.out)).get 0 rfl)).2.2.2.1), ((six_cells ((SPR.spl (SPR.drew HQ.out)).get 0 rfl)).2.2.2.2.1), ((six_cells ((SPR.spl (SPR.drew HQ.out)).get 0 rfl)).2.2.2.2.2.1), ((two_cells ((SPR.spl (SPR.drew HQ.out)).get 1 rfl)).1), ((two_cells ((SPR.spl (SPR.drew HQ.out)).get 1 rfl)).2.1), ((sev_cells ((SPR.spl (SPR.drew HQ.out)).get 2 rfl)).1), ((sev_cells ((SPR.spl (SPR.drew HQ.out)).get 2 rfl)).2.1), ((sev_cells ((SPR.spl (SPR.drew HQ.out)).get 2 rfl)).2.2.1), ((sev_cells ((SPR.spl (SPR.drew HQ.out)).get 2 rfl)).2.2.2.1), ((sev_cells ((SPR.spl (SPR.drew HQ.out)).get 2 rfl)).2.2.2.2.1), ((sev_cells ((SPR.spl (SPR.drew HQ.out)).get 2 rfl)).2.2.2.2.2.1), ((sev_cells ((SPR.spl (SPR.drew HQ.out)).get 2 rfl)).2.2.2.2.2.2.1), (SPR.drew HQ.out)⟩ (fun hHeld => ?_)
      refine pure_ (i := 0) (N := some 71) (v := ?_) (a' := ?_) #[true, false, false, false, false, false, false, false, false, false, false, false, false, false, false, false, false] rfl rfl (by kernel_rfl) (fun _ _ _ h => h) (Or.inl ⟨by rfl, ?_⟩) ?_ ?_
      rotate_left
      · intro w'
        go_simp
        with_reducible rfl
      rotate_left
      · simp only [Act.put, List.setIfInBounds_toArray, List.set_cons_zero, List.set_cons_succ, i64_w, i32_w]
        rfl
      refine take_ (i := 1) (N := some 72) (v := ?_) (a' := ?_) #[true, true, false, false, false, false, false, false, false, false, false, false, false, false, false, false, false] rfl rfl (by kernel_rfl) (fun _ _ _ h => h) (Or.inl ⟨by rfl, ?_⟩) hHeld ?_ ?_
      rotate_left
      · rintro w' ⟨s0, s1, s2, s3, s4, s5, s6, s7, s8, s9, s10, s11, s12, s13, s14, s15⟩
        go_simp
        with_reducible rfl
      rotate_left
      · simp only [Act.put, List.setIfInBounds_toArray, List.set_cons_zero, List.set_cons_succ, i64_w, i32_w]
        rfl
      refine pure_ (i := 2) (N := some 73) (v := ?_) (a' := ?_) #[true, true, true, false, false, false, false, false, false, false, false, false, false, false, false, false, false] rfl rfl (by kernel_rfl) (fun _ _ _ h => h) (Or.inl ⟨by rfl, ?_⟩) ?_ ?_
      rotate_left
      · intro w'
        go_simp
        with_reducible rfl
      rotate_left
      · simp only [Act.put, List.setIfInBounds_toArray, List.set_cons_zero, List.set_cons_succ, i64_w, i32_w]
        rfl
      refine pure_ (i := 3) (N := some 74) (v := ?_) (a' := ?_) #[true, true, true, true, false, false, false, false, false, false, false, false, false, false, false, false, false] rfl rfl (by kernel_rfl) (fun _ _ _ h => h) (Or.inl ⟨by rfl, ?_⟩) ?_ ?_
      rotate_left
      · intro w'
        go_simp
        with_reducible rfl
      rotate_left
      · simp only [Act.put, List.setIfInBounds_toArray, List.set_cons_zero, List.set_cons_succ, i64_w, i32_w]
        rfl
      refine pure_ (i := 4) (N := some 75) (v := ?_) (a' := ?_) #[true, true, true, true, true, false, false, false, false, false, false, false, false, false, false, false, false] rfl rfl (by kernel_rfl) (fun _ _ _ h => h) (Or.inl ⟨by rfl, ?_⟩) ?_ ?_
      rotate_left
      · intro w'
        go_simp
        with_reducible rfl
      rotate_left
      · simp only [Act.put, List.setIfInBounds_toArray, List.set_cons_zero, List.set_cons_succ, i64_w, i32_w]
        rfl
      refine pure_ (i := 7) (N := some 78) (v := ?_) (a' := ?_) #[true, true, true, true, true, false, false, true, false, false, false, false, false, false, false, false, false] rfl rfl (by kernel_rfl) (fun _ _ _ h => h) (Or.inl ⟨by rfl, ?_⟩) ?_ ?_
      rotate_left
      · intro w'
        go_simp
        with_reducible rfl
      rotate_left
      · simp only [Act.put, List.setIfInBounds_toArray, List.set_cons_zero, List.set_cons_succ, i64_w, i32_w]
        rfl
      refine pure_ (i := 9) (N := some 80) (v := ?_) (a' := ?_) #[true, true, true, true, true, false, false, true, false, true, false, false, false, false, false, false, false] rfl rfl (by kernel_rfl) (fun _ _ _ h => h) (Or.inl ⟨by rfl, ?_⟩) ?_ ?_
      rotate_left
      · intro w'
        go_simp
        with_reducible rfl
      rotate_left
      · simp only [Act.put, List.setIfInBounds_toArray, List.set_cons_zero, List.set_cons_succ, i64_w, i32_w]
        rfl
      refine take_ (i := 5) (N := some 76) (v := ?_) (a' := ?_) #[true, true, true, true, true, true, false, true, false, true, false, false, false, false, false, false, false] rfl rfl (by kernel_rfl) (fun _ _ _ h => h) (Or.inl ⟨by rfl, ?_⟩) hHeld ?_ ?_
      rotate_left
      · rintro w' ⟨s0, s1, s2, s3, s4, s5, s6, s7, s8, s9, s10, s11, s12, s13, s14, s15⟩
        go_simp
        with_reducible rfl
      rotate_left
      · simp only [Act.put, List.setIfInBounds_toArray, List.set_cons_zero, List.set_cons_succ, i64_w, i32_w]
        rfl
      refine take_ (i := 8) (N := some 79) (v := ?_) (a' := ?_) #[true, true, true, true, true, true, false, true, true, true, false, false, false, false, false, false, false] rfl rfl (by kernel_rfl) (fun _ _ _ h => h) (Or.inl ⟨by rfl, ?_⟩) hHeld ?_ ?_
      rotate_left
      · rintro w' ⟨s0, s1, s2, s3, s4, s5, s6, s7, s8, s9, s10, s11, s12, s13, s14, s15⟩
        go_simp
        with_reducible rfl
      rotate_left
      · simp only [Act.put, List.setIfInBounds_toArray, List.set_cons_zero, List.set_cons_succ, i64_w, i32_w]
        rfl
      refine take_ (i := 10) (N := some 81) (v := ?_) (a' := ?_) #[true, true, true, true, true, true, false, true, true, true, true, false, false, false, false, false, false] rfl rfl (by kernel_rfl) (fun _ _ _ h => h) (Or.inl ⟨by rfl, ?_⟩) hHeld ?_ ?_
      rotate_left
      · rintro w' ⟨s0, s1, s2, s3, s4, s5, s6, s7, s8, s9, s10, s11, s12, s13, s14, s15⟩
        go_simp
        with_reducible rfl
      rotate_left
      · simp only [Act.put, List.setIfInBounds_toArray, List.set_cons_zero, List.set_cons_succ, i64_w, i32_w]
        rfl
      refine pure_ (i := 11) (N := some 82) (v := ?_) (a' := ?_) #[true, true, true, true, true, true, false, true, true, true, true, true, false, false, false, false, false] rfl rfl (by kernel_rfl) (fun _ _ _ h => h) (Or.inl ⟨by rfl, ?_⟩) ?_ ?_
      rotate_left
      · intro w'
        go_simp
        with_reducible rfl
      rotate_left
      · simp only [Act.put, List.setIfInBounds_toArray, List.set_cons_zero, List.set_cons_succ, i64_w, i32_w]
        rfl
      refine pure_ (i := 12) (N := some 83) (v := ?_) (a' := ?_) #[true, true, true, true, true, true, false, true, true, true, true, true, true, false, false, false, false] rfl rfl (by kernel_rfl) (fun _ _ _ h => h) (Or.inl ⟨by rfl, ?_⟩) ?_ ?_
      rotate_left
      · intro w'
        go_simp
        with_reducible rfl
      rotate_left
      · simp only [Act.put, List.setIfInBounds_toArray, List.set_cons_zero, List.set_cons_succ, i64_w, i32_w]
        rfl
      refine one_ (i := 6) (N := some 77) #[true, true, true, true, true, true, true, true, true, true, true, true, true, false, false, false, false] rfl rfl (by kernel_rfl) (by decide) (fun K hK => ?_)
      refine goes_ Tryz.func35 (by kernel_rfl) rfl #[.agg #[.int .i64 x1.f0, .int .i64 x1.f1, .string x1.f2, .slice B3x x1.f3.length d3x, .slice B4x x1.f4.length d4x, .slice B5x x1.f5.length d5x]] (by rfl) rfl rfl (by simp only [List.map_toArray, List.map_cons, List.map_nil]; rfl) ?_
      with_reducible refine ((HLN.out _ _ _ (hHeld.2.2.2.2.2.2.2.2.2.2.2.2.2.2.2) 0 rfl)).mono ?_
      rintro e w21 ⟨cs, rfl, hz1⟩
      obtain ⟨B3z, d3z, B4z, d4z, B5z, d5z, rfl⟩ := hz1.cells 1 rfl
      refine ⟨_, rfl, ?_⟩
      have hz2 := SPR.cut hz1
      refine hK.out _ _ ⟨((six_cells ((SPR.spl hz2).get 0 rfl)).1), ((six_cells ((SPR.spl hz2).get 0 rfl)).2.1), ((six_cells ((SPR.spl hz2).get 0 rfl)).2.2.1), ((six_cells ((SPR.spl hz2).get 0 rfl)).2.2.2.1), ((six_cells ((SPR.spl hz2).get 0 rfl)).2.2.2.2.1), ((six_cells ((SPR.spl hz2).get 0 rfl)).2.2.2.2.2.1), ((two_cells ((SPR.spl hz2).get 1 rfl)).1), ((two_cells ((SPR.spl hz2).get 1 rfl)).2.1), ((sev_cells ((SPR.spl hz2).get 2 rfl)).1), ((sev_cells ((SPR.spl hz2).get 2 rfl)).2.1), ((sev_cells ((SPR.spl hz2).get 2 rfl)).2.2.1), ((sev_cells ((SPR.spl hz2).get 2 rfl)).2.2.2.1), ((sev_cells ((SPR.spl hz2).get 2 rfl)).2.2.2.2.1), ((sev_cells ((SPR.spl hz2).get 2 rfl)).2.2.2.2.2.1), ((sev_cells ((SPR.spl hz2).get 2 rfl)).2.2.2.2.2.2.1), hz2⟩ (fun hHeld => ?_)
      clear hK K
      refine norm_ (a' := ?_) ?_ ?_
      rotate_left
      · show Act.put _ (some 77) _ = _
        simp only [Act.put, List.setIfInBounds_toArray, List.set_cons_zero, List.set_cons_succ, i64_w, i32_w]
        rfl
      refine one_ (i := 13) (N := some 84) #[true, true, true, true, true, true, true, true, true, true, true, true, true, true, false, false, false] rfl rfl (by kernel_rfl) (by decide) (fun K hK => ?_)
      refine goes_ Tryz.func34 (by kernel_rfl) rfl #[.int .i64 (max 0 (wrap64 (q - p)))] (by rfl) rfl rfl (by simp only [List.map_toArray, List.map_cons, List.map_nil]; rfl) ?_
      with_reducible refine ((HN3.out _)).mono ?_
      rintro e w22 ⟨rfl, hb⟩
      refine ⟨_, rfl, ?_⟩
      have hz3 := SPR.below hz2 hb
      have hz4 := SPR.below hz1 hb
      refine hK.out _ _ ⟨((six_cells ((SPR.spl hz3).get 0 rfl)).1), ((six_cells ((SPR.spl hz3).get 0 rfl)).2.1), ((six_cells ((SPR.spl hz3).get 0 rfl)).2.2.1), ((six_cells ((SPR.spl hz3).get 0 rfl)).2.2.2.1), ((six_cells ((SPR.spl hz3).get 0 rfl)).2.2.2.2.1), ((six_cells ((SPR.spl hz3).get 0 rfl)).2.2.2.2.2.1), ((two_cells ((SPR.spl hz3).get 1 rfl)).1), ((two_cells ((SPR.spl hz3).get 1 rfl)).2.1), ((sev_cells ((SPR.spl hz3).get 2 rfl)).1), ((sev_cells ((SPR.spl hz3).get 2 rfl)).2.1), ((sev_cells ((SPR.spl hz3).get 2 rfl)).2.2.1), ((sev_cells ((SPR.spl hz3).get 2 rfl)).2.2.2.1), ((sev_cells ((SPR.spl hz3).get 2 rfl)).2.2.2.2.1), ((sev_cells ((SPR.spl hz3).get 2 rfl)).2.2.2.2.2.1), ((sev_cells ((SPR.spl hz3).get 2 rfl)).2.2.2.2.2.2.1), hz3⟩ (fun hHeld => ?_)
      clear hK K
      refine norm_ (a' := ?_) ?_ ?_
      rotate_left
      · show Act.put _ (some 84) _ = _
        simp only [Act.put, List.setIfInBounds_toArray, List.set_cons_zero, List.set_cons_succ, i64_w, i32_w]
        rfl
      refine one_ (i := 14) (N := some 85) #[true, true, true, true, true, true, true, true, true, true, true, true, true, true, true, false, false] rfl rfl (by kernel_rfl) (by decide) (fun K hK => ?_)
      refine goes_ Tryz.func19 (by kernel_rfl) rfl #[.agg #[.int .i64 x2.f0, .int .i64 x2.f1, .string x2.f2, .slice B3z x2.f3.length d3z, .slice B4z x2.f4.length d4z, .slice B5z x2.f5.length d5z, .int .i64 0], .agg #[.int .i64 3, .int .i64 (2 * max 0 (cl m2 N - cl m1 N)), .string ⟨#[]⟩, .slice none 0 0, .slice none 0 0, .slice none 0 0]] (by rfl) rfl rfl (by simp only [List.map_toArray, List.map_cons, List.map_nil]; rfl) ?_
      with_reducible refine ((HG.out _ hz4)).mono ?_
      rintro e w23 ⟨rfl, hb⟩
      refine ⟨_, rfl, ?_⟩
      have hz5 := SPR.below hz3 hb
      refine hK.out _ _ ⟨((six_cells ((SPR.spl hz5).get 0 rfl)).1), ((six_cells ((SPR.spl hz5).get 0 rfl)).2.1), ((six_cells ((SPR.spl hz5).get 0 rfl)).2.2.1), ((six_cells ((SPR.spl hz5).get 0 rfl)).2.2.2.1), ((six_cells ((SPR.spl hz5).get 0 rfl)).2.2.2.2.1), ((six_cells ((SPR.spl hz5).get 0 rfl)).2.2.2.2.2.1), ((two_cells ((SPR.spl hz5).get 1 rfl)).1), ((two_cells ((SPR.spl hz5).get 1 rfl)).2.1), ((sev_cells ((SPR.spl hz5).get 2 rfl)).1), ((sev_cells ((SPR.spl hz5).get 2 rfl)).2.1), ((sev_cells ((SPR.spl hz5).get 2 rfl)).2.2.1), ((sev_cells ((SPR.spl hz5).get 2 rfl)).2.2.2.1), ((sev_cells ((SPR.spl hz5).get 2 rfl)).2.2.2.2.1), ((sev_cells ((SPR.spl hz5).get 2 rfl)).2.2.2.2.2.1), ((sev_cells ((SPR.spl hz5).get 2 rfl)).2.2.2.2.2.2.1), hz5⟩ (fun hHeld => ?_)
      clear hK K
      refine norm_ (a' := ?_) ?_ ?_
      rotate_left
      · show Act.put _ (some 85) _ = _
        simp only [Act.put, List.setIfInBounds_toArray, List.set_cons_zero, List.set_cons_succ, i64_w, i32_w]
        rfl
      refine pure_ (i := 15) (N := some 86) (v := ?_) (a' := ?_) #[true, true, true, true, true, true, true, true, true, true, true, true, true, true, true, true, false] rfl rfl (by kernel_rfl) (fun _ _ _ h => h) (Or.inl ⟨by rfl, ?_⟩) ?_ ?_
      rotate_left
      · intro w'
        go_simp
        with_reducible rfl
      rotate_left
      · simp only [Act.put, List.setIfInBounds_toArray, List.set_cons_zero, List.set_cons_succ, i64_w, i32_w]
        rfl
      refine pure_ (i := 16) (N := some 6) (v := ?_) (a' := ?_) #[true, true, true, true, true, true, true, true, true, true, true, true, true, true, true, true, true] rfl rfl (by kernel_rfl) (fun _ _ _ h => h) (Or.inl ⟨by rfl, ?_⟩) ?_ ?_
      rotate_left
      · intro w'
        go_simp
        with_reducible rfl
      rotate_left
      · simp only [Act.put, List.setIfInBounds_toArray, List.set_cons_zero, List.set_cons_succ, i64_w, i32_w]
        rfl
      refine done_ (by kernel_rfl) ?_
      go_wp2_with fail
      go_ret
      exact ⟨rfl, hz5.bel⟩
set_option maxRecDepth 100000 in
set_option maxHeartbeats 20000000 in
theorem fnSliceLength_5 (w0 : World) (hE : Env w0) (x : V) (hz : Sz x) (K H : Int) (s : ByteArray) (A3 A4 A5 : Option Addr) (n3 c3 n4 c4 n5 c5 : Nat) (hK : k26.K w0 x [.int .i64 K, .int .i64 H, .string s, .slice A3 n3 c3, .slice A4 n4 c4, .slice A5 n5 c5]) (m1 : Int) (zm1 : (Lit.int .i8 m1).wf = true) (m2 : Int) (zm2 : (Lit.int .i8 m2).wf = true) (hk : x.f0 = 5) :
    Calls Tryz.prog 10 #[.agg #[.int .i64 K, .int .i64 H, .string s, .slice A3 n3 c3, .slice A4 n4 c4, .slice A5 n5 c5], .int .i8 m1, .int .i8 m2] w0 fun e w' => e = .returned (.bool true) ∧ Below w0.heap.size w0 w' := by
  have HKX := Lib.hid hk
  clear hk
  obtain ⟨w, hw⟩ : ∃ w, w = w0 := ⟨_, rfl⟩
  obtain ⟨B3, e3, B4, e4, B5, e5, he, l3, g3, l4, g4, l5, g5⟩ := k26_open hK
  simp only [List.cons.injEq, Value.int.injEq, Value.string.injEq, Value.slice.injEq, true_and, and_true] at he
  obtain ⟨rfl, rfl, rfl, ⟨rfl, rfl, rfl⟩, ⟨rfl, rfl, rfl⟩, ⟨rfl, rfl, rfl⟩⟩ := he
  clear l3 g3 l4 g4 l5 g5
  have bm1 := i8_in zm1
  have bm2 := i8_in zm2
  clear zm1 zm2
  have HZ := Lib.hid hz
  have HF1 := Lib.hid (fun w1 hb => fits1_size w0 x x.f0 x.f1 x.f2 A3 A4 A5 x.f3.length c3 x.f4.length c4 x.f5.length c5 hK w1 hb)
  have HF := Lib.hid (fun w1 g (hg : g = w1.heap.size) hb => fits_at w0 hE hz hK w1 g hg hb)
  have HT := Lib.hid (fun h => toGo_any w0 _ x (Nat.lt_succ_self _) hz h _ hK)
  have HNU := Lib.hid (fun n w => number_any n w)
  have HKW := Lib.hid hK
  clear hE hz hK
  subst hw
  go_enter Tryz.func10, Tryz.ntmps10
  go_wp2_with fail
  obtain ⟨V, hV⟩ : ∃ V, V = w.heap.size := ⟨_, rfl⟩
  obtain ⟨W0, hW0⟩ : ∃ W0, W0 = w.alloc (.cells #[.int .i64 x.f0, .int .i64 x.f1, .string x.f2, .slice A3 x.f3.length c3, .slice A4 x.f4.length c4, .slice A5 x.f5.length c5] 26) := ⟨_, rfl⟩
  have hS0 : SPR w [(V, cv x A3 c3 A4 c4 A5 c5, 26)] [] W0 := by rw [hV, hW0]; exact (spr0 (Below.refl _ w)).more _ _
  rw [← hW0]
  try rw [← hV]
  have H0 := Lib.hid hS0
  clear hS0 hW0 hV
  have y := six_cells (H0.out.get 0 rfl)
  try go_wp2_with fail
  refine (HF1.out W0 H0.out.bel).mono ?_
  rintro e w1 ⟨r, rfl, hr, hb⟩
  have H1 := Lib.hid (H0.out.below hb)
  clear hb H0 y HF1
  cases r with
  | false =>
    go_wp2_with fail
    go_ret
    exact ⟨rfl, H1.out.bel⟩
  | true =>
  have SZ := Lib.hid (hr (by trivial))
  clear hr
  have y := six_cells (H1.out.get 0 rfl)
  go_wp2_with fail
  refine (HF.out w1 _ rfl H1.out.bel).mono ?_
  rintro e w2 ⟨r, rfl, hr, hb⟩
  have H2 := Lib.hid (((H1.out.more _ _).below hb).tk 1 0)
  clear hb H1 HF y
  have ya := six_cells (H2.out.get 0 rfl)
  cases r with
  | false =>
    go_wp2_with fail
    go_ret
    exact ⟨rfl, H2.out.bel⟩
  | true =>
  have HW := Lib.hid (hr (by trivial))
  clear hr
  have hk : x.f0 = 4 ∨ x.f0 = 5 := Or.inr HKX.out
  have q3 : (x.f0 != 5) = false := by rw [HKX.out]; rfl
  have HT := Lib.hid (HT.out (loose HW.out))
  have HWL := Lib.hid (loose HW.out)
  obtain ⟨gc, ob, hconv⟩ := runes_run x.f2 SZ.out
  obtain ⟨N, hN⟩ : ∃ N, N = lenV x := ⟨_, rfl⟩
  have hN0 : N = x.f3.length + runeCount x.f2 ∧ N ≤ 2147483647 := by
    have hs := wf_shape HWL.out
    have hn := wf_n3 HW.out
    have hr := runeCount_le x.f2
    have hsz := SZ.out
    have hkx := HKX.out
    rw [hN]
    unfold lenV
    have h3 : x.f2 = ⟨#[]⟩ := hs.2.1 (by omega)
    have h4 : runeCount x.f2 = 0 := by rw [h3]; rfl
    rw [if_neg (by omega), h4]
    omega
  have eN : wrap64 ((x.f3.length : Int) + (runeCount x.f2 : Int)) = (N : Int) := by unfold wrap64; omega
  obtain ⟨x1, hx1⟩ : ∃ x1, x1 = slV x (some m1) (some m2) := ⟨_, rfl⟩
  obtain ⟨x2, hx2⟩ : ∃ x2, x2 = aV (some (lenV x1 : Int)) := ⟨_, rfl⟩
  have HX1 : Hid (WL x1 ∧ Sz x1 ∧ (x1.f0 = 4 ∨ x1.f0 = 5) ∧ x1.f2.size ≤ 2147483647) := Lib.hid (by rw [hx1]; exact ⟨part_wl HWL.out _ _, part_sz HZ.out _ _, by unfold slV; rw [part_f0 hk]; exact hk, part_size _ _ _ SZ.out⟩)
  have HD : Hid (x2 = aV (some (max 0 (cl m2 N - cl m1 N)))) := Lib.hid (by rw [hx2, hx1, slice_lenV hk, hN])
  have HB0 : Hid ((0 ≤ cl m1 N ∧ cl m1 N ≤ N) ∧ (0 ≤ cl m2 N ∧ cl m2 N ≤ N) ∧ N ≤ 2147483647 ∧ (-128 ≤ m1 ∧ m1 ≤ 127) ∧ (-128 ≤ m2 ∧ m2 ≤ 127)) := Lib.hid ⟨@cl_in m1 N (by omega), @cl_in m2 N (by omega), hN0.2, bm1, bm2⟩
  have HSA : Hid (∀ L rs w1, SPR w L rs w1 → Calls Tryz.prog 33 #[.agg #[.int .i64 x.f0, .int .i64 x.f1, .string x.f2, .slice A3 x.f3.length c3, .slice A4 x.f4.length c4, .slice A5 x.f5.length c5], .agg #[.int .i64 3, .int .i64 (2 * m1), .string ⟨#[]⟩, .slice none 0 0, .slice none 0 0, .slice none 0 0], .agg #[.int .i64 3, .int .i64 (2 * m2), .string ⟨#[]⟩, .slice none 0 0, .slice none 0 0, .slice none 0 0]] w1 fun e w' => ∃ cs, e = .returned (.agg cs) ∧ SPR w L (rs ++ [(x1, cs)]) w') := Lib.hid (by
    intro L rs w1 h
    rw [hx1]
    exact slice_resV w HT.out HWL.out HZ.out hk SZ.out (some m1) (some m2) (tiny_some (by omega) (by omega)) (tiny_some (by omega) (by omega)) h h.bel)
  have HLN : Hid (∀ L rs w1, SPR w L rs w1 → ∀ {B3 B4 B5 : Option Addr} {d3 d4 d5 : Nat} (i : Nat), rs[i]? = some (x1, #[.int .i64 x1.f0, .int .i64 x1.f1, .string x1.f2, .slice B3 x1.f3.length d3, .slice B4 x1.f4.length d4, .slice B5 x1.f5.length d5, .int .i64 0]) → Calls Tryz.prog 35 #[.agg #[.int .i64 x1.f0, .int .i64 x1.f1, .string x1.f2, .slice B3 x1.f3.length d3, .slice B4 x1.f4.length d4, .slice B5 x1.f5.length d5]] w1 fun e w' => ∃ cs, e = .returned (.agg cs) ∧ SPR w L (rs ++ [(x2, cs)]) w') := Lib.hid (by
    intro L rs w1 h B3 B4 B5 d3 d4 d5 i hi
    rw [hx2]
    exact length_res w1 (h.toGo i hi HX1.out.1 HX1.out.2.1) HX1.out.1 HX1.out.2.2.1 HX1.out.2.2.2 h (Below.refl _ _))
  have HE : Hid (wrap64 m1 = m1 ∧ wrap64 m2 = m2 ∧ wrap64 (2 * m1) = 2 * m1 ∧ wrap64 (2 * m2) = 2 * m2) := Lib.hid ⟨by unfold wrap64; omega, by unfold wrap64; omega, by unfold wrap64; omega, by unfold wrap64; omega⟩
  have f1 := HE.out.1
  have f2 := HE.out.2.1
  clear hx1 hx2 bm1 bm2 hk hN hN0
  go_wp2_with fail
  obtain ⟨E, hE⟩ : ∃ E, E = w2.heap.size + 1 := ⟨_, rfl⟩
  obtain ⟨W3, hW3⟩ : ∃ W3, W3 = ((w2.alloc (ob w2)).alloc (.cells #[.int .i64 m1, .int .i64 m2] 56)).drew := ⟨_, rfl⟩
  have hS3 : SPR w [(V, cv x A3 c3 A4 c4 A5 c5, 26), (E, #[.int .i64 m1, .int .i64 m2], 56)] [] W3 := by
    rw [hW3, hE, show w2.heap.size + 1 = (w2.alloc (ob w2)).heap.size from (World.size_alloc _ _).symm]
    exact ((H2.out.below ((Below.refl _ w2).alloc (Nat.le_refl _) (ob w2))).more _ _).drew
  rw [← hW3, ← hE, eN]
  have H3 := Lib.hid (show RE4 w (V, #[.int .i64 x.f0, .int .i64 x.f1, .string x.f2, .slice A3 x.f3.length c3, .slice A4 x.f4.length c4, .slice A5 x.f5.length c5], 26) E m1 m2 N 2 (.int .i64 ((0 : Nat) : Int)) W3 from ⟨0, m1, m2, rfl, rfl, hS3, by simp, by simp⟩)
  clear hS3 hW3 hE eN f1 f2 ya hconv H2
  go_loopg [41] 2 (fun k i wr => RE4 w (V, #[.int .i64 x.f0, .int .i64 x.f1, .string x.f2, .slice A3 x.f3.length c3, .slice A4 x.f4.length c4, .slice A5 x.f5.length c5], 26) E m1 m2 N k i wr)
  case atStart => exact H3.out
  case round =>
    clear H3
    obtain ⟨j, p, q, rfl, hkj, hS, hp, hq⟩ := hrel
    have hj : j = 0 ∨ j = 1 ∨ j = 2 := by omega
    rcases hj with rfl | rfl | rfl
    · obtain rfl : m1 = p := by simpa using hp.symm
      obtain rfl : m2 = q := by simpa using hq.symm
      have HR := Lib.hid hS
      have HK := Lib.hid hkj
      clear hS hp hq hkj
      by_cases c : m1 < 0
      · have d : decide (m1 < 0) = true := decide_eq_true c
        have HX := Lib.hid c
        clear c
        obtain ⟨y0, y1, f0, f1⟩ := two_cells (HR.out.get 1 rfl)
        go_wp2_with fail
        go_roundg (gk - 1)
        case measure => have := HK.out; omega
        case rel => exact ⟨1, _, _, rfl, by have := HK.out; omega, (HR.out.set1 1 rfl 0 (.int .i64 (wrap64 (m1 + (N : Int))))).set1 1 rfl 0 (.int .i64 (min (max (wrap64 (m1 + (N : Int))) 0) (N : Int))), by rw [if_pos (by omega)]; unfold cl; rw [if_pos (by have := HX.out; omega), show wrap64 (m1 + (N : Int)) = m1 + (N : Int) by have := HB0.out; unfold wrap64; omega], by simp⟩
      · have d : decide (m1 < 0) = false := decide_eq_false c
        have HX := Lib.hid c
        clear c
        obtain ⟨y0, y1, f0, f1⟩ := two_cells (HR.out.get 1 rfl)
        go_wp2_with fail
        go_roundg (gk - 1)
        case measure => have := HK.out; omega
        case rel => exact ⟨1, _, _, rfl, by have := HK.out; omega, HR.out.set1 1 rfl 0 (.int .i64 (min (max (m1) 0) (N : Int))), by rw [if_pos (by omega)]; unfold cl; rw [if_neg (by have := HX.out; omega)], by simp⟩
    · have hp' : p = cl m1 N := by simpa using hp
      obtain rfl : m2 = q := by simpa using hq.symm
      have HR := Lib.hid hS
      have HK := Lib.hid (And.intro hkj hp')
      clear hS hp hq hkj hp'
      by_cases c : m2 < 0
      · have d : decide (m2 < 0) = true := decide_eq_true c
        have HX := Lib.hid c
        clear c
        obtain ⟨y0, y1, f0, f1⟩ := two_cells (HR.out.get 1 rfl)
        go_wp2_with fail
        go_roundg (gk - 1)
        case measure => have := HK.out.1; omega
        case rel => exact ⟨2, _, _, rfl, by have := HK.out.1; omega, (HR.out.set1 1 rfl 1 (.int .i64 (wrap64 (m2 + (N : Int))))).set1 1 rfl 1 (.int .i64 (min (max (wrap64 (m2 + (N : Int))) 0) (N : Int))), by rw [if_pos (by omega)]; exact HK.out.2, by rw [if_pos (by omega)]; unfold cl; rw [if_pos (by have := HX.out; omega), show wrap64 (m2 + (N : Int)) = m2 + (N : Int) by have := HB0.out; unfold wrap64; omega]⟩
      · have d : decide (m2 < 0) = false := decide_eq_false c
        have HX := Lib.hid c
        clear c
        obtain ⟨y0, y1, f0, f1⟩ := two_cells (HR.out.get 1 rfl)
        go_wp2_with fail
        go_roundg (gk - 1)
        case measure => have := HK.out.1; omega
        case rel => exact ⟨2, _, _, rfl, by have := HK.out.1; omega, HR.out.set1 1 rfl 1 (.int .i64 (min (max (m2) 0) (N : Int))), by rw [if_pos (by omega)]; exact HK.out.2, by rw [if_pos (by omega)]; unfold cl; rw [if_neg (by have := HX.out; omega)]⟩
    · have hp' : p = cl m1 N := by simpa using hp
      have hq' : q = cl m2 N := by simpa using hq
      have HL := Lib.hid hS
      have HPQ := Lib.hid (And.intro hp' hq')
      have hD : max 0 (wrap64 (q - p)) = max 0 (cl m2 N - cl m1 N) := by have := HB0.out; rw [hp', hq']; unfold wrap64; omega
      have HN3 : Hid (∀ w1, Calls Tryz.prog 34 #[.int .i64 (max 0 (wrap64 (q - p)))] w1 fun e w' => e = .returned (.agg #[.int .i64 3, .int .i64 (2 * max 0 (cl m2 N - cl m1 N)), .string ⟨#[]⟩, .slice none 0 0, .slice none 0 0, .slice none 0 0]) ∧ Below w1.heap.size w1 w') := Lib.hid (by
        intro w1
        rw [hD]
        have h := number_any (max 0 (cl m2 N - cl m1 N)) w1
        rw [show wrap64 (2 * max 0 (cl m2 N - cl m1 N)) = 2 * max 0 (cl m2 N - cl m1 N) by have := HB0.out; unfold wrap64; omega] at h
        exact h)
      clear hS hp hq hkj hp' hq' hD
      go_wp2_with fail
      have HN1 : Hid (∀ w1, Calls Tryz.prog 34 #[.int .i64 (wrap64 m1)] w1 fun e w' => e = .returned (.agg #[.int .i64 3, .int .i64 (2 * m1), .string ⟨#[]⟩, .slice none 0 0, .slice none 0 0, .slice none 0 0]) ∧ Below w1.heap.size w1 w') := Lib.hid (by
        intro w1
        have h := number_any m1 w1
        rw [HE.out.2.2.1] at h
        rw [HE.out.1]
        exact h)
      have HN2 : Hid (∀ w1, Calls Tryz.prog 34 #[.int .i64 (wrap64 m2)] w1 fun e w' => e = .returned (.agg #[.int .i64 3, .int .i64 (2 * m2), .string ⟨#[]⟩, .slice none 0 0, .slice none 0 0, .slice none 0 0]) ∧ Below w1.heap.size w1 w') := Lib.hid (by
        intro w1
        have h := number_any m2 w1
        rw [HE.out.2.2.2] at h
        rw [HE.out.2.1]
        exact h)
      have HSa : ∀ w', SPR w [(V, cv x A3 c3 A4 c4 A5 c5, 26), (E, #[.int .i64 p, .int .i64 q], 56)] [] w' → w'.cell? ⟨V, 0, none⟩ = some (.int .i64 x.f0) ∧ w'.cell? ⟨V, 1, none⟩ = some (.int .i64 x.f1) ∧ w'.cell? ⟨V, 2, none⟩ = some (.string x.f2) ∧ w'.cell? ⟨V, 3, none⟩ = some (.slice A3 x.f3.length c3) ∧ w'.cell? ⟨V, 4, none⟩ = some (.slice A4 x.f4.length c4) ∧ w'.cell? ⟨V, 5, none⟩ = some (.slice A5 x.f5.length c5) ∧ w'.cell? ⟨E, 0, none⟩ = some (.int .i64 p) ∧ w'.cell? ⟨E, 1, none⟩ = some (.int .i64 q) ∧ SPR w [(V, cv x A3 c3 A4 c4 A5 c5, 26), (E, #[.int .i64 p, .int .i64 q], 56)] [] w' := fun w' h => ⟨((six_cells ((SPR.spl h).get 0 rfl)).1), ((six_cells ((SPR.spl h).get 0 rfl)).2.1), ((six_cells ((SPR.spl h).get 0 rfl)).2.2.1), ((six_cells ((SPR.spl h).get 0 rfl)).2.2.2.1), ((six_cells ((SPR.spl h).get 0 rfl)).2.2.2.2.1), ((six_cells ((SPR.spl h).get 0 rfl)).2.2.2.2.2.1), ((two_cells ((SPR.spl h).get 1 rfl)).1), ((two_cells ((SPR.spl h).get 1 rfl)).2.1), h⟩
      refine start_ (n := 10) (S := fun w' => w'.cell? ⟨V, 0, none⟩ = some (.int .i64 x.f0) ∧ w'.cell? ⟨V, 1, none⟩ = some (.int .i64 x.f1) ∧ w'.cell? ⟨V, 2, none⟩ = some (.string x.f2) ∧ w'.cell? ⟨V, 3, none⟩ = some (.slice A3 x.f3.length c3) ∧ w'.cell? ⟨V, 4, none⟩ = some (.slice A4 x.f4.length c4) ∧ w'.cell? ⟨V, 5, none⟩ = some (.slice A5 x.f5.length c5) ∧ w'.cell? ⟨E, 0, none⟩ = some (.int .i64 p) ∧ w'.cell? ⟨E, 1, none⟩ = some (.int .i64 q) ∧ SPR w [(V, cv x A3 c3 A4 c4 A5 c5, 26), (E, #[.int .i64 p, .int .i64 q], 56)] [] w') (ds := []) #[false, false, false, false, false, false, false, false, false, false] (by kernel_rfl) rfl rfl (HSa _ (SPR.drew HL.out)) (fun hHeld => ?_)
      refine pure_ (i := 1) (N := some 64) (v := ?_) (a' := ?_) #[false, true, false, false, false, false, false, false, false, false] rfl rfl (by kernel_rfl) (fun _ _ _ h => h) (Or.inl ⟨by rfl, ?_⟩) ?_ ?_
      rotate_left
      · intro w'
        go_simp
        with_reducible rfl
      rotate_left
      · simp only [Act.put, List.setIfInBounds_toArray, List.set_cons_zero, List.set_cons_succ, i64_w, i32_w]
        rfl
      refine pure_ (i := 2) (N := some 65) (v := ?_) (a' := ?_) #[false, true, true, false, false, false, false, false, false, false] rfl rfl (by kernel_rfl) (fun _ _ _ h => h) (Or.inl ⟨by rfl, ?_⟩) ?_ ?_
      rotate_left
      · intro w'
        go_simp
        with_reducible rfl
      rotate_left
      · simp only [Act.put, List.setIfInBounds_toArray, List.set_cons_zero, List.set_cons_succ, i64_w, i32_w]
        rfl
      refine pure_ (i := 4) (N := some 67) (v := ?_) (a' := ?_) #[false, true, true, false, true, false, false, false, false, false] rfl rfl (by kernel_rfl) (fun _ _ _ h => h) (Or.inl ⟨by rfl, ?_⟩) ?_ ?_
      rotate_left
      · intro w'
        go_simp
        with_reducible rfl
      rotate_left
      · simp only [Act.put, List.setIfInBounds_toArray, List.set_cons_zero, List.set_cons_succ, i64_w, i32_w]
        rfl
      refine pure_ (i := 5) (N := some 68) (v := ?_) (a' := ?_) #[false, true, true, false, true, true, false, false, false, false] rfl rfl (by kernel_rfl) (fun _ _ _ h => h) (Or.inl ⟨by rfl, ?_⟩) ?_ ?_
      rotate_left
      · intro w'
        go_simp
        with_reducible rfl
      rotate_left
      · simp only [Act.put, List.setIfInBounds_toArray, List.set_cons_zero, List.set_cons_succ, i64_w, i32_w]
        rfl
      refine take_ (i := 0) (N := some 63) (v := ?_) (a' := ?_) #[true, true, true, false, true, true, false, false, false, false] rfl rfl (by kernel_rfl) (fun _ _ _ h => h) (Or.inl ⟨by rfl, ?_⟩) hHeld ?_ ?_
      rotate_left
      · rintro w' ⟨s0, s1, s2, s3, s4, s5, s6, s7, s8⟩
        go_simp
        with_reducible rfl
      rotate_left
      · simp only [Act.put, List.setIfInBounds_toArray, List.set_cons_zero, List.set_cons_succ, i64_w, i32_w]
        rfl
      refine join_ (σ := Nat × Array Value × Unit) 1 #[true, true, true, true, true, true, true, true, true, false] (fun s => [(66, .agg #[.int .i64 3, .int .i64 (2 * m1), .string ⟨#[]⟩, .slice none 0 0, .slice none 0 0, .slice none 0 0]), (69, .agg #[.int .i64 3, .int .i64 (2 * m2), .string ⟨#[]⟩, .slice none 0 0, .slice none 0 0, .slice none 0 0]), (70, .agg s.2.1), (10, .pointer (some ⟨s.1, 0, none⟩))]) (fun s w' => SPR w [(V, cv x A3 c3 A4 c4 A5 c5, 26), (E, #[.int .i64 p, .int .i64 q], 56), (s.1, z7, 30)] [(x1, s.2.1)] w') ?_ ?_
      rotate_left
      · intro hJ3_6_7_8
        refine join_ (σ := Array Value × Unit) 2 #[true, true, true, true, true, true, true, true, false, false] (fun s => [(66, .agg #[.int .i64 3, .int .i64 (2 * m1), .string ⟨#[]⟩, .slice none 0 0, .slice none 0 0, .slice none 0 0]), (69, .agg #[.int .i64 3, .int .i64 (2 * m2), .string ⟨#[]⟩, .slice none 0 0, .slice none 0 0, .slice none 0 0]), (70, .agg s.1)]) (fun s w' => SPR w [(V, cv x A3 c3 A4 c4 A5 c5, 26), (E, #[.int .i64 p, .int .i64 q], 56)] [(x1, s.1)] w') ?_ ?_
        rotate_left
        · intro hJ3_6_7
          refine join_ (σ := Nat × Unit) 2 #[true, true, true, true, true, true, true, false, true, false] (fun s => [(66, .agg #[.int .i64 3, .int .i64 (2 * m1), .string ⟨#[]⟩, .slice none 0 0, .slice none 0 0, .slice none 0 0]), (69, .agg #[.int .i64 3, .int .i64 (2 * m2), .string ⟨#[]⟩, .slice none 0 0, .slice none 0 0, .slice none 0 0]), (10, .pointer (some ⟨s.1, 0, none⟩))]) (fun s w' => SPR w [(V, cv x A3 c3 A4 c4 A5 c5, 26), (E, #[.int .i64 p, .int .i64 q], 56), (s.1, z7, 30)] [] w') ?_ ?_
          rotate_left
          · intro hJ3_6_8
            refine join_ (σ := Unit) 3 #[true, true, true, true, true, true, true, false, false, false] (fun s => [(66, .agg #[.int .i64 3, .int .i64 (2 * m1), .string ⟨#[]⟩, .slice none 0 0, .slice none 0 0, .slice none 0 0]), (69, .agg #[.int .i64 3, .int .i64 (2 * m2), .string ⟨#[]⟩, .slice none 0 0, .slice none 0 0, .slice none 0 0])]) (fun s w' => SPR w [(V, cv x A3 c3 A4 c4 A5 c5, 26), (E, #[.int .i64 p, .int .i64 q], 56)] [] w') ?_ ?_
            rotate_left
            · intro hJ3_6
              refine join_ (σ := Nat × Unit) 3 #[true, true, true, true, true, true, false, false, true, false] (fun s => [(66, .agg #[.int .i64 3, .int .i64 (2 * m1), .string ⟨#[]⟩, .slice none 0 0, .slice none 0 0, .slice none 0 0]), (10, .pointer (some ⟨s.1, 0, none⟩))]) (fun s w' => SPR w [(V, cv x A3 c3 A4 c4 A5 c5, 26), (E, #[.int .i64 p, .int .i64 q], 56), (s.1, z7, 30)] [] w') ?_ ?_
              rotate_left
              · intro hJ3_8
                refine join_ (σ := Unit) 4 #[true, true, true, true, true, true, false, false, false, false] (fun s => [(66, .agg #[.int .i64 3, .int .i64 (2 * m1), .string ⟨#[]⟩, .slice none 0 0, .slice none 0 0, .slice none 0 0])]) (fun s w' => SPR w [(V, cv x A3 c3 A4 c4 A5 c5, 26), (E, #[.int .i64 p, .int .i64 q], 56)] [] w') ?_ ?_
                rotate_left
                · intro hJ3
                  refine join_ (σ := Nat × Unit) 4 #[true, true, true, false, true, true, false, false, true, false] (fun s => [(10, .pointer (some ⟨s.1, 0, none⟩))]) (fun s w' => SPR w [(V, cv x A3 c3 A4 c4 A5 c5, 26), (E, #[.int .i64 p, .int .i64 q], 56), (s.1, z7, 30)] [] w') ?_ ?_
                  rotate_left
                  · intro hJ8
                    refine two_ (i := 3) (j := 8) (Ni := some 66) (Nj := some 10) #[true, true, true, true, true, true, false, false, false, false] #[true, true, true, false, true, true, false, false, true, false] rfl rfl rfl rfl (by kernel_rfl) (by decide) (by decide) (fun K hK => ?_) (fun K hK => ?_)
                    · skip
                      refine goes_ Tryz.func34 (by kernel_rfl) rfl #[.int .i64 (wrap64 m1)] (by rfl) rfl rfl (by simp only [List.map_toArray, List.map_cons, List.map_nil]; rfl) ?_
                      with_reducible refine ((HN1.out _)).mono ?_
                      rintro e wz ⟨rfl, hb⟩
                      refine ⟨_, rfl, ?_⟩
                      have hz := SPR.below (hHeld.2.2.2.2.2.2.2.2) hb
                      have hzb : SPR w [(V, cv x A3 c3 A4 c4 A5 c5, 26), (E, #[.int .i64 p, .int .i64 q], 56)] [] wz := SPR.tk 2 0 hz
                      refine hK.out _ _ (HSa _ hzb) (fun hHeld => ?_)
                      clear hK K
                      refine norm_ (a' := ?_) ?_ ?_
                      rotate_left
                      · show Act.put _ (some 66) _ = _
                        simp only [Act.put, List.setIfInBounds_toArray, List.set_cons_zero, List.set_cons_succ, i64_w, i32_w]
                        rfl
                      exact norm_ (by first | (simp only [putAll, Act.put, List.setIfInBounds_toArray, List.set_cons_zero, List.set_cons_succ]; done) | (simp only [putAll, Act.put, List.setIfInBounds_toArray, List.set_cons_zero, List.set_cons_succ]; rfl)) (hJ3 (()) _ hz)
                    · skip
                      refine freshR_ (c := #[.int .i64 0, .int .i64 0, .string ⟨#[]⟩, .slice none 0 0, .slice none 0 0, .slice none 0 0, .int .i64 0]) (t := 30) (hHeld.2.2.2.2.2.2.2.2) (by rfl) rfl ?_ ?_
                      · first | (go_simp; done) | (go_simp; rfl)
                      intro Ra8 wz hz
                      have hzb : SPR w [(V, cv x A3 c3 A4 c4 A5 c5, 26), (E, #[.int .i64 p, .int .i64 q], 56)] [] wz := SPR.tk 2 0 hz
                      refine hK.out _ _ (HSa _ hzb) (fun hHeld => ?_)
                      clear hK K
                      refine norm_ (a' := ?_) ?_ ?_
                      rotate_left
                      · show Act.put _ (some 10) _ = _
                        simp only [Act.put, List.setIfInBounds_toArray, List.set_cons_zero, List.set_cons_succ, i64_w, i32_w]
                        rfl
                      exact norm_ (by first | (simp only [putAll, Act.put, List.setIfInBounds_toArray, List.set_cons_zero, List.set_cons_succ]; done) | (simp only [putAll, Act.put, List.setIfInBounds_toArray, List.set_cons_zero, List.set_cons_succ]; rfl)) (hJ8 (Ra8, ()) _ hz)
                  · skip
                    rintro ⟨Ra8, _⟩ w' hF
                    change SPR w [(V, cv x A3 c3 A4 c4 A5 c5, 26), (E, #[.int .i64 p, .int .i64 q], 56), (Ra8, z7, 30)] [] w' at hF
                    have hFb : SPR w [(V, cv x A3 c3 A4 c4 A5 c5, 26), (E, #[.int .i64 p, .int .i64 q], 56)] [] w' := SPR.tk 2 0 hF
                    have hHeld := HSa _ hFb
                    clear hFb
                    refine norm_ (a' := ?_) ?_ ?_
                    rotate_left
                    · simp only [putAll, Act.put, List.setIfInBounds_toArray, List.set_cons_zero, List.set_cons_succ]
                      rfl
                    refine one_ (i := 3) (N := some 66) #[true, true, true, true, true, true, false, false, true, false] rfl rfl (by kernel_rfl) (by decide) (fun K hK => ?_)
                    refine goes_ Tryz.func34 (by kernel_rfl) rfl #[.int .i64 (wrap64 m1)] (by rfl) rfl rfl (by simp only [List.map_toArray, List.map_cons, List.map_nil]; rfl) ?_
                    with_reducible refine ((HN1.out _)).mono ?_
                    rintro e wz ⟨rfl, hb⟩
                    refine ⟨_, rfl, ?_⟩
                    have hz := SPR.below (hF) hb
                    have hzb : SPR w [(V, cv x A3 c3 A4 c4 A5 c5, 26), (E, #[.int .i64 p, .int .i64 q], 56)] [] wz := SPR.tk 2 0 hz
                    refine hK.out _ _ (HSa _ hzb) (fun hHeld => ?_)
                    clear hK K
                    refine norm_ (a' := ?_) ?_ ?_
                    rotate_left
                    · show Act.put _ (some 66) _ = _
                      simp only [Act.put, List.setIfInBounds_toArray, List.set_cons_zero, List.set_cons_succ, i64_w, i32_w]
                      rfl
                    exact norm_ (by first | (simp only [putAll, Act.put, List.setIfInBounds_toArray, List.set_cons_zero, List.set_cons_succ]; done) | (simp only [putAll, Act.put, List.setIfInBounds_toArray, List.set_cons_zero, List.set_cons_succ]; rfl)) (hJ3_8 (Ra8, ()) _ hz)
                · skip
                  rintro ⟨_⟩ w' hF
                  change SPR w [(V, cv x A3 c3 A4 c4 A5 c5, 26), (E, #[.int .i64 p, .int .i64 q], 56)] [] w' at hF
                  have hFb : SPR w [(V, cv x A3 c3 A4 c4 A5 c5, 26), (E, #[.int .i64 p, .int .i64 q], 56)] [] w' := SPR.tk 2 0 hF
                  have hHeld := HSa _ hFb
                  clear hFb
                  refine norm_ (a' := ?_) ?_ ?_
                  rotate_left
                  · simp only [putAll, Act.put, List.setIfInBounds_toArray, List.set_cons_zero, List.set_cons_succ]
                    rfl
                  refine two_ (i := 6) (j := 8) (Ni := some 69) (Nj := some 10) #[true, true, true, true, true, true, true, false, false, false] #[true, true, true, true, true, true, false, false, true, false] rfl rfl rfl rfl (by kernel_rfl) (by decide) (by decide) (fun K hK => ?_) (fun K hK => ?_)
                  · skip
                    refine goes_ Tryz.func34 (by kernel_rfl) rfl #[.int .i64 (wrap64 m2)] (by rfl) rfl rfl (by simp only [List.map_toArray, List.map_cons, List.map_nil]; rfl) ?_
                    with_reducible refine ((HN2.out _)).mono ?_
                    rintro e wz ⟨rfl, hb⟩
                    refine ⟨_, rfl, ?_⟩
                    have hz := SPR.below (hF) hb
                    have hzb : SPR w [(V, cv x A3 c3 A4 c4 A5 c5, 26), (E, #[.int .i64 p, .int .i64 q], 56)] [] wz := SPR.tk 2 0 hz
                    refine hK.out _ _ (HSa _ hzb) (fun hHeld => ?_)
                    clear hK K
                    refine norm_ (a' := ?_) ?_ ?_
                    rotate_left
                    · show Act.put _ (some 69) _ = _
                      simp only [Act.put, List.setIfInBounds_toArray, List.set_cons_zero, List.set_cons_succ, i64_w, i32_w]
                      rfl
                    exact norm_ (by first | (simp only [putAll, Act.put, List.setIfInBounds_toArray, List.set_cons_zero, List.set_cons_succ]; done) | (simp only [putAll, Act.put, List.setIfInBounds_toArray, List.set_cons_zero, List.set_cons_succ]; rfl)) (hJ3_6 (()) _ hz)
                  · skip
                    refine freshR_ (c := #[.int .i64 0, .int .i64 0, .string ⟨#[]⟩, .slice none 0 0, .slice none 0 0, .slice none 0 0, .int .i64 0]) (t := 30) (hF) (by rfl) rfl ?_ ?_
                    · first | (go_simp; done) | (go_simp; rfl)
                    intro Ra8 wz hz
                    have hzb : SPR w [(V, cv x A3 c3 A4 c4 A5 c5, 26), (E, #[.int .i64 p, .int .i64 q], 56)] [] wz := SPR.tk 2 0 hz
                    refine hK.out _ _ (HSa _ hzb) (fun hHeld => ?_)
                    clear hK K
                    refine norm_ (a' := ?_) ?_ ?_
                    rotate_left
                    · show Act.put _ (some 10) _ = _
                      simp only [Act.put, List.setIfInBounds_toArray, List.set_cons_zero, List.set_cons_succ, i64_w, i32_w]
                      rfl
                    exact norm_ (by first | (simp only [putAll, Act.put, List.setIfInBounds_toArray, List.set_cons_zero, List.set_cons_succ]; done) | (simp only [putAll, Act.put, List.setIfInBounds_toArray, List.set_cons_zero, List.set_cons_succ]; rfl)) (hJ3_8 (Ra8, ()) _ hz)
              · skip
                rintro ⟨Ra8, _⟩ w' hF
                change SPR w [(V, cv x A3 c3 A4 c4 A5 c5, 26), (E, #[.int .i64 p, .int .i64 q], 56), (Ra8, z7, 30)] [] w' at hF
                have hFb : SPR w [(V, cv x A3 c3 A4 c4 A5 c5, 26), (E, #[.int .i64 p, .int .i64 q], 56)] [] w' := SPR.tk 2 0 hF
                have hHeld := HSa _ hFb
                clear hFb
                refine norm_ (a' := ?_) ?_ ?_
                rotate_left
                · simp only [putAll, Act.put, List.setIfInBounds_toArray, List.set_cons_zero, List.set_cons_succ]
                  rfl
                refine one_ (i := 6) (N := some 69) #[true, true, true, true, true, true, true, false, true, false] rfl rfl (by kernel_rfl) (by decide) (fun K hK => ?_)
                refine goes_ Tryz.func34 (by kernel_rfl) rfl #[.int .i64 (wrap64 m2)] (by rfl) rfl rfl (by simp only [List.map_toArray, List.map_cons, List.map_nil]; rfl) ?_
                with_reducible refine ((HN2.out _)).mono ?_
                rintro e wz ⟨rfl, hb⟩
                refine ⟨_, rfl, ?_⟩
                have hz := SPR.below (hF) hb
                have hzb : SPR w [(V, cv x A3 c3 A4 c4 A5 c5, 26), (E, #[.int .i64 p, .int .i64 q], 56)] [] wz := SPR.tk 2 0 hz
                refine hK.out _ _ (HSa _ hzb) (fun hHeld => ?_)
                clear hK K
                refine norm_ (a' := ?_) ?_ ?_
                rotate_left
                · show Act.put _ (some 69) _ = _
                  simp only [Act.put, List.setIfInBounds_toArray, List.set_cons_zero, List.set_cons_succ, i64_w, i32_w]
                  rfl
                exact norm_ (by first | (simp only [putAll, Act.put, List.setIfInBounds_toArray, List.set_cons_zero, List.set_cons_succ]; done) | (simp only [putAll, Act.put, List.setIfInBounds_toArray, List.set_cons_zero, List.set_cons_succ]; rfl)) (hJ3_6_8 (Ra8, ()) _ hz)
            · skip
              rintro ⟨_⟩ w' hF
              change SPR w [(V, cv x A3 c3 A4 c4 A5 c5, 26), (E, #[.int .i64 p, .int .i64 q], 56)] [] w' at hF
              have hFb : SPR w [(V, cv x A3 c3 A4 c4 A5 c5, 26), (E, #[.int .i64 p, .int .i64 q], 56)] [] w' := SPR.tk 2 0 hF
              have hHeld := HSa _ hFb
              clear hFb
              refine norm_ (a' := ?_) ?_ ?_
              rotate_left
              · simp only [putAll, Act.put, List.setIfInBounds_toArray, List.set_cons_zero, List.set_cons_succ]
                rfl
              refine two_ (i := 7) (j := 8) (Ni := some 70) (Nj := some 10) #[true, true, true, true, true, true, true, true, false, false] #[true, true, true, true, true, true, true, false, true, false] rfl rfl rfl rfl (by kernel_rfl) (by decide) (by decide) (fun K hK => ?_) (fun K hK => ?_)
              · skip
                refine goes_ Tryz.func33 (by kernel_rfl) rfl #[.agg #[.int .i64 x.f0, .int .i64 x.f1, .string x.f2, .slice A3 x.f3.length c3, .slice A4 x.f4.length c4, .slice A5 x.f5.length c5], .agg #[.int .i64 3, .int .i64 (2 * m1), .string ⟨#[]⟩, .slice none 0 0, .slice none 0 0, .slice none 0 0], .agg #[.int .i64 3, .int .i64 (2 * m2), .string ⟨#[]⟩, .slice none 0 0, .slice none 0 0, .slice none 0 0]] (by rfl) rfl rfl (by simp only [List.map_toArray, List.map_cons, List.map_nil]; rfl) ?_
                with_reducible refine ((HSA.out _ _ _ (hF))).mono ?_
                rintro e wz ⟨u7, rfl, hz⟩
                refine ⟨_, rfl, ?_⟩
                have hzb : SPR w [(V, cv x A3 c3 A4 c4 A5 c5, 26), (E, #[.int .i64 p, .int .i64 q], 56)] [] wz := SPR.tk 2 0 hz
                refine hK.out _ _ (HSa _ hzb) (fun hHeld => ?_)
                clear hK K
                refine norm_ (a' := ?_) ?_ ?_
                rotate_left
                · show Act.put _ (some 70) _ = _
                  simp only [Act.put, List.setIfInBounds_toArray, List.set_cons_zero, List.set_cons_succ, i64_w, i32_w]
                  rfl
                exact norm_ (by first | (simp only [putAll, Act.put, List.setIfInBounds_toArray, List.set_cons_zero, List.set_cons_succ]; done) | (simp only [putAll, Act.put, List.setIfInBounds_toArray, List.set_cons_zero, List.set_cons_succ]; rfl)) (hJ3_6_7 (u7, ()) _ hz)
              · skip
                refine freshR_ (c := #[.int .i64 0, .int .i64 0, .string ⟨#[]⟩, .slice none 0 0, .slice none 0 0, .slice none 0 0, .int .i64 0]) (t := 30) (hF) (by rfl) rfl ?_ ?_
                · first | (go_simp; done) | (go_simp; rfl)
                intro Ra8 wz hz
                have hzb : SPR w [(V, cv x A3 c3 A4 c4 A5 c5, 26), (E, #[.int .i64 p, .int .i64 q], 56)] [] wz := SPR.tk 2 0 hz
                refine hK.out _ _ (HSa _ hzb) (fun hHeld => ?_)
                clear hK K
                refine norm_ (a' := ?_) ?_ ?_
                rotate_left
                · show Act.put _ (some 10) _ = _
                  simp only [Act.put, List.setIfInBounds_toArray, List.set_cons_zero, List.set_cons_succ, i64_w, i32_w]
                  rfl
                exact norm_ (by first | (simp only [putAll, Act.put, List.setIfInBounds_toArray, List.set_cons_zero, List.set_cons_succ]; done) | (simp only [putAll, Act.put, List.setIfInBounds_toArray, List.set_cons_zero, List.set_cons_succ]; rfl)) (hJ3_6_8 (Ra8, ()) _ hz)
          · skip
            rintro ⟨Ra8, _⟩ w' hF
            change SPR w [(V, cv x A3 c3 A4 c4 A5 c5, 26), (E, #[.int .i64 p, .int .i64 q], 56), (Ra8, z7, 30)] [] w' at hF
            have hFb : SPR w [(V, cv x A3 c3 A4 c4 A5 c5, 26), (E, #[.int .i64 p, .int .i64 q], 56)] [] w' := SPR.tk 2 0 hF
            have hHeld := HSa _ hFb
            clear hFb
            refine norm_ (a' := ?_) ?_ ?_
            rotate_left
            · simp only [putAll, Act.put, List.setIfInBounds_toArray, List.set_cons_zero, List.set_cons_succ]
              rfl
            refine one_ (i := 7) (N := some 70) #[true, true, true, true, true, true, true, true, true, false] rfl rfl (by kernel_rfl) (by decide) (fun K hK => ?_)
            refine goes_ Tryz.func33 (by kernel_rfl) rfl #[.agg #[.int .i64 x.f0, .int .i64 x.f1, .string x.f2, .slice A3 x.f3.length c3, .slice A4 x.f4.length c4, .slice A5 x.f5.length c5], .agg #[.int .i64 3, .int .i64 (2 * m1), .string ⟨#[]⟩, .slice none 0 0, .slice none 0 0, .slice none 0 0], .agg #[.int .i64 3, .int .i64 (2 * m2), .string ⟨#[]⟩, .slice none 0 0, .slice none 0 0, .slice none 0 0]] (by rfl) rfl rfl (by simp only [List.map_toArray, List.map_cons, List.map_nil]; rfl) ?_
            with_reducible refine ((HSA.out _ _ _ (hF))).mono ?_
            rintro e wz ⟨u7, rfl, hz⟩
            refine ⟨_, rfl, ?_⟩
            have hzb : SPR w [(V, cv x A3 c3 A4 c4 A5 c5, 26), (E, #[.int .i64 p, .int .i64 q], 56)] [] wz := SPR.tk 2 0 hz
            refine hK.out _ _ (HSa _ hzb) (fun hHeld => ?_)
            clear hK K
            refine norm_ (a' := ?_) ?_ ?_
            rotate_left
            · show Act.put _ (some 70) _ = _
              simp only [Act.put, List.setIfInBounds_toArray, List.set_cons_zero, List.set_cons_succ, i64_w, i32_w]
              rfl
            exact norm_ (by first | (simp only [putAll, Act.put, List.setIfInBounds_toArray, List.set_cons_zero, List.set_cons_succ]; done) | (simp only [putAll, Act.put, List.setIfInBounds_toArray, List.set_cons_zero, List.set_cons_succ]; rfl)) (hJ3_6_7_8 (Ra8, u7, ()) _ hz)
        · skip
          rintro ⟨cz7, _⟩ w' hF
          change SPR w [(V, cv x A3 c3 A4 c4 A5 c5, 26), (E, #[.int .i64 p, .int .i64 q], 56)] [(x1, cz7)] w' at hF
          obtain ⟨B3x, d3x, B4x, d4x, B5x, d5x, rfl⟩ := hF.cells 0 rfl
          have hFb : SPR w [(V, cv x A3 c3 A4 c4 A5 c5, 26), (E, #[.int .i64 p, .int .i64 q], 56)] [] w' := SPR.tk 2 0 hF
          have hHeld := HSa _ hFb
          clear hFb
          refine norm_ (a' := ?_) ?_ ?_
          rotate_left
          · simp only [putAll, Act.put, List.setIfInBounds_toArray, List.set_cons_zero, List.set_cons_succ]
            rfl
          refine one_ (i := 8) (N := some 10) #[true, true, true, true, true, true, true, true, true, false] rfl rfl (by kernel_rfl) (by decide) (fun K hK => ?_)
          refine freshR_ (c := #[.int .i64 0, .int .i64 0, .string ⟨#[]⟩, .slice none 0 0, .slice none 0 0, .slice none 0 0, .int .i64 0]) (t := 30) (hF) (by rfl) rfl ?_ ?_
          · first | (go_simp; done) | (go_simp; rfl)
          intro Ra8 wz hz
          have hzb : SPR w [(V, cv x A3 c3 A4 c4 A5 c5, 26), (E, #[.int .i64 p, .int .i64 q], 56)] [] wz := SPR.tk 2 0 hz
          refine hK.out _ _ (HSa _ hzb) (fun hHeld => ?_)
          clear hK K
          refine norm_ (a' := ?_) ?_ ?_
          rotate_left
          · show Act.put _ (some 10) _ = _
            simp only [Act.put, List.setIfInBounds_toArray, List.set_cons_zero, List.set_cons_succ, i64_w, i32_w]
            rfl
          exact norm_ (by first | (simp only [putAll, Act.put, List.setIfInBounds_toArray, List.set_cons_zero, List.set_cons_succ]; done) | (simp only [putAll, Act.put, List.setIfInBounds_toArray, List.set_cons_zero, List.set_cons_succ]; rfl)) (hJ3_6_7_8 (Ra8, #[.int .i64 x1.f0, .int .i64 x1.f1, .string x1.f2, .slice B3x x1.f3.length d3x, .slice B4x x1.f4.length d4x, .slice B5x x1.f5.length d5x, .int .i64 0], ()) _ hz)
      rintro ⟨Ra8, cz7, _⟩ w' hF
      change SPR w [(V, cv x A3 c3 A4 c4 A5 c5, 26), (E, #[.int .i64 p, .int .i64 q], 56), (Ra8, z7, 30)] [(x1, cz7)] w' at hF
      obtain ⟨B3x, d3x, B4x, d4x, B5x, d5x, rfl⟩ := hF.cells 0 rfl
      have hFb : SPR w [(V, cv x A3 c3 A4 c4 A5 c5, 26), (E, #[.int .i64 p, .int .i64 q], 56)] [] w' := SPR.tk 2 0 hF
      have hHeld := HSa _ hFb
      clear hFb
      refine norm_ (a' := ?_) ?_ ?_
      rotate_left
      · simp only [putAll, Act.put, List.setIfInBounds_toArray, List.set_cons_zero, List.set_cons_succ]
        rfl
      refine one_ (i := 9) (N := none) #[true, true, true, true, true, true, true, true, true, true] rfl rfl (by kernel_rfl) (by decide) (fun K hK => ?_)
      obtain ⟨y0, y1, y2, y3, y4, y5, y6, f0, f1, f2, f3, f4, f5, f6⟩ := sev_cells (SPR.get hF 2 rfl)
      refine put7R_ (v0 := .int .i64 x1.f0) (v1 := .int .i64 x1.f1) (v2 := .string x1.f2) (v3 := .slice B3x x1.f3.length d3x) (v4 := .slice B4x x1.f4.length d4x) (v5 := .slice B5x x1.f5.length d5x) (v6 := .int .i64 0) hF 2 rfl (by rfl) rfl ?_ ?_
      · first | (go_simp; done) | (go_simp; rfl)
      clear y0 y1 y2 y3 y4 y5 y6 f0 f1 f2 f3 f4 f5 f6
      intro wsa0 hsa0
      change SPR w [(V, cv x A3 c3 A4 c4 A5 c5, 26), (E, #[.int .i64 p, .int .i64 q], 56), (Ra8, rc x1 B3x d3x B4x d4x B5x d5x, 30)] [(x1, rc x1 B3x d3x B4x d4x B5x d5x)] wsa0 at hsa0
      have hzb : SPR w [(V, cv x A3 c3 A4 c4 A5 c5, 26), (E, #[.int .i64 p, .int .i64 q], 56)] [] wsa0 := SPR.tk 2 0 hsa0
      refine hK.out _ _ (HSa _ hzb) (fun hHeld => ?_)
      clear hK K
      refine done_ (by kernel_rfl) ?_
      have HQ := Lib.hid hsa0
      clear hsa0 hF hHeld
      have HG : Hid (∀ w1 {B3 B4 B5 : Option Addr} {d3 d4 d5 : Nat}, SPR w [(V, cv x A3 c3 A4 c4 A5 c5, 26), (E, #[.int .i64 p, .int .i64 q], 56), (Ra8, rc x1 B3x d3x B4x d4x B5x d5x, 30)] ([(x1, rc x1 B3x d3x B4x d4x B5x d5x)] ++ [(x2, #[.int .i64 x2.f0, .int .i64 x2.f1, .string x2.f2, .slice B3 x2.f3.length d3, .slice B4 x2.f4.length d4, .slice B5 x2.f5.length d5, .int .i64 0])]) w1 → Calls Tryz.prog 19 #[.agg #[.int .i64 x2.f0, .int .i64 x2.f1, .string x2.f2, .slice B3 x2.f3.length d3, .slice B4 x2.f4.length d4, .slice B5 x2.f5.length d5, .int .i64 0], .agg #[.int .i64 3, .int .i64 (2 * max 0 (cl m2 N - cl m1 N)), .string ⟨#[]⟩, .slice none 0 0, .slice none 0 0, .slice none 0 0]] w1 fun e w' => e = .returned (.bool true) ∧ Below w1.heap.size w1 w') := Lib.hid (by
        intro w1 B3 B4 B5 d3 d4 d5 h
        have ht : Tiny (some (max 0 (cl m2 N - cl m1 N))) := tiny_some (by omega) (by have := HB0.out; omega)
        have h1 := given_any w1 x2 (aV (some (max 0 (cl m2 N - cl m1 N)))) (by rw [HD.out]; exact wl_aV ht) (wl_aV ht) (h.held 1 rfl) (K_num _) w1 (Below.refl _ _)
        simp only [vl, rv] at h1
        rw [show (cmpV x2 (aV (some (max 0 (cl m2 N - cl m1 N)))) == 0) = true by rw [HD.out, cmpV_self]; rfl] at h1
        exact h1)
      go_wp2_with fail
      refine start_ (n := 17) (S := fun w' => w'.cell? ⟨V, 0, none⟩ = some (.int .i64 x.f0) ∧ w'.cell? ⟨V, 1, none⟩ = some (.int .i64 x.f1) ∧ w'.cell? ⟨V, 2, none⟩ = some (.string x.f2) ∧ w'.cell? ⟨V, 3, none⟩ = some (.slice A3 x.f3.length c3) ∧ w'.cell? ⟨V, 4, none⟩ = some (.slice A4 x.f4.length c4) ∧ w'.cell? ⟨V, 5, none⟩ = some (.slice A5 x.f5.length c5) ∧ w'.cell? ⟨E, 0, none⟩ = some (.int .i64 p) ∧ w'.cell? ⟨E, 1, none⟩ = some (.int .i64 q) ∧ w'.cell? ⟨Ra8, 0, none⟩ = some (.int .i64 x1.f0) ∧ w'.cell? ⟨Ra8, 1, none⟩ = some (.int .i64 x1.f1) ∧ w'.cell? ⟨Ra8, 2, none⟩ = some (.string x1.f2) ∧ w'.cell? ⟨Ra8, 3, none⟩ = some (.slice B3x x1.f3.length d3x) ∧ w'.cell? ⟨Ra8, 4, none⟩ = some (.slice B4x x1.f4.length d4x) ∧ w'.cell? ⟨Ra8, 5, none⟩ = some (.slice B5x x1.f5.length d5x) ∧ w'.cell? ⟨Ra8, 6, none⟩ = some (.int .i64 0) ∧ SPR w [(V, cv x A3 c3 A4 c4 A5 c5, 26), (E, #[.int .i64 p, .int .i64 q], 56), (Ra8, rc x1 B3x d3x B4x d4x B5x d5x, 30)] [(x1, rc x1 B3x d3x B4x d4x B5x d5x)] w') (ds := []) #[false, false, false, false, false, false, false, false, false, false, false, false, false, false, false, false, false] (by kernel_rfl) rfl rfl ⟨((six_cells ((SPR.spl (SPR.drew HQ.out)).get 0 rfl)).1), ((six_cells ((SPR.spl (SPR.drew HQ.out)).get 0 rfl)).2.1), ((six_cells ((SPR.spl (SPR.drew HQ.out)).get 0 rfl)).2.2.1), ((six_cells ((SPR.spl (SPR.drew HQ.out)).get 0 rfl)).2.2.2.1), ((six_cells ((SPR.spl (SPR.drew HQ.out)).get 0 rfl)).2.2.2.2.1), ((six_cells ((SPR.spl (SPR.drew HQ.out)).get 0 rfl)).2.2.2.2.2.1), ((two_cells ((SPR.spl (SPR.drew HQ.out)).get 1 rfl)).1), ((two_cells ((SPR.spl (SPR.drew HQ.out)).get 1 rfl)).2.1), ((sev_cells ((SPR.spl (SPR.drew HQ.out)).get 2 rfl)).1), ((sev_cells ((SPR.spl (SPR.drew HQ.out)).get 2 rfl)).2.1), ((sev_cells ((SPR.spl (SPR.drew HQ.out)).get 2 rfl)).2.2.1), ((sev_cells ((SPR.spl (SPR.drew HQ.out)).get 2 rfl)).2.2.2.1), ((sev_cells ((SPR.spl (SPR.drew HQ.out)).get 2 rfl)).2.2.2.2.1), ((sev_cells ((SPR.spl (SPR.drew HQ.out)).get 2 rfl)).2.2.2.2.2.1), ((sev_cells ((SPR.spl (SPR.drew HQ.out)).get 2 rfl)).2.2.2.2.2.2.1), (SPR.drew HQ.out)⟩ (fun hHeld => ?_)
      refine pure_ (i := 0) (N := some 71) (v := ?_) (a' := ?_) #[true, false, false, false, false, false, false, false, false, false, false, false, false, false, false, false, false] rfl rfl (by kernel_rfl) (fun _ _ _ h => h) (Or.inl ⟨by rfl, ?_⟩) ?_ ?_
      rotate_left
      · intro w'
        go_simp
        with_reducible rfl
      rotate_left
      · simp only [Act.put, List.setIfInBounds_toArray, List.set_cons_zero, List.set_cons_succ, i64_w, i32_w]
        rfl
      refine take_ (i := 1) (N := some 72) (v := ?_) (a' := ?_) #[true, true, false, false, false, false, false, false, false, false, false, false, false, false, false, false, false] rfl rfl (by kernel_rfl) (fun _ _ _ h => h) (Or.inl ⟨by rfl, ?_⟩) hHeld ?_ ?_
      rotate_left
      · rintro w' ⟨s0, s1, s2, s3, s4, s5, s6, s7, s8, s9, s10, s11, s12, s13, s14, s15⟩
        go_simp
        with_reducible rfl
      rotate_left
      · simp only [Act.put, List.setIfInBounds_toArray, List.set_cons_zero, List.set_cons_succ, i64_w, i32_w]
        rfl
      refine pure_ (i := 2) (N := some 73) (v := ?_) (a' := ?_) #[true, true, true, false, false, false, false, false, false, false, false, false, false, false, false, false, false] rfl rfl (by kernel_rfl) (fun _ _ _ h => h) (Or.inl ⟨by rfl, ?_⟩) ?_ ?_
      rotate_left
      · intro w'
        go_simp
        with_reducible rfl
      rotate_left
      · simp only [Act.put, List.setIfInBounds_toArray, List.set_cons_zero, List.set_cons_succ, i64_w, i32_w]
        rfl
      refine pure_ (i := 3) (N := some 74) (v := ?_) (a' := ?_) #[true, true, true, true, false, false, false, false, false, false, false, false, false, false, false, false, false] rfl rfl (by kernel_rfl) (fun _ _ _ h => h) (Or.inl ⟨by rfl, ?_⟩) ?_ ?_
      rotate_left
      · intro w'
        go_simp
        with_reducible rfl
      rotate_left
      · simp only [Act.put, List.setIfInBounds_toArray, List.set_cons_zero, List.set_cons_succ, i64_w, i32_w]
        rfl
      refine pure_ (i := 4) (N := some 75) (v := ?_) (a' := ?_) #[true, true, true, true, true, false, false, false, false, false, false, false, false, false, false, false, false] rfl rfl (by kernel_rfl) (fun _ _ _ h => h) (Or.inl ⟨by rfl, ?_⟩) ?_ ?_
      rotate_left
      · intro w'
        go_simp
        with_reducible rfl
      rotate_left
      · simp only [Act.put, List.setIfInBounds_toArray, List.set_cons_zero, List.set_cons_succ, i64_w, i32_w]
        rfl
      refine pure_ (i := 7) (N := some 78) (v := ?_) (a' := ?_) #[true, true, true, true, true, false, false, true, false, false, false, false, false, false, false, false, false] rfl rfl (by kernel_rfl) (fun _ _ _ h => h) (Or.inl ⟨by rfl, ?_⟩) ?_ ?_
      rotate_left
      · intro w'
        go_simp
        with_reducible rfl
      rotate_left
      · simp only [Act.put, List.setIfInBounds_toArray, List.set_cons_zero, List.set_cons_succ, i64_w, i32_w]
        rfl
      refine pure_ (i := 9) (N := some 80) (v := ?_) (a' := ?_) #[true, true, true, true, true, false, false, true, false, true, false, false, false, false, false, false, false] rfl rfl (by kernel_rfl) (fun _ _ _ h => h) (Or.inl ⟨by rfl, ?_⟩) ?_ ?_
      rotate_left
      · intro w'
        go_simp
        with_reducible rfl
      rotate_left
      · simp only [Act.put, List.setIfInBounds_toArray, List.set_cons_zero, List.set_cons_succ, i64_w, i32_w]
        rfl
      refine take_ (i := 5) (N := some 76) (v := ?_) (a' := ?_) #[true, true, true, true, true, true, false, true, false, true, false, false, false, false, false, false, false] rfl rfl (by kernel_rfl) (fun _ _ _ h => h) (Or.inl ⟨by rfl, ?_⟩) hHeld ?_ ?_
      rotate_left
      · rintro w' ⟨s0, s1, s2, s3, s4, s5, s6, s7, s8, s9, s10, s11, s12, s13, s14, s15⟩
        go_simp
        with_reducible rfl
      rotate_left
      · simp only [Act.put, List.setIfInBounds_toArray, List.set_cons_zero, List.set_cons_succ, i64_w, i32_w]
        rfl
      refine take_ (i := 8) (N := some 79) (v := ?_) (a' := ?_) #[true, true, true, true, true, true, false, true, true, true, false, false, false, false, false, false, false] rfl rfl (by kernel_rfl) (fun _ _ _ h => h) (Or.inl ⟨by rfl, ?_⟩) hHeld ?_ ?_
      rotate_left
      · rintro w' ⟨s0, s1, s2, s3, s4, s5, s6, s7, s8, s9, s10, s11, s12, s13, s14, s15⟩
        go_simp
        with_reducible rfl
      rotate_left
      · simp only [Act.put, List.setIfInBounds_toArray, List.set_cons_zero, List.set_cons_succ, i64_w, i32_w]
        rfl
      refine take_ (i := 10) (N := some 81) (v := ?_) (a' := ?_) #[true, true, true, true, true, true, false, true, true, true, true, false, false, false, false, false, false] rfl rfl (by kernel_rfl) (fun _ _ _ h => h) (Or.inl ⟨by rfl, ?_⟩) hHeld ?_ ?_
      rotate_left
      · rintro w' ⟨s0, s1, s2, s3, s4, s5, s6, s7, s8, s9, s10, s11, s12, s13, s14, s15⟩
        go_simp
        with_reducible rfl
      rotate_left
      · simp only [Act.put, List.setIfInBounds_toArray, List.set_cons_zero, List.set_cons_succ, i64_w, i32_w]
        rfl
      refine pure_ (i := 11) (N := some 82) (v := ?_) (a' := ?_) #[true, true, true, true, true, true, false, true, true, true, true, true, false, false, false, false, false] rfl rfl (by kernel_rfl) (fun _ _ _ h => h) (Or.inl ⟨by rfl, ?_⟩) ?_ ?_
      rotate_left
      · intro w'
        go_simp
        with_reducible rfl
      rotate_left
      · simp only [Act.put, List.setIfInBounds_toArray, List.set_cons_zero, List.set_cons_succ, i64_w, i32_w]
        rfl
      refine pure_ (i := 12) (N := some 83) (v := ?_) (a' := ?_) #[true, true, true, true, true, true, false, true, true, true, true, true, true, false, false, false, false] rfl rfl (by kernel_rfl) (fun _ _ _ h => h) (Or.inl ⟨by rfl, ?_⟩) ?_ ?_
      rotate_left
      · intro w'
        go_simp
        with_reducible rfl
      rotate_left
      · simp only [Act.put, List.setIfInBounds_toArray, List.set_cons_zero, List.set_cons_succ, i64_w, i32_w]
        rfl
      refine one_ (i := 6) (N := some 77) #[true, true, true, true, true, true, true, true, true, true, true, true, true, false, false, false, false] rfl rfl (by kernel_rfl) (by decide) (fun K hK => ?_)
      refine goes_ Tryz.func35 (by kernel_rfl) rfl #[.agg #[.int .i64 x1.f0, .int .i64 x1.f1, .string x1.f2, .slice B3x x1.f3.length d3x, .slice B4x x1.f4.length d4x, .slice B5x x1.f5.length d5x]] (by rfl) rfl rfl (by simp only [List.map_toArray, List.map_cons, List.map_nil]; rfl) ?_
      with_reducible refine ((HLN.out _ _ _ (hHeld.2.2.2.2.2.2.2.2.2.2.2.2.2.2.2) 0 rfl)).mono ?_
      rintro e w21 ⟨cs, rfl, hz1⟩
      obtain ⟨B3z, d3z, B4z, d4z, B5z, d5z, rfl⟩ := hz1.cells 1 rfl
      refine ⟨_, rfl, ?_⟩
      have hz2 := SPR.cut hz1
      refine hK.out _ _ ⟨((six_cells ((SPR.spl hz2).get 0 rfl)).1), ((six_cells ((SPR.spl hz2).get 0 rfl)).2.1), ((six_cells ((SPR.spl hz2).get 0 rfl)).2.2.1), ((six_cells ((SPR.spl hz2).get 0 rfl)).2.2.2.1), ((six_cells ((SPR.spl hz2).get 0 rfl)).2.2.2.2.1), ((six_cells ((SPR.spl hz2).get 0 rfl)).2.2.2.2.2.1), ((two_cells ((SPR.spl hz2).get 1 rfl)).1), ((two_cells ((SPR.spl hz2).get 1 rfl)).2.1), ((sev_cells ((SPR.spl hz2).get 2 rfl)).1), ((sev_cells ((SPR.spl hz2).get 2 rfl)).2.1), ((sev_cells ((SPR.spl hz2).get 2 rfl)).2.2.1), ((sev_cells ((SPR.spl hz2).get 2 rfl)).2.2.2.1), ((sev_cells ((SPR.spl hz2).get 2 rfl)).2.2.2.2.1), ((sev_cells ((SPR.spl hz2).get 2 rfl)).2.2.2.2.2.1), ((sev_cells ((SPR.spl hz2).get 2 rfl)).2.2.2.2.2.2.1), hz2⟩ (fun hHeld => ?_)
      clear hK K
      refine norm_ (a' := ?_) ?_ ?_
      rotate_left
      · show Act.put _ (some 77) _ = _
        simp only [Act.put, List.setIfInBounds_toArray, List.set_cons_zero, List.set_cons_succ, i64_w, i32_w]
        rfl
      refine one_ (i := 13) (N := some 84) #[true, true, true, true, true, true, true, true, true, true, true, true, true, true, false, false, false] rfl rfl (by kernel_rfl) (by decide) (fun K hK => ?_)
      refine goes_ Tryz.func34 (by kernel_rfl) rfl #[.int .i64 (max 0 (wrap64 (q - p)))] (by rfl) rfl rfl (by simp only [List.map_toArray, List.map_cons, List.map_nil]; rfl) ?_
      with_reducible refine ((HN3.out _)).mono ?_
      rintro e w22 ⟨rfl, hb⟩
      refine ⟨_, rfl, ?_⟩
      have hz3 := SPR.below hz2 hb
      have hz4 := SPR.below hz1 hb
      refine hK.out _ _ ⟨((six_cells ((SPR.spl hz3).get 0 rfl)).1), ((six_cells ((SPR.spl hz3).get 0 rfl)).2.1), ((six_cells ((SPR.spl hz3).get 0 rfl)).2.2.1), ((six_cells ((SPR.spl hz3).get 0 rfl)).2.2.2.1), ((six_cells ((SPR.spl hz3).get 0 rfl)).2.2.2.2.1), ((six_cells ((SPR.spl hz3).get 0 rfl)).2.2.2.2.2.1), ((two_cells ((SPR.spl hz3).get 1 rfl)).1), ((two_cells ((SPR.spl hz3).get 1 rfl)).2.1), ((sev_cells ((SPR.spl hz3).get 2 rfl)).1), ((sev_cells ((SPR.spl hz3).get 2 rfl)).2.1), ((sev_cells ((SPR.spl hz3).get 2 rfl)).2.2.1), ((sev_cells ((SPR.spl hz3).get 2 rfl)).2.2.2.1), ((sev_cells ((SPR.spl hz3).get 2 rfl)).2.2.2.2.1), ((sev_cells ((SPR.spl hz3).get 2 rfl)).2.2.2.2.2.1), ((sev_cells ((SPR.spl hz3).get 2 rfl)).2.2.2.2.2.2.1), hz3⟩ (fun hHeld => ?_)
      clear hK K
      refine norm_ (a' := ?_) ?_ ?_
      rotate_left
      · show Act.put _ (some 84) _ = _
        simp only [Act.put, List.setIfInBounds_toArray, List.set_cons_zero, List.set_cons_succ, i64_w, i32_w]
        rfl
      refine one_ (i := 14) (N := some 85) #[true, true, true, true, true, true, true, true, true, true, true, true, true, true, true, false, false] rfl rfl (by kernel_rfl) (by decide) (fun K hK => ?_)
      refine goes_ Tryz.func19 (by kernel_rfl) rfl #[.agg #[.int .i64 x2.f0, .int .i64 x2.f1, .string x2.f2, .slice B3z x2.f3.length d3z, .slice B4z x2.f4.length d4z, .slice B5z x2.f5.length d5z, .int .i64 0], .agg #[.int .i64 3, .int .i64 (2 * max 0 (cl m2 N - cl m1 N)), .string ⟨#[]⟩, .slice none 0 0, .slice none 0 0, .slice none 0 0]] (by rfl) rfl rfl (by simp only [List.map_toArray, List.map_cons, List.map_nil]; rfl) ?_
      with_reducible refine ((HG.out _ hz4)).mono ?_
      rintro e w23 ⟨rfl, hb⟩
      refine ⟨_, rfl, ?_⟩
      have hz5 := SPR.below hz3 hb
      refine hK.out _ _ ⟨((six_cells ((SPR.spl hz5).get 0 rfl)).1), ((six_cells ((SPR.spl hz5).get 0 rfl)).2.1), ((six_cells ((SPR.spl hz5).get 0 rfl)).2.2.1), ((six_cells ((SPR.spl hz5).get 0 rfl)).2.2.2.1), ((six_cells ((SPR.spl hz5).get 0 rfl)).2.2.2.2.1), ((six_cells ((SPR.spl hz5).get 0 rfl)).2.2.2.2.2.1), ((two_cells ((SPR.spl hz5).get 1 rfl)).1), ((two_cells ((SPR.spl hz5).get 1 rfl)).2.1), ((sev_cells ((SPR.spl hz5).get 2 rfl)).1), ((sev_cells ((SPR.spl hz5).get 2 rfl)).2.1), ((sev_cells ((SPR.spl hz5).get 2 rfl)).2.2.1), ((sev_cells ((SPR.spl hz5).get 2 rfl)).2.2.2.1), ((sev_cells ((SPR.spl hz5).get 2 rfl)).2.2.2.2.1), ((sev_cells ((SPR.spl hz5).get 2 rfl)).2.2.2.2.2.1), ((sev_cells ((SPR.spl hz5).get 2 rfl)).2.2.2.2.2.2.1), hz5⟩ (fun hHeld => ?_)
      clear hK K
      refine norm_ (a' := ?_) ?_ ?_
      rotate_left
      · show Act.put _ (some 85) _ = _
        simp only [Act.put, List.setIfInBounds_toArray, List.set_cons_zero, List.set_cons_succ, i64_w, i32_w]
        rfl
      refine pure_ (i := 15) (N := some 86) (v := ?_) (a' := ?_) #[true, true, true, true, true, true, true, true, true, true, true, true, true, true, true, true, false] rfl rfl (by kernel_rfl) (fun _ _ _ h => h) (Or.inl ⟨by rfl, ?_⟩) ?_ ?_
      rotate_left
      · intro w'
        go_simp
        with_reducible rfl
      rotate_left
      · simp only [Act.put, List.setIfInBounds_toArray, List.set_cons_zero, List.set_cons_succ, i64_w, i32_w]
        rfl
      refine pure_ (i := 16) (N := some 6) (v := ?_) (a' := ?_) #[true, true, true, true, true, true, true, true, true, true, true, true, true, true, true, true, true] rfl rfl (by kernel_rfl) (fun _ _ _ h => h) (Or.inl ⟨by rfl, ?_⟩) ?_ ?_
      rotate_left
      · intro w'
        go_simp
        with_reducible rfl
      rotate_left
      · simp only [Act.put, List.setIfInBounds_toArray, List.set_cons_zero, List.set_cons_succ, i64_w, i32_w]
        rfl
      refine done_ (by kernel_rfl) ?_
      go_wp2_with fail
      go_ret
      exact ⟨rfl, hz5.bel⟩
set_option maxRecDepth 100000 in
set_option maxHeartbeats 20000000 in
theorem fnSliceLength_0 (w0 : World) (hE : Env w0) (x : V) (hz : Sz x) (K H : Int) (s : ByteArray) (A3 A4 A5 : Option Addr) (n3 c3 n4 c4 n5 c5 : Nat) (hK : k26.K w0 x [.int .i64 K, .int .i64 H, .string s, .slice A3 n3 c3, .slice A4 n4 c4, .slice A5 n5 c5]) (m1 : Int) (zm1 : (Lit.int .i8 m1).wf = true) (m2 : Int) (zm2 : (Lit.int .i8 m2).wf = true) (hk : ¬(x.f0 = 4 ∨ x.f0 = 5)) :
    Calls Tryz.prog 10 #[.agg #[.int .i64 K, .int .i64 H, .string s, .slice A3 n3 c3, .slice A4 n4 c4, .slice A5 n5 c5], .int .i8 m1, .int .i8 m2] w0 fun e w' => e = .returned (.bool true) ∧ Below w0.heap.size w0 w' := by
  have HKX := Lib.hid hk
  clear hk
  obtain ⟨w, hw⟩ : ∃ w, w = w0 := ⟨_, rfl⟩
  obtain ⟨B3, e3, B4, e4, B5, e5, he, l3, g3, l4, g4, l5, g5⟩ := k26_open hK
  simp only [List.cons.injEq, Value.int.injEq, Value.string.injEq, Value.slice.injEq, true_and, and_true] at he
  obtain ⟨rfl, rfl, rfl, ⟨rfl, rfl, rfl⟩, ⟨rfl, rfl, rfl⟩, ⟨rfl, rfl, rfl⟩⟩ := he
  clear l3 g3 l4 g4 l5 g5
  have bm1 := i8_in zm1
  have bm2 := i8_in zm2
  clear zm1 zm2
  have HZ := Lib.hid hz
  have HF1 := Lib.hid (fun w1 hb => fits1_size w0 x x.f0 x.f1 x.f2 A3 A4 A5 x.f3.length c3 x.f4.length c4 x.f5.length c5 hK w1 hb)
  have HF := Lib.hid (fun w1 g (hg : g = w1.heap.size) hb => fits_at w0 hE hz hK w1 g hg hb)
  have HT := Lib.hid (fun h => toGo_any w0 _ x (Nat.lt_succ_self _) hz h _ hK)
  have HNU := Lib.hid (fun n w => number_any n w)
  have HKW := Lib.hid hK
  clear hE hz hK
  subst hw
  go_enter Tryz.func10, Tryz.ntmps10
  go_wp2_with fail
  obtain ⟨V, hV⟩ : ∃ V, V = w.heap.size := ⟨_, rfl⟩
  obtain ⟨W0, hW0⟩ : ∃ W0, W0 = w.alloc (.cells #[.int .i64 x.f0, .int .i64 x.f1, .string x.f2, .slice A3 x.f3.length c3, .slice A4 x.f4.length c4, .slice A5 x.f5.length c5] 26) := ⟨_, rfl⟩
  have hS0 : SPR w [(V, cv x A3 c3 A4 c4 A5 c5, 26)] [] W0 := by rw [hV, hW0]; exact (spr0 (Below.refl _ w)).more _ _
  rw [← hW0]
  try rw [← hV]
  have H0 := Lib.hid hS0
  clear hS0 hW0 hV
  have y := six_cells (H0.out.get 0 rfl)
  try go_wp2_with fail
  refine (HF1.out W0 H0.out.bel).mono ?_
  rintro e w1 ⟨r, rfl, hr, hb⟩
  have H1 := Lib.hid (H0.out.below hb)
  clear hb H0 y HF1
  cases r with
  | false =>
    go_wp2_with fail
    go_ret
    exact ⟨rfl, H1.out.bel⟩
  | true =>
  have SZ := Lib.hid (hr (by trivial))
  clear hr
  have y := six_cells (H1.out.get 0 rfl)
  go_wp2_with fail
  refine (HF.out w1 _ rfl H1.out.bel).mono ?_
  rintro e w2 ⟨r, rfl, hr, hb⟩
  have H2 := Lib.hid (((H1.out.more _ _).below hb).tk 1 0)
  clear hb H1 HF y
  have ya := six_cells (H2.out.get 0 rfl)
  cases r with
  | false =>
    go_wp2_with fail
    go_ret
    exact ⟨rfl, H2.out.bel⟩
  | true =>
  have HW := Lib.hid (hr (by trivial))
  clear hr
  have q3 : (x.f0 != 5) = true := by have := HKX.out; simp; omega
  have q4 : (x.f0 != 4) = true := by have := HKX.out; simp; omega
  go_wp2_with fail
  go_ret
  exact ⟨rfl, H2.out.bel⟩
set_option maxRecDepth 100000 in
set_option maxHeartbeats 20000000 in
theorem fnSliceLength_any (w0 : World) (hE : Env w0) (x : V) (hz : Sz x) (K H : Int) (s : ByteArray) (A3 A4 A5 : Option Addr) (n3 c3 n4 c4 n5 c5 : Nat) (hK : k26.K w0 x [.int .i64 K, .int .i64 H, .string s, .slice A3 n3 c3, .slice A4 n4 c4, .slice A5 n5 c5]) (m1 : Int) (zm1 : (Lit.int .i8 m1).wf = true) (m2 : Int) (zm2 : (Lit.int .i8 m2).wf = true) :
    Calls Tryz.prog 10 #[.agg #[.int .i64 K, .int .i64 H, .string s, .slice A3 n3 c3, .slice A4 n4 c4, .slice A5 n5 c5], .int .i8 m1, .int .i8 m2] w0 fun e w' => e = .returned (.bool true) ∧ Below w0.heap.size w0 w' := by
  by_cases k4 : x.f0 = 4
  · exact fnSliceLength_4 w0 hE x hz K H s A3 A4 A5 n3 c3 n4 c4 n5 c5 hK m1 zm1 m2 zm2 k4
  by_cases k5 : x.f0 = 5
  · exact fnSliceLength_5 w0 hE x hz K H s A3 A4 A5 n3 c3 n4 c4 n5 c5 hK m1 zm1 m2 zm2 k5
  exact fnSliceLength_0 w0 hE x hz K H s A3 A4 A5 n3 c3 n4 c4 n5 c5 hK m1 zm1 m2 zm2 (fun h => h.elim k4 k5)
end Go.Proofs.YtdaiodiafahkkaaGreatDoor.ValA
