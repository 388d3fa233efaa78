/-
FnContainsEqual.
-/
import Derived.Test.YtdcgjfiknknjfaaGreatDoorFlatD
set_option linter.unusedSimpArgs false
set_option linter.unusedVariables false
namespace Go.Proofs.YtdcgjfiknknjfaaGreatDoor.ValA
open Go.RowKit Go.Lib Go.Proofs.YtdcgjfiknknjfaaGreatDoorW.PrintWords Go.Proofs.YtdcgjfiknknjfaaGreatDoorW.PrintLast Go.Proofs.YtdcgjfiknknjfaaGreatDoorW.PrintMore Go.Proofs.YtdcgjfiknknjfaaGreatDoor.PzzFits1 Go.Proofs.YtdcgjfiknknjfaaGreatDoor.NumA
theorem SPN.pre2 {w w1 : World} {a b : Nat × Array Value × TypeId} {L : List (Nat × Array Value × TypeId)} (h : SPN w (a :: b :: L) w1) : SPN w [a, b] w1 := by
  have hs : ∀ p ∈ [a, b], p ∈ a :: b :: L := fun p hp => by
    simp at hp ⊢
    rcases hp with h | h <;> simp [h]
  refine ⟨⟨h.1.1, fun p hp => h.1.2 p (hs p hp)⟩, ?_, fun p hp => h.2.2 p (hs p hp)⟩
  have := h.2.1
  simp at this ⊢
  exact this.1.1
theorem SPN.swap2 {w w1 : World} {a b x y : Nat × Array Value × TypeId} (h : SPN w [a, b, x, y] w1) : SPN w [a, b, y, x] w1 := by
  have hs : ∀ p ∈ [a, b, y, x], p ∈ [a, b, x, y] := fun p hp => by
    simp at hp ⊢
    rcases hp with h | h | h | h <;> simp [h]
  refine ⟨⟨h.1.1, fun p hp => h.1.2 p (hs p hp)⟩, ?_, fun p hp => h.2.2 p (hs p hp)⟩
  have := h.2.1
  simp at this ⊢
  omega
theorem fits1_size (w0 : World) (x : V) (K H : Int) (s : ByteArray) (A3 A4 A5 : Option Addr) (n3 c3 n4 c4 n5 c5 : Nat) (hK : k26.K w0 x [.int .i64 K, .int .i64 H, .string s, .slice A3 n3 c3, .slice A4 n4 c4, .slice A5 n5 c5]) (w : World) (hb : Below w0.heap.size w0 w) :
    Calls Tryz.prog 15 #[.agg #[.int .i64 K, .int .i64 H, .string s, .slice A3 n3 c3, .slice A4 n4 c4, .slice A5 n5 c5]] w (Says (s.size ≤ 2147483647) w) := by
  obtain ⟨B3, e3, B4, e4, B5, e5, he, l3, g3, l4, g4, l5, g5⟩ := k26_open hK
  simp only [List.cons.injEq, Value.int.injEq, Value.string.injEq, Value.slice.injEq, true_and, and_true] at he
  obtain ⟨rfl, rfl, rfl, ⟨rfl, rfl, rfl⟩, ⟨rfl, rfl, rfl⟩, ⟨rfl, rfl, rfl⟩⟩ := he
  obtain ⟨k, r, hr⟩ := fits2_ev x.f4 g4.2.1
  have h1 : ∃ r1, laws_zzFits1.f k x.f0 x.f1 x.f2 x.f3 x.f4 x.f5 = some r1 ∧ (r1 = true → x.f2.size ≤ 2147483647) := by
    unfold laws_zzFits1.f
    rw [hr]
    simp only [Option.bind_some]
    by_cases c : (x.f2.size : Int) > 2147483647
    · rw [if_pos c]; exact ⟨false, rfl, fun e => by cases e⟩
    · rw [if_neg c]
      have c' : x.f2.size ≤ 2147483647 := by omega
      repeat (first | exact ⟨_, rfl, fun _ => c'⟩ | split)
  obtain ⟨r1, hr1, hr2⟩ := h1
  refine (laws_zzFits1.calls k x.f0 x.f1 x.f2 _ _ x.f3 _ _ x.f4 _ _ x.f5 r1 w (Kd.C_below g3 hb) l3 (Kd.C_below g4 hb) l4 (Kd.C_below g5 hb) l5 hr1).mono ?_
  rintro e w' ⟨rfl, hd⟩
  exact ⟨r1, rfl, hr2, hd⟩
theorem wf_flat {w0 : World} {x : V} {K H : Int} {s : ByteArray} {A3 A4 A5 : Option Addr} {n3 c3 n4 c4 n5 c5 : Nat} (hK : k26.K w0 x [.int .i64 K, .int .i64 H, .string s, .slice A3 n3 c3, .slice A4 n4 c4, .slice A5 n5 c5]) (h : WF x) : 0 ≤ K ∧ K ≤ 6 ∧ JN H := by
  obtain ⟨B3, e3, B4, e4, B5, e5, he, _⟩ := k26_open hK
  simp only [List.cons.injEq, Value.int.injEq, Value.string.injEq, Value.slice.injEq, true_and, and_true] at he
  obtain ⟨rfl, rfl, _⟩ := he
  obtain ⟨_, h1, h2, _⟩ := h
  unfold c1B at h1
  unfold c2B at h2
  simp only [Bool.and_eq_true, Bool.or_eq_true, decide_eq_true_eq, beq_iff_eq] at h1 h2
  refine ⟨h1.1.1.1.1.1.1, h1.1.1.1.1.1.2, h2.1, ?_⟩
  rcases h2.2 with e | e
  · left
    exact Int.emod_eq_zero_of_dvd (Int.dvd_of_tmod_eq_zero e)
  · exact .inr e
set_option maxRecDepth 100000 in
set_option maxHeartbeats 40000000 in
theorem fnContainsEqual_any (w : World) (hE : Env w) (xa : V) (hza : Sz xa) (Ka Ha : Int) (sa : ByteArray) (A3a A4a A5a : Option Addr) (n3a c3a n4a c4a n5a c5a : Nat) (hKa : k26.K w xa [.int .i64 Ka, .int .i64 Ha, .string sa, .slice A3a n3a c3a, .slice A4a n4a c4a, .slice A5a n5a c5a]) (xb : V) (hzb : Sz xb) (Kb Hb : Int) (sb : ByteArray) (A3b A4b A5b : Option Addr) (n3b c3b n4b c4b n5b c5b : Nat) (hKb : k26.K w xb [.int .i64 Kb, .int .i64 Hb, .string sb, .slice A3b n3b c3b, .slice A4b n4b c4b, .slice A5b n5b c5b]) :
    Calls Tryz.prog 6 #[.agg #[.int .i64 Ka, .int .i64 Ha, .string sa, .slice A3a n3a c3a, .slice A4a n4a c4a, .slice A5a n5a c5a], .agg #[.int .i64 Kb, .int .i64 Hb, .string sb, .slice A3b n3b c3b, .slice A4b n4b c4b, .slice A5b n5b c5b]] w fun e w' => e = .returned (.bool true) ∧ Below w.heap.size w w' := by
  have HFa := Lib.hid (fun w1 hb => fits1_size w xa Ka Ha sa A3a A4a A5a n3a c3a n4a c4a n5a c5a hKa w1 hb)
  have HFb := Lib.hid (fun w1 hb => fits1_size w xb Kb Hb sb A3b A4b A5b n3b c3b n4b c4b n5b c5b hKb w1 hb)
  have HFI := Lib.hid (fun w1 hb g hg => fits_two w hE xa hza Ka Ha sa A3a A4a A5a n3a c3a n4a c4a n5a c5a hKa xb hzb Kb Hb sb A3b A4b A5b n3b c3b n4b c4b n5b c5b hKb w1 hb g hg)
  have HCO := Lib.hid (fun w => container_any Ka Ha ⟨sa, A3a, n3a, c3a, A4a, n4a, c4a, A5a, n5a, c5a⟩ w)
  simp only [vl] at HCO
  have HWF := Lib.hid (And.intro (fun h => wf_flat hKa h) (fun h => wf_flat hKb h))
  clear hE hza hKa hzb hKb
  go_enter Tryz.func6, Tryz.ntmps6
  go_wp2_with fail
  obtain ⟨A, hA⟩ : ∃ A, A = w.heap.size := ⟨_, rfl⟩
  obtain ⟨B, hB⟩ : ∃ B, B = w.heap.size + 1 := ⟨_, rfl⟩
  obtain ⟨W0, hW0⟩ : ∃ W0, W0 = (w.alloc (.cells #[.int .i64 Ka, .int .i64 Ha, .string sa, .slice A3a n3a c3a, .slice A4a n4a c4a, .slice A5a n5a c5a] 26)).alloc (.cells #[.int .i64 Kb, .int .i64 Hb, .string sb, .slice A3b n3b c3b, .slice A4b n4b c4b, .slice A5b n5b c5b] 26) := ⟨_, rfl⟩
  have hd0 : A ≠ B ∧ w.heap.size ≤ A ∧ w.heap.size ≤ B := by omega
  have h0 : SPL w [(A, #[.int .i64 Ka, .int .i64 Ha, .string sa, .slice A3a n3a c3a, .slice A4a n4a c4a, .slice A5a n5a c5a], 26), (B, #[.int .i64 Kb, .int .i64 Hb, .string sb, .slice A3b n3b c3b, .slice A4b n4b c4b, .slice A5b n5b c5b], 26)] W0 := by rw [hA, hB, hW0]; exact SPL.two w _ _ _ _
  rw [← hW0, ← hB, ← hA]
  have H0 := Lib.hid h0
  have HD := Lib.hid hd0
  clear h0 hW0 hA hB hd0
  have y := six_cells (H0.out.get 0 rfl)
  go_wp2_with fail
  refine (HFa.out W0 H0.out.1).mono ?_
  rintro e w1 ⟨r, rfl, hr, hb⟩
  have H1 := Lib.hid (H0.out.below hb)
  clear hb H0 y HFa
  cases r with
  | false =>
    go_wp2_with fail
    go_ret
    exact ⟨rfl, H1.out.1⟩
  | true =>
  have SZa := Lib.hid (hr rfl)
  clear hr
  have y := six_cells (H1.out.get 1 rfl)
  go_wp2_with fail
  refine (HFb.out w1 H1.out.1).mono ?_
  rintro e w2 ⟨r, rfl, hr, hb⟩
  have H2 := Lib.hid (H1.out.below hb)
  clear hb H1 y HFb
  cases r with
  | false =>
    go_wp2_with fail
    go_ret
    exact ⟨rfl, H2.out.1⟩
  | true =>
  have SZb := Lib.hid (hr rfl)
  clear hr
  have ya := six_cells (H2.out.get 0 rfl)
  have yb := six_cells (H2.out.get 1 rfl)
  go_wp2_with fail
  refine (HFI.out _ (H2.out.1.alloc H2.out.1.size _) _ (heap_alloc_new w2 _)).mono ?_
  rintro e w3 ⟨r, rfl, hr, hb⟩
  have H3 := Lib.hid (H2.out.below (((Below.refl _ w2).alloc (Nat.le_refl _) _).trans (hb.mono (by rw [World.size_alloc]; omega))))
  clear hb H2 ya yb HFI
  cases r with
  | false =>
    go_wp2_with fail
    go_ret
    exact ⟨rfl, H3.out.1⟩
  | true =>
  have HWX := Lib.hid (And.intro (HWF.out.1 (hr (by trivial)).1) (HWF.out.2 (hr (by trivial)).2))
  clear hr HWF
  have ya := six_cells (H3.out.get 0 rfl)
  go_wp2_with fail
  refine (HCO.out _).mono ?_
  rintro e w4 ⟨rfl, hb⟩
  have H4 := Lib.hid (H3.out.below hb)
  clear hb H3 ya HCO
  cases hc : (Ka == 5 || Ka == 6) with
  | true =>
    clear hc
    go_wp2_with fail
    go_ret
    exact ⟨rfl, H4.out.1⟩
  | false =>
  have HK := Lib.hid hc
  clear hc
  have ya := six_cells (H4.out.get 0 rfl)
  have yb := six_cells (H4.out.get 1 rfl)
  cases hn : (Ka != Kb) with
  | true =>
    go_wp2_with fail
    go_ret
    exact ⟨rfl, H4.out.1⟩
  | false =>
  obtain rfl : Kb = Ka := by simpa using (bne_eq_false_iff_eq.1 hn).symm
  have k4 : Kb ≤ 4 := by
    have h := HK.out
    simp only [Bool.or_eq_false_iff, beq_eq_false_iff_ne] at h
    have := HWX.out.1.2.1
    omega
  obtain ⟨c, d, C1, C2, C3⟩ := con_flat Kb Ha Hb ⟨sa, A3a, n3a, c3a, A4a, n4a, c4a, A5a, n5a, c5a⟩ ⟨sb, A3b, n3b, c3b, A4b, n4b, c4b, A5b, n5b, c5b⟩ HWX.out.1.1 k4 HWX.out.1.2.2 HWX.out.2.2.2 SZa.out SZb.out
  have HC1 := Lib.hid C1
  have HC2 := Lib.hid C2
  have HS := Lib.hid C3
  simp only [vl, rv, r0] at HC1 HC2 HS
  clear C1 C2 C3 k4 HK HWX SZa SZb
  go_wp2_with fail
  have HZ : Hid (SPN w [(A, #[.int .i64 Kb, .int .i64 Ha, .string sa, .slice A3a n3a c3a, .slice A4a n4a c4a, .slice A5a n5a c5a], 26), (B, #[.int .i64 Kb, .int .i64 Hb, .string sb, .slice A3b n3b c3b, .slice A4b n4b c4b, .slice A5b n5b c5b], 26)] w4) := Lib.hid ⟨H4.out, by have := HD.out; simp [this.1], by have := HD.out; intro p hp; simp at hp; rcases hp with rfl | rfl <;> simp [this]⟩
  clear H4 HD ya yb hn
  refine start_ (n := 10) (S := fun w' => w'.cell? ⟨A, 0, none⟩ = some (.int .i64 Kb) ∧ w'.cell? ⟨A, 1, none⟩ = some (.int .i64 Ha) ∧ w'.cell? ⟨A, 2, none⟩ = some (.string sa) ∧ w'.cell? ⟨A, 3, none⟩ = some (.slice A3a n3a c3a) ∧ w'.cell? ⟨A, 4, none⟩ = some (.slice A4a n4a c4a) ∧ w'.cell? ⟨A, 5, none⟩ = some (.slice A5a n5a c5a) ∧ w'.cell? ⟨B, 0, none⟩ = some (.int .i64 Kb) ∧ w'.cell? ⟨B, 1, none⟩ = some (.int .i64 Hb) ∧ w'.cell? ⟨B, 2, none⟩ = some (.string sb) ∧ w'.cell? ⟨B, 3, none⟩ = some (.slice A3b n3b c3b) ∧ w'.cell? ⟨B, 4, none⟩ = some (.slice A4b n4b c4b) ∧ w'.cell? ⟨B, 5, none⟩ = some (.slice A5b n5b c5b) ∧ SPN w [(A, #[.int .i64 Kb, .int .i64 Ha, .string sa, .slice A3a n3a c3a, .slice A4a n4a c4a, .slice A5a n5a c5a], 26), (B, #[.int .i64 Kb, .int .i64 Hb, .string sb, .slice A3b n3b c3b, .slice A4b n4b c4b, .slice A5b n5b c5b], 26)] w') (ds := []) #[false, false, false, false, false, false, false, false, false, false] (by kernel_rfl) rfl rfl ⟨((six_cells ((SPN.drew HZ.out).1.get 0 rfl)).1), ((six_cells ((SPN.drew HZ.out).1.get 0 rfl)).2.1), ((six_cells ((SPN.drew HZ.out).1.get 0 rfl)).2.2.1), ((six_cells ((SPN.drew HZ.out).1.get 0 rfl)).2.2.2.1), ((six_cells ((SPN.drew HZ.out).1.get 0 rfl)).2.2.2.2.1), ((six_cells ((SPN.drew HZ.out).1.get 0 rfl)).2.2.2.2.2.1), ((six_cells ((SPN.drew HZ.out).1.get 1 rfl)).1), ((six_cells ((SPN.drew HZ.out).1.get 1 rfl)).2.1), ((six_cells ((SPN.drew HZ.out).1.get 1 rfl)).2.2.1), ((six_cells ((SPN.drew HZ.out).1.get 1 rfl)).2.2.2.1), ((six_cells ((SPN.drew HZ.out).1.get 1 rfl)).2.2.2.2.1), ((six_cells ((SPN.drew HZ.out).1.get 1 rfl)).2.2.2.2.2.1), (SPN.drew HZ.out)⟩ (fun hHeld => ?_)
  refine take_ (i := 0) (N := some 31) (v := ?_) (a' := ?_) #[true, false, false, false, false, false, false, false, false, false] rfl rfl (by kernel_rfl) (fun _ _ _ h => h) (Or.inl ⟨by rfl, ?_⟩) hHeld ?_ ?_
  rotate_left
  · rintro w' ⟨s0, s1, s2, s3, s4, s5, s6, s7, s8, s9, s10, s11, s12⟩
    go_simp
    with_reducible rfl
  rotate_left
  · simp only [Act.put, List.setIfInBounds_toArray, List.set_cons_zero, List.set_cons_succ, i64_w, i32_w]
    rfl
  refine take_ (i := 1) (N := some 32) (v := ?_) (a' := ?_) #[true, true, false, false, false, false, false, false, false, false] rfl rfl (by kernel_rfl) (fun _ _ _ h => h) (Or.inl ⟨by rfl, ?_⟩) hHeld ?_ ?_
  rotate_left
  · rintro w' ⟨s0, s1, s2, s3, s4, s5, s6, s7, s8, s9, s10, s11, s12⟩
    go_simp
    with_reducible rfl
  rotate_left
  · simp only [Act.put, List.setIfInBounds_toArray, List.set_cons_zero, List.set_cons_succ, i64_w, i32_w]
    rfl
  refine take_ (i := 3) (N := some 34) (v := ?_) (a' := ?_) #[true, true, false, true, false, false, false, false, false, false] rfl rfl (by kernel_rfl) (fun _ _ _ h => h) (Or.inl ⟨by rfl, ?_⟩) hHeld ?_ ?_
  rotate_left
  · rintro w' ⟨s0, s1, s2, s3, s4, s5, s6, s7, s8, s9, s10, s11, s12⟩
    go_simp
    with_reducible rfl
  rotate_left
  · simp only [Act.put, List.setIfInBounds_toArray, List.set_cons_zero, List.set_cons_succ, i64_w, i32_w]
    rfl
  refine take_ (i := 4) (N := some 35) (v := ?_) (a' := ?_) #[true, true, false, true, true, false, false, false, false, false] rfl rfl (by kernel_rfl) (fun _ _ _ h => h) (Or.inl ⟨by rfl, ?_⟩) hHeld ?_ ?_
  rotate_left
  · rintro w' ⟨s0, s1, s2, s3, s4, s5, s6, s7, s8, s9, s10, s11, s12⟩
    go_simp
    with_reducible rfl
  rotate_left
  · simp only [Act.put, List.setIfInBounds_toArray, List.set_cons_zero, List.set_cons_succ, i64_w, i32_w]
    rfl
  refine join_ (σ := Nat × Nat) 2 #[true, true, true, true, true, true, true, true, false, false] (fun s => [(33, .agg #[.int .i64 (kb c), .int .i64 0, .string ⟨#[]⟩, .slice none 0 0, .slice none 0 0, .slice none 0 0, .int .i64 0]), (36, .agg #[.int .i64 (kb d), .int .i64 0, .string ⟨#[]⟩, .slice none 0 0, .slice none 0 0, .slice none 0 0, .int .i64 0]), (5, .pointer (some ⟨s.1, 0, none⟩)), (6, .pointer (some ⟨s.2, 0, none⟩))]) (fun s w' => SPN w [(A, #[.int .i64 Kb, .int .i64 Ha, .string sa, .slice A3a n3a c3a, .slice A4a n4a c4a, .slice A5a n5a c5a], 26), (B, #[.int .i64 Kb, .int .i64 Hb, .string sb, .slice A3b n3b c3b, .slice A4b n4b c4b, .slice A5b n5b c5b], 26), (s.1, #[.int .i64 0, .int .i64 0, .string ⟨#[]⟩, .slice none 0 0, .slice none 0 0, .slice none 0 0, .int .i64 0], 30), (s.2, #[.int .i64 0, .int .i64 0, .string ⟨#[]⟩, .slice none 0 0, .slice none 0 0, .slice none 0 0, .int .i64 0], 30)] w') ?_ ?_
  rotate_left
  · intro hCont
    refine three_ (i := 2) (j := 6) (k := 7) (Ni := some 33) (Nj := some 5) (Nk := some 6) #[true, true, true, true, true, false, false, false, false, false] #[true, true, false, true, true, false, true, false, false, false] #[true, true, false, true, true, false, false, true, false, false] rfl rfl rfl rfl rfl rfl (by kernel_rfl) (by decide) (by decide) (by decide) (fun K hK => ?_) (fun K hK => ?_) (fun K hK => ?_)
    · skip
      refine goes_ Tryz.func24 (by kernel_rfl) rfl #[.agg #[.int .i64 Kb, .int .i64 Ha, .string sa, .slice A3a n3a c3a, .slice A4a n4a c4a, .slice A5a n5a c5a], .agg #[.int .i64 Kb, .int .i64 Hb, .string sb, .slice A3b n3b c3b, .slice A4b n4b c4b, .slice A5b n5b c5b]] (by rfl) rfl rfl (by simp only [List.map_toArray, List.map_cons, List.map_nil]; rfl) ?_
      with_reducible refine ((HC1.out _)).mono ?_
      rintro e w11 ⟨rfl, hb⟩
      refine ⟨_, rfl, ?_⟩
      have hz1 := SPN.below (hHeld.2.2.2.2.2.2.2.2.2.2.2.2) hb
      clear hb
      refine hK.out _ _ ⟨((six_cells ((SPN.pre2 hz1).1.get 0 rfl)).1), ((six_cells ((SPN.pre2 hz1).1.get 0 rfl)).2.1), ((six_cells ((SPN.pre2 hz1).1.get 0 rfl)).2.2.1), ((six_cells ((SPN.pre2 hz1).1.get 0 rfl)).2.2.2.1), ((six_cells ((SPN.pre2 hz1).1.get 0 rfl)).2.2.2.2.1), ((six_cells ((SPN.pre2 hz1).1.get 0 rfl)).2.2.2.2.2.1), ((six_cells ((SPN.pre2 hz1).1.get 1 rfl)).1), ((six_cells ((SPN.pre2 hz1).1.get 1 rfl)).2.1), ((six_cells ((SPN.pre2 hz1).1.get 1 rfl)).2.2.1), ((six_cells ((SPN.pre2 hz1).1.get 1 rfl)).2.2.2.1), ((six_cells ((SPN.pre2 hz1).1.get 1 rfl)).2.2.2.2.1), ((six_cells ((SPN.pre2 hz1).1.get 1 rfl)).2.2.2.2.2.1), (SPN.pre2 hz1)⟩ (fun hHeld => ?_)
      clear hK K
      refine norm_ (a' := ?_) ?_ ?_
      rotate_left
      · show Act.put _ (some 33) _ = _
        simp only [Act.put, List.setIfInBounds_toArray, List.set_cons_zero, List.set_cons_succ, i64_w, i32_w]
        rfl
      refine three_ (i := 5) (j := 6) (k := 7) (Ni := some 36) (Nj := some 5) (Nk := some 6) #[true, true, true, true, true, true, false, false, false, false] #[true, true, true, true, true, false, true, false, false, false] #[true, true, true, true, true, false, false, true, false, false] rfl rfl rfl rfl rfl rfl (by kernel_rfl) (by decide) (by decide) (by decide) (fun K hK => ?_) (fun K hK => ?_) (fun K hK => ?_)
      · skip
        refine goes_ Tryz.func24 (by kernel_rfl) rfl #[.agg #[.int .i64 Kb, .int .i64 Hb, .string sb, .slice A3b n3b c3b, .slice A4b n4b c4b, .slice A5b n5b c5b], .agg #[.int .i64 Kb, .int .i64 Ha, .string sa, .slice A3a n3a c3a, .slice A4a n4a c4a, .slice A5a n5a c5a]] (by rfl) rfl rfl (by simp only [List.map_toArray, List.map_cons, List.map_nil]; rfl) ?_
        with_reducible refine ((HC2.out _)).mono ?_
        rintro e w12 ⟨rfl, hb⟩
        refine ⟨_, rfl, ?_⟩
        have hz2 := SPN.below (hz1) hb
        clear hb
        refine hK.out _ _ ⟨((six_cells ((SPN.pre2 hz2).1.get 0 rfl)).1), ((six_cells ((SPN.pre2 hz2).1.get 0 rfl)).2.1), ((six_cells ((SPN.pre2 hz2).1.get 0 rfl)).2.2.1), ((six_cells ((SPN.pre2 hz2).1.get 0 rfl)).2.2.2.1), ((six_cells ((SPN.pre2 hz2).1.get 0 rfl)).2.2.2.2.1), ((six_cells ((SPN.pre2 hz2).1.get 0 rfl)).2.2.2.2.2.1), ((six_cells ((SPN.pre2 hz2).1.get 1 rfl)).1), ((six_cells ((SPN.pre2 hz2).1.get 1 rfl)).2.1), ((six_cells ((SPN.pre2 hz2).1.get 1 rfl)).2.2.1), ((six_cells ((SPN.pre2 hz2).1.get 1 rfl)).2.2.2.1), ((six_cells ((SPN.pre2 hz2).1.get 1 rfl)).2.2.2.2.1), ((six_cells ((SPN.pre2 hz2).1.get 1 rfl)).2.2.2.2.2.1), (SPN.pre2 hz2)⟩ (fun hHeld => ?_)
        clear hK K
        refine norm_ (a' := ?_) ?_ ?_
        rotate_left
        · show Act.put _ (some 36) _ = _
          simp only [Act.put, List.setIfInBounds_toArray, List.set_cons_zero, List.set_cons_succ, i64_w, i32_w]
          rfl
        refine two_ (i := 6) (j := 7) (Ni := some 5) (Nj := some 6) #[true, true, true, true, true, true, true, false, false, false] #[true, true, true, true, true, true, false, true, false, false] rfl rfl rfl rfl (by kernel_rfl) (by decide) (by decide) (fun K hK => ?_) (fun K hK => ?_)
        · skip
          refine fresh_ (c := #[.int .i64 0, .int .i64 0, .string ⟨#[]⟩, .slice none 0 0, .slice none 0 0, .slice none 0 0, .int .i64 0]) (t := 30) (hz2) (by rfl) rfl ?_ ?_
          · first | (go_simp; done) | (go_simp; rfl)
          intro R6 w13 hz3
          refine hK.out _ _ ⟨((six_cells ((SPN.pre2 hz3).1.get 0 rfl)).1), ((six_cells ((SPN.pre2 hz3).1.get 0 rfl)).2.1), ((six_cells ((SPN.pre2 hz3).1.get 0 rfl)).2.2.1), ((six_cells ((SPN.pre2 hz3).1.get 0 rfl)).2.2.2.1), ((six_cells ((SPN.pre2 hz3).1.get 0 rfl)).2.2.2.2.1), ((six_cells ((SPN.pre2 hz3).1.get 0 rfl)).2.2.2.2.2.1), ((six_cells ((SPN.pre2 hz3).1.get 1 rfl)).1), ((six_cells ((SPN.pre2 hz3).1.get 1 rfl)).2.1), ((six_cells ((SPN.pre2 hz3).1.get 1 rfl)).2.2.1), ((six_cells ((SPN.pre2 hz3).1.get 1 rfl)).2.2.2.1), ((six_cells ((SPN.pre2 hz3).1.get 1 rfl)).2.2.2.2.1), ((six_cells ((SPN.pre2 hz3).1.get 1 rfl)).2.2.2.2.2.1), (SPN.pre2 hz3)⟩ (fun hHeld => ?_)
          clear hK K
          refine norm_ (a' := ?_) ?_ ?_
          rotate_left
          · show Act.put _ (some 5) _ = _
            simp only [Act.put, List.setIfInBounds_toArray, List.set_cons_zero, List.set_cons_succ, i64_w, i32_w]
            rfl
          refine one_ (i := 7) (N := some 6) #[true, true, true, true, true, true, true, true, false, false] rfl rfl (by kernel_rfl) (by decide) (fun K hK => ?_)
          refine fresh_ (c := #[.int .i64 0, .int .i64 0, .string ⟨#[]⟩, .slice none 0 0, .slice none 0 0, .slice none 0 0, .int .i64 0]) (t := 30) (hz3) (by rfl) rfl ?_ ?_
          · first | (go_simp; done) | (go_simp; rfl)
          intro R7 w14 hz4
          refine hK.out _ _ ⟨((six_cells ((SPN.pre2 hz4).1.get 0 rfl)).1), ((six_cells ((SPN.pre2 hz4).1.get 0 rfl)).2.1), ((six_cells ((SPN.pre2 hz4).1.get 0 rfl)).2.2.1), ((six_cells ((SPN.pre2 hz4).1.get 0 rfl)).2.2.2.1), ((six_cells ((SPN.pre2 hz4).1.get 0 rfl)).2.2.2.2.1), ((six_cells ((SPN.pre2 hz4).1.get 0 rfl)).2.2.2.2.2.1), ((six_cells ((SPN.pre2 hz4).1.get 1 rfl)).1), ((six_cells ((SPN.pre2 hz4).1.get 1 rfl)).2.1), ((six_cells ((SPN.pre2 hz4).1.get 1 rfl)).2.2.1), ((six_cells ((SPN.pre2 hz4).1.get 1 rfl)).2.2.2.1), ((six_cells ((SPN.pre2 hz4).1.get 1 rfl)).2.2.2.2.1), ((six_cells ((SPN.pre2 hz4).1.get 1 rfl)).2.2.2.2.2.1), (SPN.pre2 hz4)⟩ (fun hHeld => ?_)
          clear hK K
          refine norm_ (a' := ?_) ?_ ?_
          rotate_left
          · show Act.put _ (some 6) _ = _
            simp only [Act.put, List.setIfInBounds_toArray, List.set_cons_zero, List.set_cons_succ, i64_w, i32_w]
            rfl
          exact norm_ (by first | (simp only [putAll, Act.put, List.setIfInBounds_toArray, List.set_cons_zero, List.set_cons_succ]; done) | (simp only [putAll, Act.put, List.setIfInBounds_toArray, List.set_cons_zero, List.set_cons_succ]; rfl)) (hCont (R6, R7) _ hz4)
        · skip
          refine fresh_ (c := #[.int .i64 0, .int .i64 0, .string ⟨#[]⟩, .slice none 0 0, .slice none 0 0, .slice none 0 0, .int .i64 0]) (t := 30) (hz2) (by rfl) rfl ?_ ?_
          · first | (go_simp; done) | (go_simp; rfl)
          intro R7 w13 hz3
          refine hK.out _ _ ⟨((six_cells ((SPN.pre2 hz3).1.get 0 rfl)).1), ((six_cells ((SPN.pre2 hz3).1.get 0 rfl)).2.1), ((six_cells ((SPN.pre2 hz3).1.get 0 rfl)).2.2.1), ((six_cells ((SPN.pre2 hz3).1.get 0 rfl)).2.2.2.1), ((six_cells ((SPN.pre2 hz3).1.get 0 rfl)).2.2.2.2.1), ((six_cells ((SPN.pre2 hz3).1.get 0 rfl)).2.2.2.2.2.1), ((six_cells ((SPN.pre2 hz3).1.get 1 rfl)).1), ((six_cells ((SPN.pre2 hz3).1.get 1 rfl)).2.1), ((six_cells ((SPN.pre2 hz3).1.get 1 rfl)).2.2.1), ((six_cells ((SPN.pre2 hz3).1.get 1 rfl)).2.2.2.1), ((six_cells ((SPN.pre2 hz3).1.get 1 rfl)).2.2.2.2.1), ((six_cells ((SPN.pre2 hz3).1.get 1 rfl)).2.2.2.2.2.1), (SPN.pre2 hz3)⟩ (fun hHeld => ?_)
          clear hK K
          refine norm_ (a' := ?_) ?_ ?_
          rotate_left
          · show Act.put _ (some 6) _ = _
            simp only [Act.put, List.setIfInBounds_toArray, List.set_cons_zero, List.set_cons_succ, i64_w, i32_w]
            rfl
          refine one_ (i := 6) (N := some 5) #[true, true, true, true, true, true, true, true, false, false] rfl rfl (by kernel_rfl) (by decide) (fun K hK => ?_)
          refine fresh_ (c := #[.int .i64 0, .int .i64 0, .string ⟨#[]⟩, .slice none 0 0, .slice none 0 0, .slice none 0 0, .int .i64 0]) (t := 30) (hz3) (by rfl) rfl ?_ ?_
          · first | (go_simp; done) | (go_simp; rfl)
          intro R6 w14 hz4
          refine hK.out _ _ ⟨((six_cells ((SPN.pre2 hz4).1.get 0 rfl)).1), ((six_cells ((SPN.pre2 hz4).1.get 0 rfl)).2.1), ((six_cells ((SPN.pre2 hz4).1.get 0 rfl)).2.2.1), ((six_cells ((SPN.pre2 hz4).1.get 0 rfl)).2.2.2.1), ((six_cells ((SPN.pre2 hz4).1.get 0 rfl)).2.2.2.2.1), ((six_cells ((SPN.pre2 hz4).1.get 0 rfl)).2.2.2.2.2.1), ((six_cells ((SPN.pre2 hz4).1.get 1 rfl)).1), ((six_cells ((SPN.pre2 hz4).1.get 1 rfl)).2.1), ((six_cells ((SPN.pre2 hz4).1.get 1 rfl)).2.2.1), ((six_cells ((SPN.pre2 hz4).1.get 1 rfl)).2.2.2.1), ((six_cells ((SPN.pre2 hz4).1.get 1 rfl)).2.2.2.2.1), ((six_cells ((SPN.pre2 hz4).1.get 1 rfl)).2.2.2.2.2.1), (SPN.pre2 hz4)⟩ (fun hHeld => ?_)
          clear hK K
          refine norm_ (a' := ?_) ?_ ?_
          rotate_left
          · show Act.put _ (some 5) _ = _
            simp only [Act.put, List.setIfInBounds_toArray, List.set_cons_zero, List.set_cons_succ, i64_w, i32_w]
            rfl
          exact norm_ (by first | (simp only [putAll, Act.put, List.setIfInBounds_toArray, List.set_cons_zero, List.set_cons_succ]; done) | (simp only [putAll, Act.put, List.setIfInBounds_toArray, List.set_cons_zero, List.set_cons_succ]; rfl)) (hCont (R6, R7) _ (SPN.swap2 hz4))
      · skip
        refine fresh_ (c := #[.int .i64 0, .int .i64 0, .string ⟨#[]⟩, .slice none 0 0, .slice none 0 0, .slice none 0 0, .int .i64 0]) (t := 30) (hz1) (by rfl) rfl ?_ ?_
        · first | (go_simp; done) | (go_simp; rfl)
        intro R6 w12 hz2
        refine hK.out _ _ ⟨((six_cells ((SPN.pre2 hz2).1.get 0 rfl)).1), ((six_cells ((SPN.pre2 hz2).1.get 0 rfl)).2.1), ((six_cells ((SPN.pre2 hz2).1.get 0 rfl)).2.2.1), ((six_cells ((SPN.pre2 hz2).1.get 0 rfl)).2.2.2.1), ((six_cells ((SPN.pre2 hz2).1.get 0 rfl)).2.2.2.2.1), ((six_cells ((SPN.pre2 hz2).1.get 0 rfl)).2.2.2.2.2.1), ((six_cells ((SPN.pre2 hz2).1.get 1 rfl)).1), ((six_cells ((SPN.pre2 hz2).1.get 1 rfl)).2.1), ((six_cells ((SPN.pre2 hz2).1.get 1 rfl)).2.2.1), ((six_cells ((SPN.pre2 hz2).1.get 1 rfl)).2.2.2.1), ((six_cells ((SPN.pre2 hz2).1.get 1 rfl)).2.2.2.2.1), ((six_cells ((SPN.pre2 hz2).1.get 1 rfl)).2.2.2.2.2.1), (SPN.pre2 hz2)⟩ (fun hHeld => ?_)
        clear hK K
        refine norm_ (a' := ?_) ?_ ?_
        rotate_left
        · show Act.put _ (some 5) _ = _
          simp only [Act.put, List.setIfInBounds_toArray, List.set_cons_zero, List.set_cons_succ, i64_w, i32_w]
          rfl
        refine two_ (i := 5) (j := 7) (Ni := some 36) (Nj := some 6) #[true, true, true, true, true, true, true, false, false, false] #[true, true, true, true, true, false, true, true, false, false] rfl rfl rfl rfl (by kernel_rfl) (by decide) (by decide) (fun K hK => ?_) (fun K hK => ?_)
        · skip
          refine goes_ Tryz.func24 (by kernel_rfl) rfl #[.agg #[.int .i64 Kb, .int .i64 Hb, .string sb, .slice A3b n3b c3b, .slice A4b n4b c4b, .slice A5b n5b c5b], .agg #[.int .i64 Kb, .int .i64 Ha, .string sa, .slice A3a n3a c3a, .slice A4a n4a c4a, .slice A5a n5a c5a]] (by rfl) rfl rfl (by simp only [List.map_toArray, List.map_cons, List.map_nil]; rfl) ?_
          with_reducible refine ((HC2.out _)).mono ?_
          rintro e w13 ⟨rfl, hb⟩
          refine ⟨_, rfl, ?_⟩
          have hz3 := SPN.below (hz2) hb
          clear hb
          refine hK.out _ _ ⟨((six_cells ((SPN.pre2 hz3).1.get 0 rfl)).1), ((six_cells ((SPN.pre2 hz3).1.get 0 rfl)).2.1), ((six_cells ((SPN.pre2 hz3).1.get 0 rfl)).2.2.1), ((six_cells ((SPN.pre2 hz3).1.get 0 rfl)).2.2.2.1), ((six_cells ((SPN.pre2 hz3).1.get 0 rfl)).2.2.2.2.1), ((six_cells ((SPN.pre2 hz3).1.get 0 rfl)).2.2.2.2.2.1), ((six_cells ((SPN.pre2 hz3).1.get 1 rfl)).1), ((six_cells ((SPN.pre2 hz3).1.get 1 rfl)).2.1), ((six_cells ((SPN.pre2 hz3).1.get 1 rfl)).2.2.1), ((six_cells ((SPN.pre2 hz3).1.get 1 rfl)).2.2.2.1), ((six_cells ((SPN.pre2 hz3).1.get 1 rfl)).2.2.2.2.1), ((six_cells ((SPN.pre2 hz3).1.get 1 rfl)).2.2.2.2.2.1), (SPN.pre2 hz3)⟩ (fun hHeld => ?_)
          clear hK K
          refine norm_ (a' := ?_) ?_ ?_
          rotate_left
          · show Act.put _ (some 36) _ = _
            simp only [Act.put, List.setIfInBounds_toArray, List.set_cons_zero, List.set_cons_succ, i64_w, i32_w]
            rfl
          refine one_ (i := 7) (N := some 6) #[true, true, true, true, true, true, true, true, false, false] rfl rfl (by kernel_rfl) (by decide) (fun K hK => ?_)
          refine fresh_ (c := #[.int .i64 0, .int .i64 0, .string ⟨#[]⟩, .slice none 0 0, .slice none 0 0, .slice none 0 0, .int .i64 0]) (t := 30) (hz3) (by rfl) rfl ?_ ?_
          · first | (go_simp; done) | (go_simp; rfl)
          intro R7 w14 hz4
          refine hK.out _ _ ⟨((six_cells ((SPN.pre2 hz4).1.get 0 rfl)).1), ((six_cells ((SPN.pre2 hz4).1.get 0 rfl)).2.1), ((six_cells ((SPN.pre2 hz4).1.get 0 rfl)).2.2.1), ((six_cells ((SPN.pre2 hz4).1.get 0 rfl)).2.2.2.1), ((six_cells ((SPN.pre2 hz4).1.get 0 rfl)).2.2.2.2.1), ((six_cells ((SPN.pre2 hz4).1.get 0 rfl)).2.2.2.2.2.1), ((six_cells ((SPN.pre2 hz4).1.get 1 rfl)).1), ((six_cells ((SPN.pre2 hz4).1.get 1 rfl)).2.1), ((six_cells ((SPN.pre2 hz4).1.get 1 rfl)).2.2.1), ((six_cells ((SPN.pre2 hz4).1.get 1 rfl)).2.2.2.1), ((six_cells ((SPN.pre2 hz4).1.get 1 rfl)).2.2.2.2.1), ((six_cells ((SPN.pre2 hz4).1.get 1 rfl)).2.2.2.2.2.1), (SPN.pre2 hz4)⟩ (fun hHeld => ?_)
          clear hK K
          refine norm_ (a' := ?_) ?_ ?_
          rotate_left
          · show Act.put _ (some 6) _ = _
            simp only [Act.put, List.setIfInBounds_toArray, List.set_cons_zero, List.set_cons_succ, i64_w, i32_w]
            rfl
          exact norm_ (by first | (simp only [putAll, Act.put, List.setIfInBounds_toArray, List.set_cons_zero, List.set_cons_succ]; done) | (simp only [putAll, Act.put, List.setIfInBounds_toArray, List.set_cons_zero, List.set_cons_succ]; rfl)) (hCont (R6, R7) _ hz4)
        · skip
          refine fresh_ (c := #[.int .i64 0, .int .i64 0, .string ⟨#[]⟩, .slice none 0 0, .slice none 0 0, .slice none 0 0, .int .i64 0]) (t := 30) (hz2) (by rfl) rfl ?_ ?_
          · first | (go_simp; done) | (go_simp; rfl)
          intro R7 w13 hz3
          refine hK.out _ _ ⟨((six_cells ((SPN.pre2 hz3).1.get 0 rfl)).1), ((six_cells ((SPN.pre2 hz3).1.get 0 rfl)).2.1), ((six_cells ((SPN.pre2 hz3).1.get 0 rfl)).2.2.1), ((six_cells ((SPN.pre2 hz3).1.get 0 rfl)).2.2.2.1), ((six_cells ((SPN.pre2 hz3).1.get 0 rfl)).2.2.2.2.1), ((six_cells ((SPN.pre2 hz3).1.get 0 rfl)).2.2.2.2.2.1), ((six_cells ((SPN.pre2 hz3).1.get 1 rfl)).1), ((six_cells ((SPN.pre2 hz3).1.get 1 rfl)).2.1), ((six_cells ((SPN.pre2 hz3).1.get 1 rfl)).2.2.1), ((six_cells ((SPN.pre2 hz3).1.get 1 rfl)).2.2.2.1), ((six_cells ((SPN.pre2 hz3).1.get 1 rfl)).2.2.2.2.1), ((six_cells ((SPN.pre2 hz3).1.get 1 rfl)).2.2.2.2.2.1), (SPN.pre2 hz3)⟩ (fun hHeld => ?_)
          clear hK K
          refine norm_ (a' := ?_) ?_ ?_
          rotate_left
          · show Act.put _ (some 6) _ = _
            simp only [Act.put, List.setIfInBounds_toArray, List.set_cons_zero, List.set_cons_succ, i64_w, i32_w]
            rfl
          refine one_ (i := 5) (N := some 36) #[true, true, true, true, true, true, true, true, false, false] rfl rfl (by kernel_rfl) (by decide) (fun K hK => ?_)
          refine goes_ Tryz.func24 (by kernel_rfl) rfl #[.agg #[.int .i64 Kb, .int .i64 Hb, .string sb, .slice A3b n3b c3b, .slice A4b n4b c4b, .slice A5b n5b c5b], .agg #[.int .i64 Kb, .int .i64 Ha, .string sa, .slice A3a n3a c3a, .slice A4a n4a c4a, .slice A5a n5a c5a]] (by rfl) rfl rfl (by simp only [List.map_toArray, List.map_cons, List.map_nil]; rfl) ?_
          with_reducible refine ((HC2.out _)).mono ?_
          rintro e w14 ⟨rfl, hb⟩
          refine ⟨_, rfl, ?_⟩
          have hz4 := SPN.below (hz3) hb
          clear hb
          refine hK.out _ _ ⟨((six_cells ((SPN.pre2 hz4).1.get 0 rfl)).1), ((six_cells ((SPN.pre2 hz4).1.get 0 rfl)).2.1), ((six_cells ((SPN.pre2 hz4).1.get 0 rfl)).2.2.1), ((six_cells ((SPN.pre2 hz4).1.get 0 rfl)).2.2.2.1), ((six_cells ((SPN.pre2 hz4).1.get 0 rfl)).2.2.2.2.1), ((six_cells ((SPN.pre2 hz4).1.get 0 rfl)).2.2.2.2.2.1), ((six_cells ((SPN.pre2 hz4).1.get 1 rfl)).1), ((six_cells ((SPN.pre2 hz4).1.get 1 rfl)).2.1), ((six_cells ((SPN.pre2 hz4).1.get 1 rfl)).2.2.1), ((six_cells ((SPN.pre2 hz4).1.get 1 rfl)).2.2.2.1), ((six_cells ((SPN.pre2 hz4).1.get 1 rfl)).2.2.2.2.1), ((six_cells ((SPN.pre2 hz4).1.get 1 rfl)).2.2.2.2.2.1), (SPN.pre2 hz4)⟩ (fun hHeld => ?_)
          clear hK K
          refine norm_ (a' := ?_) ?_ ?_
          rotate_left
          · show Act.put _ (some 36) _ = _
            simp only [Act.put, List.setIfInBounds_toArray, List.set_cons_zero, List.set_cons_succ, i64_w, i32_w]
            rfl
          exact norm_ (by first | (simp only [putAll, Act.put, List.setIfInBounds_toArray, List.set_cons_zero, List.set_cons_succ]; done) | (simp only [putAll, Act.put, List.setIfInBounds_toArray, List.set_cons_zero, List.set_cons_succ]; rfl)) (hCont (R6, R7) _ hz4)
      · skip
        refine fresh_ (c := #[.int .i64 0, .int .i64 0, .string ⟨#[]⟩, .slice none 0 0, .slice none 0 0, .slice none 0 0, .int .i64 0]) (t := 30) (hz1) (by rfl) rfl ?_ ?_
        · first | (go_simp; done) | (go_simp; rfl)
        intro R7 w12 hz2
        refine hK.out _ _ ⟨((six_cells ((SPN.pre2 hz2).1.get 0 rfl)).1), ((six_cells ((SPN.pre2 hz2).1.get 0 rfl)).2.1), ((six_cells ((SPN.pre2 hz2).1.get 0 rfl)).2.2.1), ((six_cells ((SPN.pre2 hz2).1.get 0 rfl)).2.2.2.1), ((six_cells ((SPN.pre2 hz2).1.get 0 rfl)).2.2.2.2.1), ((six_cells ((SPN.pre2 hz2).1.get 0 rfl)).2.2.2.2.2.1), ((six_cells ((SPN.pre2 hz2).1.get 1 rfl)).1), ((six_cells ((SPN.pre2 hz2).1.get 1 rfl)).2.1), ((six_cells ((SPN.pre2 hz2).1.get 1 rfl)).2.2.1), ((six_cells ((SPN.pre2 hz2).1.get 1 rfl)).2.2.2.1), ((six_cells ((SPN.pre2 hz2).1.get 1 rfl)).2.2.2.2.1), ((six_cells ((SPN.pre2 hz2).1.get 1 rfl)).2.2.2.2.2.1), (SPN.pre2 hz2)⟩ (fun hHeld => ?_)
        clear hK K
        refine norm_ (a' := ?_) ?_ ?_
        rotate_left
        · show Act.put _ (some 6) _ = _
          simp only [Act.put, List.setIfInBounds_toArray, List.set_cons_zero, List.set_cons_succ, i64_w, i32_w]
          rfl
        refine two_ (i := 5) (j := 6) (Ni := some 36) (Nj := some 5) #[true, true, true, true, true, true, false, true, false, false] #[true, true, true, true, true, false, true, true, false, false] rfl rfl rfl rfl (by kernel_rfl) (by decide) (by decide) (fun K hK => ?_) (fun K hK => ?_)
        · skip
          refine goes_ Tryz.func24 (by kernel_rfl) rfl #[.agg #[.int .i64 Kb, .int .i64 Hb, .string sb, .slice A3b n3b c3b, .slice A4b n4b c4b, .slice A5b n5b c5b], .agg #[.int .i64 Kb, .int .i64 Ha, .string sa, .slice A3a n3a c3a, .slice A4a n4a c4a, .slice A5a n5a c5a]] (by rfl) rfl rfl (by simp only [List.map_toArray, List.map_cons, List.map_nil]; rfl) ?_
          with_reducible refine ((HC2.out _)).mono ?_
          rintro e w13 ⟨rfl, hb⟩
          refine ⟨_, rfl, ?_⟩
          have hz3 := SPN.below (hz2) hb
          clear hb
          refine hK.out _ _ ⟨((six_cells ((SPN.pre2 hz3).1.get 0 rfl)).1), ((six_cells ((SPN.pre2 hz3).1.get 0 rfl)).2.1), ((six_cells ((SPN.pre2 hz3).1.get 0 rfl)).2.2.1), ((six_cells ((SPN.pre2 hz3).1.get 0 rfl)).2.2.2.1), ((six_cells ((SPN.pre2 hz3).1.get 0 rfl)).2.2.2.2.1), ((six_cells ((SPN.pre2 hz3).1.get 0 rfl)).2.2.2.2.2.1), ((six_cells ((SPN.pre2 hz3).1.get 1 rfl)).1), ((six_cells ((SPN.pre2 hz3).1.get 1 rfl)).2.1), ((six_cells ((SPN.pre2 hz3).1.get 1 rfl)).2.2.1), ((six_cells ((SPN.pre2 hz3).1.get 1 rfl)).2.2.2.1), ((six_cells ((SPN.pre2 hz3).1.get 1 rfl)).2.2.2.2.1), ((six_cells ((SPN.pre2 hz3).1.get 1 rfl)).2.2.2.2.2.1), (SPN.pre2 hz3)⟩ (fun hHeld => ?_)
          clear hK K
          refine norm_ (a' := ?_) ?_ ?_
          rotate_left
          · show Act.put _ (some 36) _ = _
            simp only [Act.put, List.setIfInBounds_toArray, List.set_cons_zero, List.set_cons_succ, i64_w, i32_w]
            rfl
          refine one_ (i := 6) (N := some 5) #[true, true, true, true, true, true, true, true, false, false] rfl rfl (by kernel_rfl) (by decide) (fun K hK => ?_)
          refine fresh_ (c := #[.int .i64 0, .int .i64 0, .string ⟨#[]⟩, .slice none 0 0, .slice none 0 0, .slice none 0 0, .int .i64 0]) (t := 30) (hz3) (by rfl) rfl ?_ ?_
          · first | (go_simp; done) | (go_simp; rfl)
          intro R6 w14 hz4
          refine hK.out _ _ ⟨((six_cells ((SPN.pre2 hz4).1.get 0 rfl)).1), ((six_cells ((SPN.pre2 hz4).1.get 0 rfl)).2.1), ((six_cells ((SPN.pre2 hz4).1.get 0 rfl)).2.2.1), ((six_cells ((SPN.pre2 hz4).1.get 0 rfl)).2.2.2.1), ((six_cells ((SPN.pre2 hz4).1.get 0 rfl)).2.2.2.2.1), ((six_cells ((SPN.pre2 hz4).1.get 0 rfl)).2.2.2.2.2.1), ((six_cells ((SPN.pre2 hz4).1.get 1 rfl)).1), ((six_cells ((SPN.pre2 hz4).1.get 1 rfl)).2.1), ((six_cells ((SPN.pre2 hz4).1.get 1 rfl)).2.2.1), ((six_cells ((SPN.pre2 hz4).1.get 1 rfl)).2.2.2.1), ((six_cells ((SPN.pre2 hz4).1.get 1 rfl)).2.2.2.2.1), ((six_cells ((SPN.pre2 hz4).1.get 1 rfl)).2.2.2.2.2.1), (SPN.pre2 hz4)⟩ (fun hHeld => ?_)
          clear hK K
          refine norm_ (a' := ?_) ?_ ?_
          rotate_left
          · show Act.put _ (some 5) _ = _
            simp only [Act.put, List.setIfInBounds_toArray, List.set_cons_zero, List.set_cons_succ, i64_w, i32_w]
            rfl
          exact norm_ (by first | (simp only [putAll, Act.put, List.setIfInBounds_toArray, List.set_cons_zero, List.set_cons_succ]; done) | (simp only [putAll, Act.put, List.setIfInBounds_toArray, List.set_cons_zero, List.set_cons_succ]; rfl)) (hCont (R6, R7) _ (SPN.swap2 hz4))
        · skip
          refine fresh_ (c := #[.int .i64 0, .int .i64 0, .string ⟨#[]⟩, .slice none 0 0, .slice none 0 0, .slice none 0 0, .int .i64 0]) (t := 30) (hz2) (by rfl) rfl ?_ ?_
          · first | (go_simp; done) | (go_simp; rfl)
          intro R6 w13 hz3
          refine hK.out _ _ ⟨((six_cells ((SPN.pre2 hz3).1.get 0 rfl)).1), ((six_cells ((SPN.pre2 hz3).1.get 0 rfl)).2.1), ((six_cells ((SPN.pre2 hz3).1.get 0 rfl)).2.2.1), ((six_cells ((SPN.pre2 hz3).1.get 0 rfl)).2.2.2.1), ((six_cells ((SPN.pre2 hz3).1.get 0 rfl)).2.2.2.2.1), ((six_cells ((SPN.pre2 hz3).1.get 0 rfl)).2.2.2.2.2.1), ((six_cells ((SPN.pre2 hz3).1.get 1 rfl)).1), ((six_cells ((SPN.pre2 hz3).1.get 1 rfl)).2.1), ((six_cells ((SPN.pre2 hz3).1.get 1 rfl)).2.2.1), ((six_cells ((SPN.pre2 hz3).1.get 1 rfl)).2.2.2.1), ((six_cells ((SPN.pre2 hz3).1.get 1 rfl)).2.2.2.2.1), ((six_cells ((SPN.pre2 hz3).1.get 1 rfl)).2.2.2.2.2.1), (SPN.pre2 hz3)⟩ (fun hHeld => ?_)
          clear hK K
          refine norm_ (a' := ?_) ?_ ?_
          rotate_left
          · show Act.put _ (some 5) _ = _
            simp only [Act.put, List.setIfInBounds_toArray, List.set_cons_zero, List.set_cons_succ, i64_w, i32_w]
            rfl
          refine one_ (i := 5) (N := some 36) #[true, true, true, true, true, true, true, true, false, false] rfl rfl (by kernel_rfl) (by decide) (fun K hK => ?_)
          refine goes_ Tryz.func24 (by kernel_rfl) rfl #[.agg #[.int .i64 Kb, .int .i64 Hb, .string sb, .slice A3b n3b c3b, .slice A4b n4b c4b, .slice A5b n5b c5b], .agg #[.int .i64 Kb, .int .i64 Ha, .string sa, .slice A3a n3a c3a, .slice A4a n4a c4a, .slice A5a n5a c5a]] (by rfl) rfl rfl (by simp only [List.map_toArray, List.map_cons, List.map_nil]; rfl) ?_
          with_reducible refine ((HC2.out _)).mono ?_
          rintro e w14 ⟨rfl, hb⟩
          refine ⟨_, rfl, ?_⟩
          have hz4 := SPN.below (hz3) hb
          clear hb
          refine hK.out _ _ ⟨((six_cells ((SPN.pre2 hz4).1.get 0 rfl)).1), ((six_cells ((SPN.pre2 hz4).1.get 0 rfl)).2.1), ((six_cells ((SPN.pre2 hz4).1.get 0 rfl)).2.2.1), ((six_cells ((SPN.pre2 hz4).1.get 0 rfl)).2.2.2.1), ((six_cells ((SPN.pre2 hz4).1.get 0 rfl)).2.2.2.2.1), ((six_cells ((SPN.pre2 hz4).1.get 0 rfl)).2.2.2.2.2.1), ((six_cells ((SPN.pre2 hz4).1.get 1 rfl)).1), ((six_cells ((SPN.pre2 hz4).1.get 1 rfl)).2.1), ((six_cells ((SPN.pre2 hz4).1.get 1 rfl)).2.2.1), ((six_cells ((SPN.pre2 hz4).1.get 1 rfl)).2.2.2.1), ((six_cells ((SPN.pre2 hz4).1.get 1 rfl)).2.2.2.2.1), ((six_cells ((SPN.pre2 hz4).1.get 1 rfl)).2.2.2.2.2.1), (SPN.pre2 hz4)⟩ (fun hHeld => ?_)
          clear hK K
          refine norm_ (a' := ?_) ?_ ?_
          rotate_left
          · show Act.put _ (some 36) _ = _
            simp only [Act.put, List.setIfInBounds_toArray, List.set_cons_zero, List.set_cons_succ, i64_w, i32_w]
            rfl
          exact norm_ (by first | (simp only [putAll, Act.put, List.setIfInBounds_toArray, List.set_cons_zero, List.set_cons_succ]; done) | (simp only [putAll, Act.put, List.setIfInBounds_toArray, List.set_cons_zero, List.set_cons_succ]; rfl)) (hCont (R6, R7) _ (SPN.swap2 hz4))
    · skip
      refine fresh_ (c := #[.int .i64 0, .int .i64 0, .string ⟨#[]⟩, .slice none 0 0, .slice none 0 0, .slice none 0 0, .int .i64 0]) (t := 30) (hHeld.2.2.2.2.2.2.2.2.2.2.2.2) (by rfl) rfl ?_ ?_
      · first | (go_simp; done) | (go_simp; rfl)
      intro R6 w11 hz1
      refine hK.out _ _ ⟨((six_cells ((SPN.pre2 hz1).1.get 0 rfl)).1), ((six_cells ((SPN.pre2 hz1).1.get 0 rfl)).2.1), ((six_cells ((SPN.pre2 hz1).1.get 0 rfl)).2.2.1), ((six_cells ((SPN.pre2 hz1).1.get 0 rfl)).2.2.2.1), ((six_cells ((SPN.pre2 hz1).1.get 0 rfl)).2.2.2.2.1), ((six_cells ((SPN.pre2 hz1).1.get 0 rfl)).2.2.2.2.2.1), ((six_cells ((SPN.pre2 hz1).1.get 1 rfl)).1), ((six_cells ((SPN.pre2 hz1).1.get 1 rfl)).2.1), ((six_cells ((SPN.pre2 hz1).1.get 1 rfl)).2.2.1), ((six_cells ((SPN.pre2 hz1).1.get 1 rfl)).2.2.2.1), ((six_cells ((SPN.pre2 hz1).1.get 1 rfl)).2.2.2.2.1), ((six_cells ((SPN.pre2 hz1).1.get 1 rfl)).2.2.2.2.2.1), (SPN.pre2 hz1)⟩ (fun hHeld => ?_)
      clear hK K
      refine norm_ (a' := ?_) ?_ ?_
      rotate_left
      · show Act.put _ (some 5) _ = _
        simp only [Act.put, List.setIfInBounds_toArray, List.set_cons_zero, List.set_cons_succ, i64_w, i32_w]
        rfl
      refine two_ (i := 2) (j := 7) (Ni := some 33) (Nj := some 6) #[true, true, true, true, true, false, true, false, false, false] #[true, true, false, true, true, false, true, true, false, false] rfl rfl rfl rfl (by kernel_rfl) (by decide) (by decide) (fun K hK => ?_) (fun K hK => ?_)
      · skip
        refine goes_ Tryz.func24 (by kernel_rfl) rfl #[.agg #[.int .i64 Kb, .int .i64 Ha, .string sa, .slice A3a n3a c3a, .slice A4a n4a c4a, .slice A5a n5a c5a], .agg #[.int .i64 Kb, .int .i64 Hb, .string sb, .slice A3b n3b c3b, .slice A4b n4b c4b, .slice A5b n5b c5b]] (by rfl) rfl rfl (by simp only [List.map_toArray, List.map_cons, List.map_nil]; rfl) ?_
        with_reducible refine ((HC1.out _)).mono ?_
        rintro e w12 ⟨rfl, hb⟩
        refine ⟨_, rfl, ?_⟩
        have hz2 := SPN.below (hz1) hb
        clear hb
        refine hK.out _ _ ⟨((six_cells ((SPN.pre2 hz2).1.get 0 rfl)).1), ((six_cells ((SPN.pre2 hz2).1.get 0 rfl)).2.1), ((six_cells ((SPN.pre2 hz2).1.get 0 rfl)).2.2.1), ((six_cells ((SPN.pre2 hz2).1.get 0 rfl)).2.2.2.1), ((six_cells ((SPN.pre2 hz2).1.get 0 rfl)).2.2.2.2.1), ((six_cells ((SPN.pre2 hz2).1.get 0 rfl)).2.2.2.2.2.1), ((six_cells ((SPN.pre2 hz2).1.get 1 rfl)).1), ((six_cells ((SPN.pre2 hz2).1.get 1 rfl)).2.1), ((six_cells ((SPN.pre2 hz2).1.get 1 rfl)).2.2.1), ((six_cells ((SPN.pre2 hz2).1.get 1 rfl)).2.2.2.1), ((six_cells ((SPN.pre2 hz2).1.get 1 rfl)).2.2.2.2.1), ((six_cells ((SPN.pre2 hz2).1.get 1 rfl)).2.2.2.2.2.1), (SPN.pre2 hz2)⟩ (fun hHeld => ?_)
        clear hK K
        refine norm_ (a' := ?_) ?_ ?_
        rotate_left
        · show Act.put _ (some 33) _ = _
          simp only [Act.put, List.setIfInBounds_toArray, List.set_cons_zero, List.set_cons_succ, i64_w, i32_w]
          rfl
        refine two_ (i := 5) (j := 7) (Ni := some 36) (Nj := some 6) #[true, true, true, true, true, true, true, false, false, false] #[true, true, true, true, true, false, true, true, false, false] rfl rfl rfl rfl (by kernel_rfl) (by decide) (by decide) (fun K hK => ?_) (fun K hK => ?_)
        · skip
          refine goes_ Tryz.func24 (by kernel_rfl) rfl #[.agg #[.int .i64 Kb, .int .i64 Hb, .string sb, .slice A3b n3b c3b, .slice A4b n4b c4b, .slice A5b n5b c5b], .agg #[.int .i64 Kb, .int .i64 Ha, .string sa, .slice A3a n3a c3a, .slice A4a n4a c4a, .slice A5a n5a c5a]] (by rfl) rfl rfl (by simp only [List.map_toArray, List.map_cons, List.map_nil]; rfl) ?_
          with_reducible refine ((HC2.out _)).mono ?_
          rintro e w13 ⟨rfl, hb⟩
          refine ⟨_, rfl, ?_⟩
          have hz3 := SPN.below (hz2) hb
          clear hb
          refine hK.out _ _ ⟨((six_cells ((SPN.pre2 hz3).1.get 0 rfl)).1), ((six_cells ((SPN.pre2 hz3).1.get 0 rfl)).2.1), ((six_cells ((SPN.pre2 hz3).1.get 0 rfl)).2.2.1), ((six_cells ((SPN.pre2 hz3).1.get 0 rfl)).2.2.2.1), ((six_cells ((SPN.pre2 hz3).1.get 0 rfl)).2.2.2.2.1), ((six_cells ((SPN.pre2 hz3).1.get 0 rfl)).2.2.2.2.2.1), ((six_cells ((SPN.pre2 hz3).1.get 1 rfl)).1), ((six_cells ((SPN.pre2 hz3).1.get 1 rfl)).2.1), ((six_cells ((SPN.pre2 hz3).1.get 1 rfl)).2.2.1), ((six_cells ((SPN.pre2 hz3).1.get 1 rfl)).2.2.2.1), ((six_cells ((SPN.pre2 hz3).1.get 1 rfl)).2.2.2.2.1), ((six_cells ((SPN.pre2 hz3).1.get 1 rfl)).2.2.2.2.2.1), (SPN.pre2 hz3)⟩ (fun hHeld => ?_)
          clear hK K
          refine norm_ (a' := ?_) ?_ ?_
          rotate_left
          · show Act.put _ (some 36) _ = _
            simp only [Act.put, List.setIfInBounds_toArray, List.set_cons_zero, List.set_cons_succ, i64_w, i32_w]
            rfl
          refine one_ (i := 7) (N := some 6) #[true, true, true, true, true, true, true, true, false, false] rfl rfl (by kernel_rfl) (by decide) (fun K hK => ?_)
          refine fresh_ (c := #[.int .i64 0, .int .i64 0, .string ⟨#[]⟩, .slice none 0 0, .slice none 0 0, .slice none 0 0, .int .i64 0]) (t := 30) (hz3) (by rfl) rfl ?_ ?_
          · first | (go_simp; done) | (go_simp; rfl)
          intro R7 w14 hz4
          refine hK.out _ _ ⟨((six_cells ((SPN.pre2 hz4).1.get 0 rfl)).1), ((six_cells ((SPN.pre2 hz4).1.get 0 rfl)).2.1), ((six_cells ((SPN.pre2 hz4).1.get 0 rfl)).2.2.1), ((six_cells ((SPN.pre2 hz4).1.get 0 rfl)).2.2.2.1), ((six_cells ((SPN.pre2 hz4).1.get 0 rfl)).2.2.2.2.1), ((six_cells ((SPN.pre2 hz4).1.get 0 rfl)).2.2.2.2.2.1), ((six_cells ((SPN.pre2 hz4).1.get 1 rfl)).1), ((six_cells ((SPN.pre2 hz4).1.get 1 rfl)).2.1), ((six_cells ((SPN.pre2 hz4).1.get 1 rfl)).2.2.1), ((six_cells ((SPN.pre2 hz4).1.get 1 rfl)).2.2.2.1), ((six_cells ((SPN.pre2 hz4).1.get 1 rfl)).2.2.2.2.1), ((six_cells ((SPN.pre2 hz4).1.get 1 rfl)).2.2.2.2.2.1), (SPN.pre2 hz4)⟩ (fun hHeld => ?_)
          clear hK K
          refine norm_ (a' := ?_) ?_ ?_
          rotate_left
          · show Act.put _ (some 6) _ = _
            simp only [Act.put, List.setIfInBounds_toArray, List.set_cons_zero, List.set_cons_succ, i64_w, i32_w]
            rfl
          exact norm_ (by first | (simp only [putAll, Act.put, List.setIfInBounds_toArray, List.set_cons_zero, List.set_cons_succ]; done) | (simp only [putAll, Act.put, List.setIfInBounds_toArray, List.set_cons_zero, List.set_cons_succ]; rfl)) (hCont (R6, R7) _ hz4)
        · skip
          refine fresh_ (c := #[.int .i64 0, .int .i64 0, .string ⟨#[]⟩, .slice none 0 0, .slice none 0 0, .slice none 0 0, .int .i64 0]) (t := 30) (hz2) (by rfl) rfl ?_ ?_
          · first | (go_simp; done) | (go_simp; rfl)
          intro R7 w13 hz3
          refine hK.out _ _ ⟨((six_cells ((SPN.pre2 hz3).1.get 0 rfl)).1), ((six_cells ((SPN.pre2 hz3).1.get 0 rfl)).2.1), ((six_cells ((SPN.pre2 hz3).1.get 0 rfl)).2.2.1), ((six_cells ((SPN.pre2 hz3).1.get 0 rfl)).2.2.2.1), ((six_cells ((SPN.pre2 hz3).1.get 0 rfl)).2.2.2.2.1), ((six_cells ((SPN.pre2 hz3).1.get 0 rfl)).2.2.2.2.2.1), ((six_cells ((SPN.pre2 hz3).1.get 1 rfl)).1), ((six_cells ((SPN.pre2 hz3).1.get 1 rfl)).2.1), ((six_cells ((SPN.pre2 hz3).1.get 1 rfl)).2.2.1), ((six_cells ((SPN.pre2 hz3).1.get 1 rfl)).2.2.2.1), ((six_cells ((SPN.pre2 hz3).1.get 1 rfl)).2.2.2.2.1), ((six_cells ((SPN.pre2 hz3).1.get 1 rfl)).2.2.2.2.2.1), (SPN.pre2 hz3)⟩ (fun hHeld => ?_)
          clear hK K
          refine norm_ (a' := ?_) ?_ ?_
          rotate_left
          · show Act.put _ (some 6) _ = _
            simp only [Act.put, List.setIfInBounds_toArray, List.set_cons_zero, List.set_cons_succ, i64_w, i32_w]
            rfl
          refine one_ (i := 5) (N := some 36) #[true, true, true, true, true, true, true, true, false, false] rfl rfl (by kernel_rfl) (by decide) (fun K hK => ?_)
          refine goes_ Tryz.func24 (by kernel_rfl) rfl #[.agg #[.int .i64 Kb, .int .i64 Hb, .string sb, .slice A3b n3b c3b, .slice A4b n4b c4b, .slice A5b n5b c5b], .agg #[.int .i64 Kb, .int .i64 Ha, .string sa, .slice A3a n3a c3a, .slice A4a n4a c4a, .slice A5a n5a c5a]] (by rfl) rfl rfl (by simp only [List.map_toArray, List.map_cons, List.map_nil]; rfl) ?_
          with_reducible refine ((HC2.out _)).mono ?_
          rintro e w14 ⟨rfl, hb⟩
          refine ⟨_, rfl, ?_⟩
          have hz4 := SPN.below (hz3) hb
          clear hb
          refine hK.out _ _ ⟨((six_cells ((SPN.pre2 hz4).1.get 0 rfl)).1), ((six_cells ((SPN.pre2 hz4).1.get 0 rfl)).2.1), ((six_cells ((SPN.pre2 hz4).1.get 0 rfl)).2.2.1), ((six_cells ((SPN.pre2 hz4).1.get 0 rfl)).2.2.2.1), ((six_cells ((SPN.pre2 hz4).1.get 0 rfl)).2.2.2.2.1), ((six_cells ((SPN.pre2 hz4).1.get 0 rfl)).2.2.2.2.2.1), ((six_cells ((SPN.pre2 hz4).1.get 1 rfl)).1), ((six_cells ((SPN.pre2 hz4).1.get 1 rfl)).2.1), ((six_cells ((SPN.pre2 hz4).1.get 1 rfl)).2.2.1), ((six_cells ((SPN.pre2 hz4).1.get 1 rfl)).2.2.2.1), ((six_cells ((SPN.pre2 hz4).1.get 1 rfl)).2.2.2.2.1), ((six_cells ((SPN.pre2 hz4).1.get 1 rfl)).2.2.2.2.2.1), (SPN.pre2 hz4)⟩ (fun hHeld => ?_)
          clear hK K
          refine norm_ (a' := ?_) ?_ ?_
          rotate_left
          · show Act.put _ (some 36) _ = _
            simp only [Act.put, List.setIfInBounds_toArray, List.set_cons_zero, List.set_cons_succ, i64_w, i32_w]
            rfl
          exact norm_ (by first | (simp only [putAll, Act.put, List.setIfInBounds_toArray, List.set_cons_zero, List.set_cons_succ]; done) | (simp only [putAll, Act.put, List.setIfInBounds_toArray, List.set_cons_zero, List.set_cons_succ]; rfl)) (hCont (R6, R7) _ hz4)
      · skip
        refine fresh_ (c := #[.int .i64 0, .int .i64 0, .string ⟨#[]⟩, .slice none 0 0, .slice none 0 0, .slice none 0 0, .int .i64 0]) (t := 30) (hz1) (by rfl) rfl ?_ ?_
        · first | (go_simp; done) | (go_simp; rfl)
        intro R7 w12 hz2
        refine hK.out _ _ ⟨((six_cells ((SPN.pre2 hz2).1.get 0 rfl)).1), ((six_cells ((SPN.pre2 hz2).1.get 0 rfl)).2.1), ((six_cells ((SPN.pre2 hz2).1.get 0 rfl)).2.2.1), ((six_cells ((SPN.pre2 hz2).1.get 0 rfl)).2.2.2.1), ((six_cells ((SPN.pre2 hz2).1.get 0 rfl)).2.2.2.2.1), ((six_cells ((SPN.pre2 hz2).1.get 0 rfl)).2.2.2.2.2.1), ((six_cells ((SPN.pre2 hz2).1.get 1 rfl)).1), ((six_cells ((SPN.pre2 hz2).1.get 1 rfl)).2.1), ((six_cells ((SPN.pre2 hz2).1.get 1 rfl)).2.2.1), ((six_cells ((SPN.pre2 hz2).1.get 1 rfl)).2.2.2.1), ((six_cells ((SPN.pre2 hz2).1.get 1 rfl)).2.2.2.2.1), ((six_cells ((SPN.pre2 hz2).1.get 1 rfl)).2.2.2.2.2.1), (SPN.pre2 hz2)⟩ (fun hHeld => ?_)
        clear hK K
        refine norm_ (a' := ?_) ?_ ?_
        rotate_left
        · show Act.put _ (some 6) _ = _
          simp only [Act.put, List.setIfInBounds_toArray, List.set_cons_zero, List.set_cons_succ, i64_w, i32_w]
          rfl
        refine one_ (i := 2) (N := some 33) #[true, true, true, true, true, false, true, true, false, false] rfl rfl (by kernel_rfl) (by decide) (fun K hK => ?_)
        refine goes_ Tryz.func24 (by kernel_rfl) rfl #[.agg #[.int .i64 Kb, .int .i64 Ha, .string sa, .slice A3a n3a c3a, .slice A4a n4a c4a, .slice A5a n5a c5a], .agg #[.int .i64 Kb, .int .i64 Hb, .string sb, .slice A3b n3b c3b, .slice A4b n4b c4b, .slice A5b n5b c5b]] (by rfl) rfl rfl (by simp only [List.map_toArray, List.map_cons, List.map_nil]; rfl) ?_
        with_reducible refine ((HC1.out _)).mono ?_
        rintro e w13 ⟨rfl, hb⟩
        refine ⟨_, rfl, ?_⟩
        have hz3 := SPN.below (hz2) hb
        clear hb
        refine hK.out _ _ ⟨((six_cells ((SPN.pre2 hz3).1.get 0 rfl)).1), ((six_cells ((SPN.pre2 hz3).1.get 0 rfl)).2.1), ((six_cells ((SPN.pre2 hz3).1.get 0 rfl)).2.2.1), ((six_cells ((SPN.pre2 hz3).1.get 0 rfl)).2.2.2.1), ((six_cells ((SPN.pre2 hz3).1.get 0 rfl)).2.2.2.2.1), ((six_cells ((SPN.pre2 hz3).1.get 0 rfl)).2.2.2.2.2.1), ((six_cells ((SPN.pre2 hz3).1.get 1 rfl)).1), ((six_cells ((SPN.pre2 hz3).1.get 1 rfl)).2.1), ((six_cells ((SPN.pre2 hz3).1.get 1 rfl)).2.2.1), ((six_cells ((SPN.pre2 hz3).1.get 1 rfl)).2.2.2.1), ((six_cells ((SPN.pre2 hz3).1.get 1 rfl)).2.2.2.2.1), ((six_cells ((SPN.pre2 hz3).1.get 1 rfl)).2.2.2.2.2.1), (SPN.pre2 hz3)⟩ (fun hHeld => ?_)
        clear hK K
        refine norm_ (a' := ?_) ?_ ?_
        rotate_left
        · show Act.put _ (some 33) _ = _
          simp only [Act.put, List.setIfInBounds_toArray, List.set_cons_zero, List.set_cons_succ, i64_w, i32_w]
          rfl
        refine one_ (i := 5) (N := some 36) #[true, true, true, true, true, true, true, true, false, false] rfl rfl (by kernel_rfl) (by decide) (fun K hK => ?_)
        refine goes_ Tryz.func24 (by kernel_rfl) rfl #[.agg #[.int .i64 Kb, .int .i64 Hb, .string sb, .slice A3b n3b c3b, .slice A4b n4b c4b, .slice A5b n5b c5b], .agg #[.int .i64 Kb, .int .i64 Ha, .string sa, .slice A3a n3a c3a, .slice A4a n4a c4a, .slice A5a n5a c5a]] (by rfl) rfl rfl (by simp only [List.map_toArray, List.map_cons, List.map_nil]; rfl) ?_
        with_reducible refine ((HC2.out _)).mono ?_
        rintro e w14 ⟨rfl, hb⟩
        refine ⟨_, rfl, ?_⟩
        have hz4 := SPN.below (hz3) hb
        clear hb
        refine hK.out _ _ ⟨((six_cells ((SPN.pre2 hz4).1.get 0 rfl)).1), ((six_cells ((SPN.pre2 hz4).1.get 0 rfl)).2.1), ((six_cells ((SPN.pre2 hz4).1.get 0 rfl)).2.2.1), ((six_cells ((SPN.pre2 hz4).1.get 0 rfl)).2.2.2.1), ((six_cells ((SPN.pre2 hz4).1.get 0 rfl)).2.2.2.2.1), ((six_cells ((SPN.pre2 hz4).1.get 0 rfl)).2.2.2.2.2.1), ((six_cells ((SPN.pre2 hz4).1.get 1 rfl)).1), ((six_cells ((SPN.pre2 hz4).1.get 1 rfl)).2.1), ((six_cells ((SPN.pre2 hz4).1.get 1 rfl)).2.2.1), ((six_cells ((SPN.pre2 hz4).1.get 1 rfl)).2.2.2.1), ((six_cells ((SPN.pre2 hz4).1.get 1 rfl)).2.2.2.2.1), ((six_cells ((SPN.pre2 hz4).1.get 1 rfl)).2.2.2.2.2.1), (SPN.pre2 hz4)⟩ (fun hHeld => ?_)
        clear hK K
        refine norm_ (a' := ?_) ?_ ?_
        rotate_left
        · show Act.put _ (some 36) _ = _
          simp only [Act.put, List.setIfInBounds_toArray, List.set_cons_zero, List.set_cons_succ, i64_w, i32_w]
          rfl
        exact norm_ (by first | (simp only [putAll, Act.put, List.setIfInBounds_toArray, List.set_cons_zero, List.set_cons_succ]; done) | (simp only [putAll, Act.put, List.setIfInBounds_toArray, List.set_cons_zero, List.set_cons_succ]; rfl)) (hCont (R6, R7) _ hz4)
    · skip
      refine fresh_ (c := #[.int .i64 0, .int .i64 0, .string ⟨#[]⟩, .slice none 0 0, .slice none 0 0, .slice none 0 0, .int .i64 0]) (t := 30) (hHeld.2.2.2.2.2.2.2.2.2.2.2.2) (by rfl) rfl ?_ ?_
      · first | (go_simp; done) | (go_simp; rfl)
      intro R7 w11 hz1
      refine hK.out _ _ ⟨((six_cells ((SPN.pre2 hz1).1.get 0 rfl)).1), ((six_cells ((SPN.pre2 hz1).1.get 0 rfl)).2.1), ((six_cells ((SPN.pre2 hz1).1.get 0 rfl)).2.2.1), ((six_cells ((SPN.pre2 hz1).1.get 0 rfl)).2.2.2.1), ((six_cells ((SPN.pre2 hz1).1.get 0 rfl)).2.2.2.2.1), ((six_cells ((SPN.pre2 hz1).1.get 0 rfl)).2.2.2.2.2.1), ((six_cells ((SPN.pre2 hz1).1.get 1 rfl)).1), ((six_cells ((SPN.pre2 hz1).1.get 1 rfl)).2.1), ((six_cells ((SPN.pre2 hz1).1.get 1 rfl)).2.2.1), ((six_cells ((SPN.pre2 hz1).1.get 1 rfl)).2.2.2.1), ((six_cells ((SPN.pre2 hz1).1.get 1 rfl)).2.2.2.2.1), ((six_cells ((SPN.pre2 hz1).1.get 1 rfl)).2.2.2.2.2.1), (SPN.pre2 hz1)⟩ (fun hHeld => ?_)
      clear hK K
      refine norm_ (a' := ?_) ?_ ?_
      rotate_left
      · show Act.put _ (some 6) _ = _
        simp only [Act.put, List.setIfInBounds_toArray, List.set_cons_zero, List.set_cons_succ, i64_w, i32_w]
        rfl
      refine two_ (i := 2) (j := 6) (Ni := some 33) (Nj := some 5) #[true, true, true, true, true, false, false, true, false, false] #[true, true, false, true, true, false, true, true, false, false] rfl rfl rfl rfl (by kernel_rfl) (by decide) (by decide) (fun K hK => ?_) (fun K hK => ?_)
      · skip
        refine goes_ Tryz.func24 (by kernel_rfl) rfl #[.agg #[.int .i64 Kb, .int .i64 Ha, .string sa, .slice A3a n3a c3a, .slice A4a n4a c4a, .slice A5a n5a c5a], .agg #[.int .i64 Kb, .int .i64 Hb, .string sb, .slice A3b n3b c3b, .slice A4b n4b c4b, .slice A5b n5b c5b]] (by rfl) rfl rfl (by simp only [List.map_toArray, List.map_cons, List.map_nil]; rfl) ?_
        with_reducible refine ((HC1.out _)).mono ?_
        rintro e w12 ⟨rfl, hb⟩
        refine ⟨_, rfl, ?_⟩
        have hz2 := SPN.below (hz1) hb
        clear hb
        refine hK.out _ _ ⟨((six_cells ((SPN.pre2 hz2).1.get 0 rfl)).1), ((six_cells ((SPN.pre2 hz2).1.get 0 rfl)).2.1), ((six_cells ((SPN.pre2 hz2).1.get 0 rfl)).2.2.1), ((six_cells ((SPN.pre2 hz2).1.get 0 rfl)).2.2.2.1), ((six_cells ((SPN.pre2 hz2).1.get 0 rfl)).2.2.2.2.1), ((six_cells ((SPN.pre2 hz2).1.get 0 rfl)).2.2.2.2.2.1), ((six_cells ((SPN.pre2 hz2).1.get 1 rfl)).1), ((six_cells ((SPN.pre2 hz2).1.get 1 rfl)).2.1), ((six_cells ((SPN.pre2 hz2).1.get 1 rfl)).2.2.1), ((six_cells ((SPN.pre2 hz2).1.get 1 rfl)).2.2.2.1), ((six_cells ((SPN.pre2 hz2).1.get 1 rfl)).2.2.2.2.1), ((six_cells ((SPN.pre2 hz2).1.get 1 rfl)).2.2.2.2.2.1), (SPN.pre2 hz2)⟩ (fun hHeld => ?_)
        clear hK K
        refine norm_ (a' := ?_) ?_ ?_
        rotate_left
        · show Act.put _ (some 33) _ = _
          simp only [Act.put, List.setIfInBounds_toArray, List.set_cons_zero, List.set_cons_succ, i64_w, i32_w]
          rfl
        refine two_ (i := 5) (j := 6) (Ni := some 36) (Nj := some 5) #[true, true, true, true, true, true, false, true, false, false] #[true, true, true, true, true, false, true, true, false, false] rfl rfl rfl rfl (by kernel_rfl) (by decide) (by decide) (fun K hK => ?_) (fun K hK => ?_)
        · skip
          refine goes_ Tryz.func24 (by kernel_rfl) rfl #[.agg #[.int .i64 Kb, .int .i64 Hb, .string sb, .slice A3b n3b c3b, .slice A4b n4b c4b, .slice A5b n5b c5b], .agg #[.int .i64 Kb, .int .i64 Ha, .string sa, .slice A3a n3a c3a, .slice A4a n4a c4a, .slice A5a n5a c5a]] (by rfl) rfl rfl (by simp only [List.map_toArray, List.map_cons, List.map_nil]; rfl) ?_
          with_reducible refine ((HC2.out _)).mono ?_
          rintro e w13 ⟨rfl, hb⟩
          refine ⟨_, rfl, ?_⟩
          have hz3 := SPN.below (hz2) hb
          clear hb
          refine hK.out _ _ ⟨((six_cells ((SPN.pre2 hz3).1.get 0 rfl)).1), ((six_cells ((SPN.pre2 hz3).1.get 0 rfl)).2.1), ((six_cells ((SPN.pre2 hz3).1.get 0 rfl)).2.2.1), ((six_cells ((SPN.pre2 hz3).1.get 0 rfl)).2.2.2.1), ((six_cells ((SPN.pre2 hz3).1.get 0 rfl)).2.2.2.2.1), ((six_cells ((SPN.pre2 hz3).1.get 0 rfl)).2.2.2.2.2.1), ((six_cells ((SPN.pre2 hz3).1.get 1 rfl)).1), ((six_cells ((SPN.pre2 hz3).1.get 1 rfl)).2.1), ((six_cells ((SPN.pre2 hz3).1.get 1 rfl)).2.2.1), ((six_cells ((SPN.pre2 hz3).1.get 1 rfl)).2.2.2.1), ((six_cells ((SPN.pre2 hz3).1.get 1 rfl)).2.2.2.2.1), ((six_cells ((SPN.pre2 hz3).1.get 1 rfl)).2.2.2.2.2.1), (SPN.pre2 hz3)⟩ (fun hHeld => ?_)
          clear hK K
          refine norm_ (a' := ?_) ?_ ?_
          rotate_left
          · show Act.put _ (some 36) _ = _
            simp only [Act.put, List.setIfInBounds_toArray, List.set_cons_zero, List.set_cons_succ, i64_w, i32_w]
            rfl
          refine one_ (i := 6) (N := some 5) #[true, true, true, true, true, true, true, true, false, false] rfl rfl (by kernel_rfl) (by decide) (fun K hK => ?_)
          refine fresh_ (c := #[.int .i64 0, .int .i64 0, .string ⟨#[]⟩, .slice none 0 0, .slice none 0 0, .slice none 0 0, .int .i64 0]) (t := 30) (hz3) (by rfl) rfl ?_ ?_
          · first | (go_simp; done) | (go_simp; rfl)
          intro R6 w14 hz4
          refine hK.out _ _ ⟨((six_cells ((SPN.pre2 hz4).1.get 0 rfl)).1), ((six_cells ((SPN.pre2 hz4).1.get 0 rfl)).2.1), ((six_cells ((SPN.pre2 hz4).1.get 0 rfl)).2.2.1), ((six_cells ((SPN.pre2 hz4).1.get 0 rfl)).2.2.2.1), ((six_cells ((SPN.pre2 hz4).1.get 0 rfl)).2.2.2.2.1), ((six_cells ((SPN.pre2 hz4).1.get 0 rfl)).2.2.2.2.2.1), ((six_cells ((SPN.pre2 hz4).1.get 1 rfl)).1), ((six_cells ((SPN.pre2 hz4).1.get 1 rfl)).2.1), ((six_cells ((SPN.pre2 hz4).1.get 1 rfl)).2.2.1), ((six_cells ((SPN.pre2 hz4).1.get 1 rfl)).2.2.2.1), ((six_cells ((SPN.pre2 hz4).1.get 1 rfl)).2.2.2.2.1), ((six_cells ((SPN.pre2 hz4).1.get 1 rfl)).2.2.2.2.2.1), (SPN.pre2 hz4)⟩ (fun hHeld => ?_)
          clear hK K
          refine norm_ (a' := ?_) ?_ ?_
          rotate_left
          · show Act.put _ (some 5) _ = _
            simp only [Act.put, List.setIfInBounds_toArray, List.set_cons_zero, List.set_cons_succ, i64_w, i32_w]
            rfl
          exact norm_ (by first | (simp only [putAll, Act.put, List.setIfInBounds_toArray, List.set_cons_zero, List.set_cons_succ]; done) | (simp only [putAll, Act.put, List.setIfInBounds_toArray, List.set_cons_zero, List.set_cons_succ]; rfl)) (hCont (R6, R7) _ (SPN.swap2 hz4))
        · skip
          refine fresh_ (c := #[.int .i64 0, .int .i64 0, .string ⟨#[]⟩, .slice none 0 0, .slice none 0 0, .slice none 0 0, .int .i64 0]) (t := 30) (hz2) (by rfl) rfl ?_ ?_
          · first | (go_simp; done) | (go_simp; rfl)
          intro R6 w13 hz3
          refine hK.out _ _ ⟨((six_cells ((SPN.pre2 hz3).1.get 0 rfl)).1), ((six_cells ((SPN.pre2 hz3).1.get 0 rfl)).2.1), ((six_cells ((SPN.pre2 hz3).1.get 0 rfl)).2.2.1), ((six_cells ((SPN.pre2 hz3).1.get 0 rfl)).2.2.2.1), ((six_cells ((SPN.pre2 hz3).1.get 0 rfl)).2.2.2.2.1), ((six_cells ((SPN.pre2 hz3).1.get 0 rfl)).2.2.2.2.2.1), ((six_cells ((SPN.pre2 hz3).1.get 1 rfl)).1), ((six_cells ((SPN.pre2 hz3).1.get 1 rfl)).2.1), ((six_cells ((SPN.pre2 hz3).1.get 1 rfl)).2.2.1), ((six_cells ((SPN.pre2 hz3).1.get 1 rfl)).2.2.2.1), ((six_cells ((SPN.pre2 hz3).1.get 1 rfl)).2.2.2.2.1), ((six_cells ((SPN.pre2 hz3).1.get 1 rfl)).2.2.2.2.2.1), (SPN.pre2 hz3)⟩ (fun hHeld => ?_)
          clear hK K
          refine norm_ (a' := ?_) ?_ ?_
          rotate_left
          · show Act.put _ (some 5) _ = _
            simp only [Act.put, List.setIfInBounds_toArray, List.set_cons_zero, List.set_cons_succ, i64_w, i32_w]
            rfl
          refine one_ (i := 5) (N := some 36) #[true, true, true, true, true, true, true, true, false, false] rfl rfl (by kernel_rfl) (by decide) (fun K hK => ?_)
          refine goes_ Tryz.func24 (by kernel_rfl) rfl #[.agg #[.int .i64 Kb, .int .i64 Hb, .string sb, .slice A3b n3b c3b, .slice A4b n4b c4b, .slice A5b n5b c5b], .agg #[.int .i64 Kb, .int .i64 Ha, .string sa, .slice A3a n3a c3a, .slice A4a n4a c4a, .slice A5a n5a c5a]] (by rfl) rfl rfl (by simp only [List.map_toArray, List.map_cons, List.map_nil]; rfl) ?_
          with_reducible refine ((HC2.out _)).mono ?_
          rintro e w14 ⟨rfl, hb⟩
          refine ⟨_, rfl, ?_⟩
          have hz4 := SPN.below (hz3) hb
          clear hb
          refine hK.out _ _ ⟨((six_cells ((SPN.pre2 hz4).1.get 0 rfl)).1), ((six_cells ((SPN.pre2 hz4).1.get 0 rfl)).2.1), ((six_cells ((SPN.pre2 hz4).1.get 0 rfl)).2.2.1), ((six_cells ((SPN.pre2 hz4).1.get 0 rfl)).2.2.2.1), ((six_cells ((SPN.pre2 hz4).1.get 0 rfl)).2.2.2.2.1), ((six_cells ((SPN.pre2 hz4).1.get 0 rfl)).2.2.2.2.2.1), ((six_cells ((SPN.pre2 hz4).1.get 1 rfl)).1), ((six_cells ((SPN.pre2 hz4).1.get 1 rfl)).2.1), ((six_cells ((SPN.pre2 hz4).1.get 1 rfl)).2.2.1), ((six_cells ((SPN.pre2 hz4).1.get 1 rfl)).2.2.2.1), ((six_cells ((SPN.pre2 hz4).1.get 1 rfl)).2.2.2.2.1), ((six_cells ((SPN.pre2 hz4).1.get 1 rfl)).2.2.2.2.2.1), (SPN.pre2 hz4)⟩ (fun hHeld => ?_)
          clear hK K
          refine norm_ (a' := ?_) ?_ ?_
          rotate_left
          · show Act.put _ (some 36) _ = _
            simp only [Act.put, List.setIfInBounds_toArray, List.set_cons_zero, List.set_cons_succ, i64_w, i32_w]
            rfl
          exact norm_ (by first | (simp only [putAll, Act.put, List.setIfInBounds_toArray, List.set_cons_zero, List.set_cons_succ]; done) | (simp only [putAll, Act.put, List.setIfInBounds_toArray, List.set_cons_zero, List.set_cons_succ]; rfl)) (hCont (R6, R7) _ (SPN.swap2 hz4))
      · skip
        refine fresh_ (c := #[.int .i64 0, .int .i64 0, .string ⟨#[]⟩, .slice none 0 0, .slice none 0 0, .slice none 0 0, .int .i64 0]) (t := 30) (hz1) (by rfl) rfl ?_ ?_
        · first | (go_simp; done) | (go_simp; rfl)
        intro R6 w12 hz2
        refine hK.out _ _ ⟨((six_cells ((SPN.pre2 hz2).1.get 0 rfl)).1), ((six_cells ((SPN.pre2 hz2).1.get 0 rfl)).2.1), ((six_cells ((SPN.pre2 hz2).1.get 0 rfl)).2.2.1), ((six_cells ((SPN.pre2 hz2).1.get 0 rfl)).2.2.2.1), ((six_cells ((SPN.pre2 hz2).1.get 0 rfl)).2.2.2.2.1), ((six_cells ((SPN.pre2 hz2).1.get 0 rfl)).2.2.2.2.2.1), ((six_cells ((SPN.pre2 hz2).1.get 1 rfl)).1), ((six_cells ((SPN.pre2 hz2).1.get 1 rfl)).2.1), ((six_cells ((SPN.pre2 hz2).1.get 1 rfl)).2.2.1), ((six_cells ((SPN.pre2 hz2).1.get 1 rfl)).2.2.2.1), ((six_cells ((SPN.pre2 hz2).1.get 1 rfl)).2.2.2.2.1), ((six_cells ((SPN.pre2 hz2).1.get 1 rfl)).2.2.2.2.2.1), (SPN.pre2 hz2)⟩ (fun hHeld => ?_)
        clear hK K
        refine norm_ (a' := ?_) ?_ ?_
        rotate_left
        · show Act.put _ (some 5) _ = _
          simp only [Act.put, List.setIfInBounds_toArray, List.set_cons_zero, List.set_cons_succ, i64_w, i32_w]
          rfl
        refine one_ (i := 2) (N := some 33) #[true, true, true, true, true, false, true, true, false, false] rfl rfl (by kernel_rfl) (by decide) (fun K hK => ?_)
        refine goes_ Tryz.func24 (by kernel_rfl) rfl #[.agg #[.int .i64 Kb, .int .i64 Ha, .string sa, .slice A3a n3a c3a, .slice A4a n4a c4a, .slice A5a n5a c5a], .agg #[.int .i64 Kb, .int .i64 Hb, .string sb, .slice A3b n3b c3b, .slice A4b n4b c4b, .slice A5b n5b c5b]] (by rfl) rfl rfl (by simp only [List.map_toArray, List.map_cons, List.map_nil]; rfl) ?_
        with_reducible refine ((HC1.out _)).mono ?_
        rintro e w13 ⟨rfl, hb⟩
        refine ⟨_, rfl, ?_⟩
        have hz3 := SPN.below (hz2) hb
        clear hb
        refine hK.out _ _ ⟨((six_cells ((SPN.pre2 hz3).1.get 0 rfl)).1), ((six_cells ((SPN.pre2 hz3).1.get 0 rfl)).2.1), ((six_cells ((SPN.pre2 hz3).1.get 0 rfl)).2.2.1), ((six_cells ((SPN.pre2 hz3).1.get 0 rfl)).2.2.2.1), ((six_cells ((SPN.pre2 hz3).1.get 0 rfl)).2.2.2.2.1), ((six_cells ((SPN.pre2 hz3).1.get 0 rfl)).2.2.2.2.2.1), ((six_cells ((SPN.pre2 hz3).1.get 1 rfl)).1), ((six_cells ((SPN.pre2 hz3).1.get 1 rfl)).2.1), ((six_cells ((SPN.pre2 hz3).1.get 1 rfl)).2.2.1), ((six_cells ((SPN.pre2 hz3).1.get 1 rfl)).2.2.2.1), ((six_cells ((SPN.pre2 hz3).1.get 1 rfl)).2.2.2.2.1), ((six_cells ((SPN.pre2 hz3).1.get 1 rfl)).2.2.2.2.2.1), (SPN.pre2 hz3)⟩ (fun hHeld => ?_)
        clear hK K
        refine norm_ (a' := ?_) ?_ ?_
        rotate_left
        · show Act.put _ (some 33) _ = _
          simp only [Act.put, List.setIfInBounds_toArray, List.set_cons_zero, List.set_cons_succ, i64_w, i32_w]
          rfl
        refine one_ (i := 5) (N := some 36) #[true, true, true, true, true, true, true, true, false, false] rfl rfl (by kernel_rfl) (by decide) (fun K hK => ?_)
        refine goes_ Tryz.func24 (by kernel_rfl) rfl #[.agg #[.int .i64 Kb, .int .i64 Hb, .string sb, .slice A3b n3b c3b, .slice A4b n4b c4b, .slice A5b n5b c5b], .agg #[.int .i64 Kb, .int .i64 Ha, .string sa, .slice A3a n3a c3a, .slice A4a n4a c4a, .slice A5a n5a c5a]] (by rfl) rfl rfl (by simp only [List.map_toArray, List.map_cons, List.map_nil]; rfl) ?_
        with_reducible refine ((HC2.out _)).mono ?_
        rintro e w14 ⟨rfl, hb⟩
        refine ⟨_, rfl, ?_⟩
        have hz4 := SPN.below (hz3) hb
        clear hb
        refine hK.out _ _ ⟨((six_cells ((SPN.pre2 hz4).1.get 0 rfl)).1), ((six_cells ((SPN.pre2 hz4).1.get 0 rfl)).2.1), ((six_cells ((SPN.pre2 hz4).1.get 0 rfl)).2.2.1), ((six_cells ((SPN.pre2 hz4).1.get 0 rfl)).2.2.2.1), ((six_cells ((SPN.pre2 hz4).1.get 0 rfl)).2.2.2.2.1), ((six_cells ((SPN.pre2 hz4).1.get 0 rfl)).2.2.2.2.2.1), ((six_cells ((SPN.pre2 hz4).1.get 1 rfl)).1), ((six_cells ((SPN.pre2 hz4).1.get 1 rfl)).2.1), ((six_cells ((SPN.pre2 hz4).1.get 1 rfl)).2.2.1), ((six_cells ((SPN.pre2 hz4).1.get 1 rfl)).2.2.2.1), ((six_cells ((SPN.pre2 hz4).1.get 1 rfl)).2.2.2.2.1), ((six_cells ((SPN.pre2 hz4).1.get 1 rfl)).2.2.2.2.2.1), (SPN.pre2 hz4)⟩ (fun hHeld => ?_)
        clear hK K
        refine norm_ (a' := ?_) ?_ ?_
        rotate_left
        · show Act.put _ (some 36) _ = _
          simp only [Act.put, List.setIfInBounds_toArray, List.set_cons_zero, List.set_cons_succ, i64_w, i32_w]
          rfl
        exact norm_ (by first | (simp only [putAll, Act.put, List.setIfInBounds_toArray, List.set_cons_zero, List.set_cons_succ]; done) | (simp only [putAll, Act.put, List.setIfInBounds_toArray, List.set_cons_zero, List.set_cons_succ]; rfl)) (hCont (R6, R7) _ (SPN.swap2 hz4))
  rintro ⟨R, T⟩ w' hF
  change SPN w [(A, #[.int .i64 Kb, .int .i64 Ha, .string sa, .slice A3a n3a c3a, .slice A4a n4a c4a, .slice A5a n5a c5a], 26), (B, #[.int .i64 Kb, .int .i64 Hb, .string sb, .slice A3b n3b c3b, .slice A4b n4b c4b, .slice A5b n5b c5b], 26), (R, #[.int .i64 0, .int .i64 0, .string ⟨#[]⟩, .slice none 0 0, .slice none 0 0, .slice none 0 0, .int .i64 0], 30), (T, #[.int .i64 0, .int .i64 0, .string ⟨#[]⟩, .slice none 0 0, .slice none 0 0, .slice none 0 0, .int .i64 0], 30)] w' at hF
  have hHeld : w'.cell? ⟨A, 0, none⟩ = some (.int .i64 Kb) ∧ w'.cell? ⟨A, 1, none⟩ = some (.int .i64 Ha) ∧ w'.cell? ⟨A, 2, none⟩ = some (.string sa) ∧ w'.cell? ⟨A, 3, none⟩ = some (.slice A3a n3a c3a) ∧ w'.cell? ⟨A, 4, none⟩ = some (.slice A4a n4a c4a) ∧ w'.cell? ⟨A, 5, none⟩ = some (.slice A5a n5a c5a) ∧ w'.cell? ⟨B, 0, none⟩ = some (.int .i64 Kb) ∧ w'.cell? ⟨B, 1, none⟩ = some (.int .i64 Hb) ∧ w'.cell? ⟨B, 2, none⟩ = some (.string sb) ∧ w'.cell? ⟨B, 3, none⟩ = some (.slice A3b n3b c3b) ∧ w'.cell? ⟨B, 4, none⟩ = some (.slice A4b n4b c4b) ∧ w'.cell? ⟨B, 5, none⟩ = some (.slice A5b n5b c5b) ∧ SPN w [(A, #[.int .i64 Kb, .int .i64 Ha, .string sa, .slice A3a n3a c3a, .slice A4a n4a c4a, .slice A5a n5a c5a], 26), (B, #[.int .i64 Kb, .int .i64 Hb, .string sb, .slice A3b n3b c3b, .slice A4b n4b c4b, .slice A5b n5b c5b], 26)] w' := ⟨((six_cells ((SPN.pre2 hF).1.get 0 rfl)).1), ((six_cells ((SPN.pre2 hF).1.get 0 rfl)).2.1), ((six_cells ((SPN.pre2 hF).1.get 0 rfl)).2.2.1), ((six_cells ((SPN.pre2 hF).1.get 0 rfl)).2.2.2.1), ((six_cells ((SPN.pre2 hF).1.get 0 rfl)).2.2.2.2.1), ((six_cells ((SPN.pre2 hF).1.get 0 rfl)).2.2.2.2.2.1), ((six_cells ((SPN.pre2 hF).1.get 1 rfl)).1), ((six_cells ((SPN.pre2 hF).1.get 1 rfl)).2.1), ((six_cells ((SPN.pre2 hF).1.get 1 rfl)).2.2.1), ((six_cells ((SPN.pre2 hF).1.get 1 rfl)).2.2.2.1), ((six_cells ((SPN.pre2 hF).1.get 1 rfl)).2.2.2.2.1), ((six_cells ((SPN.pre2 hF).1.get 1 rfl)).2.2.2.2.2.1), (SPN.pre2 hF)⟩
  refine norm_ (a' := ?_) ?_ ?_
  rotate_left
  · simp only [putAll, Act.put, List.setIfInBounds_toArray, List.set_cons_zero, List.set_cons_succ]
    rfl
  refine one_ (i := 8) (N := none) #[true, true, true, true, true, true, true, true, true, false] rfl rfl (by kernel_rfl) (by decide) (fun K hK => ?_)
  obtain ⟨y0, y1, y2, y3, y4, y5, y6, f0, f1, f2, f3, f4, f5, f6⟩ := sev_cells (hF.1.get 2 rfl)
  refine put7_ (v0 := .int .i64 (kb c)) (v1 := .int .i64 0) (v2 := .string ⟨#[]⟩) (v3 := .slice none 0 0) (v4 := .slice none 0 0) (v5 := .slice none 0 0) (v6 := .int .i64 0) (hF) 2 rfl (by rfl) rfl ?_ ?_
  · first | (go_simp; done) | (go_simp; rfl)
  clear y0 y1 y2 y3 y4 y5 y6 f0 f1 f2 f3 f4 f5 f6
  intro w22 hz8
  change SPN w [(A, #[.int .i64 Kb, .int .i64 Ha, .string sa, .slice A3a n3a c3a, .slice A4a n4a c4a, .slice A5a n5a c5a], 26), (B, #[.int .i64 Kb, .int .i64 Hb, .string sb, .slice A3b n3b c3b, .slice A4b n4b c4b, .slice A5b n5b c5b], 26), (R, #[.int .i64 (kb c), .int .i64 0, .string ⟨#[]⟩, .slice none 0 0, .slice none 0 0, .slice none 0 0, .int .i64 0], 30), (T, #[.int .i64 0, .int .i64 0, .string ⟨#[]⟩, .slice none 0 0, .slice none 0 0, .slice none 0 0, .int .i64 0], 30)] w22 at hz8
  refine hK.out _ _ ⟨((six_cells ((SPN.pre2 hz8).1.get 0 rfl)).1), ((six_cells ((SPN.pre2 hz8).1.get 0 rfl)).2.1), ((six_cells ((SPN.pre2 hz8).1.get 0 rfl)).2.2.1), ((six_cells ((SPN.pre2 hz8).1.get 0 rfl)).2.2.2.1), ((six_cells ((SPN.pre2 hz8).1.get 0 rfl)).2.2.2.2.1), ((six_cells ((SPN.pre2 hz8).1.get 0 rfl)).2.2.2.2.2.1), ((six_cells ((SPN.pre2 hz8).1.get 1 rfl)).1), ((six_cells ((SPN.pre2 hz8).1.get 1 rfl)).2.1), ((six_cells ((SPN.pre2 hz8).1.get 1 rfl)).2.2.1), ((six_cells ((SPN.pre2 hz8).1.get 1 rfl)).2.2.2.1), ((six_cells ((SPN.pre2 hz8).1.get 1 rfl)).2.2.2.2.1), ((six_cells ((SPN.pre2 hz8).1.get 1 rfl)).2.2.2.2.2.1), (SPN.pre2 hz8)⟩ (fun hHeld => ?_)
  clear hK K
  refine one_ (i := 9) (N := none) #[true, true, true, true, true, true, true, true, true, true] rfl rfl (by kernel_rfl) (by decide) (fun K hK => ?_)
  obtain ⟨y0, y1, y2, y3, y4, y5, y6, f0, f1, f2, f3, f4, f5, f6⟩ := sev_cells (hz8.1.get 3 rfl)
  refine put7_ (v0 := .int .i64 (kb d)) (v1 := .int .i64 0) (v2 := .string ⟨#[]⟩) (v3 := .slice none 0 0) (v4 := .slice none 0 0) (v5 := .slice none 0 0) (v6 := .int .i64 0) (hz8) 3 rfl (by rfl) rfl ?_ ?_
  · first | (go_simp; done) | (go_simp; rfl)
  clear y0 y1 y2 y3 y4 y5 y6 f0 f1 f2 f3 f4 f5 f6
  intro w23 hz9
  change SPN w [(A, #[.int .i64 Kb, .int .i64 Ha, .string sa, .slice A3a n3a c3a, .slice A4a n4a c4a, .slice A5a n5a c5a], 26), (B, #[.int .i64 Kb, .int .i64 Hb, .string sb, .slice A3b n3b c3b, .slice A4b n4b c4b, .slice A5b n5b c5b], 26), (R, #[.int .i64 (kb c), .int .i64 0, .string ⟨#[]⟩, .slice none 0 0, .slice none 0 0, .slice none 0 0, .int .i64 0], 30), (T, #[.int .i64 (kb d), .int .i64 0, .string ⟨#[]⟩, .slice none 0 0, .slice none 0 0, .slice none 0 0, .int .i64 0], 30)] w23 at hz9
  refine hK.out _ _ ⟨((six_cells ((SPN.pre2 hz9).1.get 0 rfl)).1), ((six_cells ((SPN.pre2 hz9).1.get 0 rfl)).2.1), ((six_cells ((SPN.pre2 hz9).1.get 0 rfl)).2.2.1), ((six_cells ((SPN.pre2 hz9).1.get 0 rfl)).2.2.2.1), ((six_cells ((SPN.pre2 hz9).1.get 0 rfl)).2.2.2.2.1), ((six_cells ((SPN.pre2 hz9).1.get 0 rfl)).2.2.2.2.2.1), ((six_cells ((SPN.pre2 hz9).1.get 1 rfl)).1), ((six_cells ((SPN.pre2 hz9).1.get 1 rfl)).2.1), ((six_cells ((SPN.pre2 hz9).1.get 1 rfl)).2.2.1), ((six_cells ((SPN.pre2 hz9).1.get 1 rfl)).2.2.2.1), ((six_cells ((SPN.pre2 hz9).1.get 1 rfl)).2.2.2.2.1), ((six_cells ((SPN.pre2 hz9).1.get 1 rfl)).2.2.2.2.2.1), (SPN.pre2 hz9)⟩ (fun hHeld => ?_)
  clear hK K
  refine done_ (by kernel_rfl) ?_
  have HZ := Lib.hid hz9.1
  clear hz9 hz8 hF hHeld HC1 HC2
  cases c with
  | true =>
    cases d with
    | true =>
      have HY1 := Lib.hid (yes_bool true)
      have HN1 := Lib.hid (no_bool true)
      have HY2 := Lib.hid (yes_bool true)
      have HN2 := Lib.hid (no_bool true)
      simp only [rv, r0, Bool.not_true, Bool.not_false] at HY1 HN1 HY2 HN2
      have HSM := HS
      simp only [Bool.and_self, Bool.and_true, Bool.true_and, Bool.and_false, Bool.false_and] at HSM
      clear HS
      go_wp2_with fail
      refine start_ (n := 27) (S := fun w' => w'.cell? ⟨A, 0, none⟩ = some (.int .i64 Kb) ∧ w'.cell? ⟨A, 1, none⟩ = some (.int .i64 Ha) ∧ w'.cell? ⟨A, 2, none⟩ = some (.string sa) ∧ w'.cell? ⟨A, 3, none⟩ = some (.slice A3a n3a c3a) ∧ w'.cell? ⟨A, 4, none⟩ = some (.slice A4a n4a c4a) ∧ w'.cell? ⟨A, 5, none⟩ = some (.slice A5a n5a c5a) ∧ w'.cell? ⟨B, 0, none⟩ = some (.int .i64 Kb) ∧ w'.cell? ⟨B, 1, none⟩ = some (.int .i64 Hb) ∧ w'.cell? ⟨B, 2, none⟩ = some (.string sb) ∧ w'.cell? ⟨B, 3, none⟩ = some (.slice A3b n3b c3b) ∧ w'.cell? ⟨B, 4, none⟩ = some (.slice A4b n4b c4b) ∧ w'.cell? ⟨B, 5, none⟩ = some (.slice A5b n5b c5b) ∧ w'.cell? ⟨R, 0, none⟩ = some (.int .i64 (kb true)) ∧ w'.cell? ⟨R, 1, none⟩ = some (.int .i64 0) ∧ w'.cell? ⟨R, 2, none⟩ = some (.string ⟨#[]⟩) ∧ w'.cell? ⟨R, 3, none⟩ = some (.slice none 0 0) ∧ w'.cell? ⟨R, 4, none⟩ = some (.slice none 0 0) ∧ w'.cell? ⟨R, 5, none⟩ = some (.slice none 0 0) ∧ w'.cell? ⟨R, 6, none⟩ = some (.int .i64 0) ∧ w'.cell? ⟨T, 0, none⟩ = some (.int .i64 (kb true)) ∧ w'.cell? ⟨T, 1, none⟩ = some (.int .i64 0) ∧ w'.cell? ⟨T, 2, none⟩ = some (.string ⟨#[]⟩) ∧ w'.cell? ⟨T, 3, none⟩ = some (.slice none 0 0) ∧ w'.cell? ⟨T, 4, none⟩ = some (.slice none 0 0) ∧ w'.cell? ⟨T, 5, none⟩ = some (.slice none 0 0) ∧ w'.cell? ⟨T, 6, none⟩ = some (.int .i64 0) ∧ SPL w [(A, #[.int .i64 Kb, .int .i64 Ha, .string sa, .slice A3a n3a c3a, .slice A4a n4a c4a, .slice A5a n5a c5a], 26), (B, #[.int .i64 Kb, .int .i64 Hb, .string sb, .slice A3b n3b c3b, .slice A4b n4b c4b, .slice A5b n5b c5b], 26), (R, #[.int .i64 (kb true), .int .i64 0, .string ⟨#[]⟩, .slice none 0 0, .slice none 0 0, .slice none 0 0, .int .i64 0], 30), (T, #[.int .i64 (kb true), .int .i64 0, .string ⟨#[]⟩, .slice none 0 0, .slice none 0 0, .slice none 0 0, .int .i64 0], 30)] w') (ds := []) #[false, false, false, false, false, false, false, false, false, false, false, false, false, false, false, false, false, false, false, false, false, false, false, false, false, false, false] (by kernel_rfl) rfl rfl ⟨((six_cells ((SPL.drew HZ.out).get 0 rfl)).1), ((six_cells ((SPL.drew HZ.out).get 0 rfl)).2.1), ((six_cells ((SPL.drew HZ.out).get 0 rfl)).2.2.1), ((six_cells ((SPL.drew HZ.out).get 0 rfl)).2.2.2.1), ((six_cells ((SPL.drew HZ.out).get 0 rfl)).2.2.2.2.1), ((six_cells ((SPL.drew HZ.out).get 0 rfl)).2.2.2.2.2.1), ((six_cells ((SPL.drew HZ.out).get 1 rfl)).1), ((six_cells ((SPL.drew HZ.out).get 1 rfl)).2.1), ((six_cells ((SPL.drew HZ.out).get 1 rfl)).2.2.1), ((six_cells ((SPL.drew HZ.out).get 1 rfl)).2.2.2.1), ((six_cells ((SPL.drew HZ.out).get 1 rfl)).2.2.2.2.1), ((six_cells ((SPL.drew HZ.out).get 1 rfl)).2.2.2.2.2.1), ((sev_cells ((SPL.drew HZ.out).get 2 rfl)).1), ((sev_cells ((SPL.drew HZ.out).get 2 rfl)).2.1), ((sev_cells ((SPL.drew HZ.out).get 2 rfl)).2.2.1), ((sev_cells ((SPL.drew HZ.out).get 2 rfl)).2.2.2.1), ((sev_cells ((SPL.drew HZ.out).get 2 rfl)).2.2.2.2.1), ((sev_cells ((SPL.drew HZ.out).get 2 rfl)).2.2.2.2.2.1), ((sev_cells ((SPL.drew HZ.out).get 2 rfl)).2.2.2.2.2.2.1), ((sev_cells ((SPL.drew HZ.out).get 3 rfl)).1), ((sev_cells ((SPL.drew HZ.out).get 3 rfl)).2.1), ((sev_cells ((SPL.drew HZ.out).get 3 rfl)).2.2.1), ((sev_cells ((SPL.drew HZ.out).get 3 rfl)).2.2.2.1), ((sev_cells ((SPL.drew HZ.out).get 3 rfl)).2.2.2.2.1), ((sev_cells ((SPL.drew HZ.out).get 3 rfl)).2.2.2.2.2.1), ((sev_cells ((SPL.drew HZ.out).get 3 rfl)).2.2.2.2.2.2.1), (SPL.drew HZ.out)⟩ (fun hHeld => ?_)
      refine take_ (i := 0) (N := some 37) (v := ?_) (a' := ?_) #[true, false, false, false, false, false, false, false, false, false, false, false, false, false, false, false, false, false, false, false, false, false, false, false, false, false, false] rfl rfl (by kernel_rfl) (fun _ _ _ h => h) (Or.inl ⟨by rfl, ?_⟩) hHeld ?_ ?_
      rotate_left
      · rintro w' ⟨s0, s1, s2, s3, s4, s5, s6, s7, s8, s9, s10, s11, s12, s13, s14, s15, s16, s17, s18, s19, s20, s21, s22, s23, s24, s25, s26⟩
        go_simp
        with_reducible rfl
      rotate_left
      · simp only [Act.put, List.setIfInBounds_toArray, List.set_cons_zero, List.set_cons_succ, i64_w, i32_w]
        rfl
      refine one_ (i := 1) (N := some 38) #[true, true, false, false, false, false, false, false, false, false, false, false, false, false, false, false, false, false, false, false, false, false, false, false, false, false, false] rfl rfl (by kernel_rfl) (by decide) (fun K hK => ?_)
      refine goes_ Tryz.func25 (by kernel_rfl) rfl #[.agg #[.int .i64 (kb true), .int .i64 0, .string ⟨#[]⟩, .slice none 0 0, .slice none 0 0, .slice none 0 0, .int .i64 0]] (by rfl) rfl rfl (by simp only [List.map_toArray, List.map_cons, List.map_nil]; rfl) ?_
      with_reducible refine ((HY1.out _)).mono ?_
      rintro e w3 ⟨rfl, hb⟩
      refine ⟨_, rfl, ?_⟩
      have hz := SPL.below (hHeld.2.2.2.2.2.2.2.2.2.2.2.2.2.2.2.2.2.2.2.2.2.2.2.2.2.2) hb
      refine hK.out _ _ ⟨((six_cells (hz.get 0 rfl)).1), ((six_cells (hz.get 0 rfl)).2.1), ((six_cells (hz.get 0 rfl)).2.2.1), ((six_cells (hz.get 0 rfl)).2.2.2.1), ((six_cells (hz.get 0 rfl)).2.2.2.2.1), ((six_cells (hz.get 0 rfl)).2.2.2.2.2.1), ((six_cells (hz.get 1 rfl)).1), ((six_cells (hz.get 1 rfl)).2.1), ((six_cells (hz.get 1 rfl)).2.2.1), ((six_cells (hz.get 1 rfl)).2.2.2.1), ((six_cells (hz.get 1 rfl)).2.2.2.2.1), ((six_cells (hz.get 1 rfl)).2.2.2.2.2.1), ((sev_cells (hz.get 2 rfl)).1), ((sev_cells (hz.get 2 rfl)).2.1), ((sev_cells (hz.get 2 rfl)).2.2.1), ((sev_cells (hz.get 2 rfl)).2.2.2.1), ((sev_cells (hz.get 2 rfl)).2.2.2.2.1), ((sev_cells (hz.get 2 rfl)).2.2.2.2.2.1), ((sev_cells (hz.get 2 rfl)).2.2.2.2.2.2.1), ((sev_cells (hz.get 3 rfl)).1), ((sev_cells (hz.get 3 rfl)).2.1), ((sev_cells (hz.get 3 rfl)).2.2.1), ((sev_cells (hz.get 3 rfl)).2.2.2.1), ((sev_cells (hz.get 3 rfl)).2.2.2.2.1), ((sev_cells (hz.get 3 rfl)).2.2.2.2.2.1), ((sev_cells (hz.get 3 rfl)).2.2.2.2.2.2.1), hz⟩ (fun hHeld => ?_)
      clear hK K
      refine norm_ (a' := ?_) ?_ ?_
      rotate_left
      · show Act.put _ (some 38) _ = _
        simp only [Act.put, List.setIfInBounds_toArray, List.set_cons_zero, List.set_cons_succ, i64_w, i32_w]
        rfl
      refine pure_ (i := 2) (N := some 39) (v := ?_) (a' := ?_) #[true, true, true, false, false, false, false, false, false, false, false, false, false, false, false, false, false, false, false, false, false, false, false, false, false, false, false] rfl rfl (by kernel_rfl) (fun _ _ _ h => h) (Or.inl ⟨by rfl, ?_⟩) ?_ ?_
      rotate_left
      · intro w'
        go_simp
        with_reducible rfl
      rotate_left
      · simp only [Act.put, List.setIfInBounds_toArray, List.set_cons_zero, List.set_cons_succ, i64_w, i32_w]
        rfl
      refine pure_ (i := 3) (N := some 40) (v := undef) (a' := ?_) #[true, true, true, true, false, false, false, false, false, false, false, false, false, false, false, false, false, false, false, false, false, false, false, false, false, false, false] rfl rfl (by kernel_rfl) (fun _ _ _ h => h) (Or.inr ⟨by rfl, rfl⟩) ?_ ?_
      rotate_left
      · simp only [Act.put, List.setIfInBounds_toArray, List.set_cons_zero, List.set_cons_succ, i64_w, i32_w]
        rfl
      refine pure_ (i := 4) (N := some 41) (v := undef) (a' := ?_) #[true, true, true, true, true, false, false, false, false, false, false, false, false, false, false, false, false, false, false, false, false, false, false, false, false, false, false] rfl rfl (by kernel_rfl) (fun _ _ _ h => h) (Or.inr ⟨by rfl, rfl⟩) ?_ ?_
      rotate_left
      · simp only [Act.put, List.setIfInBounds_toArray, List.set_cons_zero, List.set_cons_succ, i64_w, i32_w]
        rfl
      refine pure_ (i := 5) (N := some 42) (v := ?_) (a' := ?_) #[true, true, true, true, true, true, false, false, false, false, false, false, false, false, false, false, false, false, false, false, false, false, false, false, false, false, false] rfl rfl (by kernel_rfl) (fun _ _ _ h => h) (Or.inl ⟨by rfl, ?_⟩) ?_ ?_
      rotate_left
      · intro w'
        go_simp
        with_reducible rfl
      rotate_left
      · simp only [Act.put, List.setIfInBounds_toArray, List.set_cons_zero, List.set_cons_succ, i64_w, i32_w]
        rfl
      refine pure_ (i := 6) (N := some 43) (v := ?_) (a' := ?_) #[true, true, true, true, true, true, true, false, false, false, false, false, false, false, false, false, false, false, false, false, false, false, false, false, false, false, false] rfl rfl (by kernel_rfl) (fun _ _ _ h => h) (Or.inl ⟨by rfl, ?_⟩) ?_ ?_
      rotate_left
      · intro w'
        go_simp
        with_reducible rfl
      rotate_left
      · simp only [Act.put, List.setIfInBounds_toArray, List.set_cons_zero, List.set_cons_succ, i64_w, i32_w]
        rfl
      refine take_ (i := 7) (N := some 44) (v := ?_) (a' := ?_) #[true, true, true, true, true, true, true, true, false, false, false, false, false, false, false, false, false, false, false, false, false, false, false, false, false, false, false] rfl rfl (by kernel_rfl) (fun _ _ _ h => h) (Or.inl ⟨by rfl, ?_⟩) hHeld ?_ ?_
      rotate_left
      · rintro w' ⟨s0, s1, s2, s3, s4, s5, s6, s7, s8, s9, s10, s11, s12, s13, s14, s15, s16, s17, s18, s19, s20, s21, s22, s23, s24, s25, s26⟩
        go_simp
        with_reducible rfl
      rotate_left
      · simp only [Act.put, List.setIfInBounds_toArray, List.set_cons_zero, List.set_cons_succ, i64_w, i32_w]
        rfl
      refine one_ (i := 8) (N := some 45) #[true, true, true, true, true, true, true, true, true, false, false, false, false, false, false, false, false, false, false, false, false, false, false, false, false, false, false] rfl rfl (by kernel_rfl) (by decide) (fun K hK => ?_)
      refine goes_ Tryz.func25 (by kernel_rfl) rfl #[.agg #[.int .i64 (kb true), .int .i64 0, .string ⟨#[]⟩, .slice none 0 0, .slice none 0 0, .slice none 0 0, .int .i64 0]] (by rfl) rfl rfl (by simp only [List.map_toArray, List.map_cons, List.map_nil]; rfl) ?_
      with_reducible refine ((HY2.out _)).mono ?_
      rintro e w3 ⟨rfl, hb⟩
      refine ⟨_, rfl, ?_⟩
      have hz := SPL.below (hHeld.2.2.2.2.2.2.2.2.2.2.2.2.2.2.2.2.2.2.2.2.2.2.2.2.2.2) hb
      refine hK.out _ _ ⟨((six_cells (hz.get 0 rfl)).1), ((six_cells (hz.get 0 rfl)).2.1), ((six_cells (hz.get 0 rfl)).2.2.1), ((six_cells (hz.get 0 rfl)).2.2.2.1), ((six_cells (hz.get 0 rfl)).2.2.2.2.1), ((six_cells (hz.get 0 rfl)).2.2.2.2.2.1), ((six_cells (hz.get 1 rfl)).1), ((six_cells (hz.get 1 rfl)).2.1), ((six_cells (hz.get 1 rfl)).2.2.1), ((six_cells (hz.get 1 rfl)).2.2.2.1), ((six_cells (hz.get 1 rfl)).2.2.2.2.1), ((six_cells (hz.get 1 rfl)).2.2.2.2.2.1), ((sev_cells (hz.get 2 rfl)).1), ((sev_cells (hz.get 2 rfl)).2.1), ((sev_cells (hz.get 2 rfl)).2.2.1), ((sev_cells (hz.get 2 rfl)).2.2.2.1), ((sev_cells (hz.get 2 rfl)).2.2.2.2.1), ((sev_cells (hz.get 2 rfl)).2.2.2.2.2.1), ((sev_cells (hz.get 2 rfl)).2.2.2.2.2.2.1), ((sev_cells (hz.get 3 rfl)).1), ((sev_cells (hz.get 3 rfl)).2.1), ((sev_cells (hz.get 3 rfl)).2.2.1), ((sev_cells (hz.get 3 rfl)).2.2.2.1), ((sev_cells (hz.get 3 rfl)).2.2.2.2.1), ((sev_cells (hz.get 3 rfl)).2.2.2.2.2.1), ((sev_cells (hz.get 3 rfl)).2.2.2.2.2.2.1), hz⟩ (fun hHeld => ?_)
      clear hK K
      refine norm_ (a' := ?_) ?_ ?_
      rotate_left
      · show Act.put _ (some 45) _ = _
        simp only [Act.put, List.setIfInBounds_toArray, List.set_cons_zero, List.set_cons_succ, i64_w, i32_w]
        rfl
      refine pure_ (i := 9) (N := some 46) (v := ?_) (a' := ?_) #[true, true, true, true, true, true, true, true, true, true, false, false, false, false, false, false, false, false, false, false, false, false, false, false, false, false, false] rfl rfl (by kernel_rfl) (fun _ _ _ h => h) (Or.inl ⟨by rfl, ?_⟩) ?_ ?_
      rotate_left
      · intro w'
        go_simp
        with_reducible rfl
      rotate_left
      · simp only [Act.put, List.setIfInBounds_toArray, List.set_cons_zero, List.set_cons_succ, i64_w, i32_w]
        rfl
      refine pure_ (i := 10) (N := some 47) (v := undef) (a' := ?_) #[true, true, true, true, true, true, true, true, true, true, true, false, false, false, false, false, false, false, false, false, false, false, false, false, false, false, false] rfl rfl (by kernel_rfl) (fun _ _ _ h => h) (Or.inr ⟨by rfl, rfl⟩) ?_ ?_
      rotate_left
      · simp only [Act.put, List.setIfInBounds_toArray, List.set_cons_zero, List.set_cons_succ, i64_w, i32_w]
        rfl
      refine pure_ (i := 11) (N := some 48) (v := undef) (a' := ?_) #[true, true, true, true, true, true, true, true, true, true, true, true, false, false, false, false, false, false, false, false, false, false, false, false, false, false, false] rfl rfl (by kernel_rfl) (fun _ _ _ h => h) (Or.inr ⟨by rfl, rfl⟩) ?_ ?_
      rotate_left
      · simp only [Act.put, List.setIfInBounds_toArray, List.set_cons_zero, List.set_cons_succ, i64_w, i32_w]
        rfl
      refine pure_ (i := 12) (N := some 49) (v := ?_) (a' := ?_) #[true, true, true, true, true, true, true, true, true, true, true, true, true, false, false, false, false, false, false, false, false, false, false, false, false, false, false] rfl rfl (by kernel_rfl) (fun _ _ _ h => h) (Or.inl ⟨by rfl, ?_⟩) ?_ ?_
      rotate_left
      · intro w'
        go_simp
        with_reducible rfl
      rotate_left
      · simp only [Act.put, List.setIfInBounds_toArray, List.set_cons_zero, List.set_cons_succ, i64_w, i32_w]
        rfl
      refine pure_ (i := 13) (N := some 50) (v := ?_) (a' := ?_) #[true, true, true, true, true, true, true, true, true, true, true, true, true, true, false, false, false, false, false, false, false, false, false, false, false, false, false] rfl rfl (by kernel_rfl) (fun _ _ _ h => h) (Or.inl ⟨by rfl, ?_⟩) ?_ ?_
      rotate_left
      · intro w'
        go_simp
        with_reducible rfl
      rotate_left
      · simp only [Act.put, List.setIfInBounds_toArray, List.set_cons_zero, List.set_cons_succ, i64_w, i32_w]
        rfl
      refine pure_ (i := 14) (N := some 51) (v := ?_) (a' := ?_) #[true, true, true, true, true, true, true, true, true, true, true, true, true, true, true, false, false, false, false, false, false, false, false, false, false, false, false] rfl rfl (by kernel_rfl) (fun _ _ _ h => h) (Or.inl ⟨by rfl, ?_⟩) ?_ ?_
      rotate_left
      · intro w'
        go_simp
        with_reducible rfl
      rotate_left
      · simp only [Act.put, List.setIfInBounds_toArray, List.set_cons_zero, List.set_cons_succ, i64_w, i32_w]
        rfl
      refine take_ (i := 15) (N := some 52) (v := ?_) (a' := ?_) #[true, true, true, true, true, true, true, true, true, true, true, true, true, true, true, true, false, false, false, false, false, false, false, false, false, false, false] rfl rfl (by kernel_rfl) (fun _ _ _ h => h) (Or.inl ⟨by rfl, ?_⟩) hHeld ?_ ?_
      rotate_left
      · rintro w' ⟨s0, s1, s2, s3, s4, s5, s6, s7, s8, s9, s10, s11, s12, s13, s14, s15, s16, s17, s18, s19, s20, s21, s22, s23, s24, s25, s26⟩
        go_simp
        with_reducible rfl
      rotate_left
      · simp only [Act.put, List.setIfInBounds_toArray, List.set_cons_zero, List.set_cons_succ, i64_w, i32_w]
        rfl
      refine take_ (i := 21) (N := some 58) (v := ?_) (a' := ?_) #[true, true, true, true, true, true, true, true, true, true, true, true, true, true, true, true, false, false, false, false, false, true, false, false, false, false, false] rfl rfl (by kernel_rfl) (fun _ _ _ h => h) (Or.inl ⟨by rfl, ?_⟩) hHeld ?_ ?_
      rotate_left
      · rintro w' ⟨s0, s1, s2, s3, s4, s5, s6, s7, s8, s9, s10, s11, s12, s13, s14, s15, s16, s17, s18, s19, s20, s21, s22, s23, s24, s25, s26⟩
        go_simp
        with_reducible rfl
      rotate_left
      · simp only [Act.put, List.setIfInBounds_toArray, List.set_cons_zero, List.set_cons_succ, i64_w, i32_w]
        rfl
      refine take_ (i := 22) (N := some 59) (v := ?_) (a' := ?_) #[true, true, true, true, true, true, true, true, true, true, true, true, true, true, true, true, false, false, false, false, false, true, true, false, false, false, false] rfl rfl (by kernel_rfl) (fun _ _ _ h => h) (Or.inl ⟨by rfl, ?_⟩) hHeld ?_ ?_
      rotate_left
      · rintro w' ⟨s0, s1, s2, s3, s4, s5, s6, s7, s8, s9, s10, s11, s12, s13, s14, s15, s16, s17, s18, s19, s20, s21, s22, s23, s24, s25, s26⟩
        go_simp
        with_reducible rfl
      rotate_left
      · simp only [Act.put, List.setIfInBounds_toArray, List.set_cons_zero, List.set_cons_succ, i64_w, i32_w]
        rfl
      refine one_ (i := 16) (N := some 53) #[true, true, true, true, true, true, true, true, true, true, true, true, true, true, true, true, true, false, false, false, false, true, true, false, false, false, false] rfl rfl (by kernel_rfl) (by decide) (fun K hK => ?_)
      refine goes_ Tryz.func25 (by kernel_rfl) rfl #[.agg #[.int .i64 (kb true), .int .i64 0, .string ⟨#[]⟩, .slice none 0 0, .slice none 0 0, .slice none 0 0, .int .i64 0]] (by rfl) rfl rfl (by simp only [List.map_toArray, List.map_cons, List.map_nil]; rfl) ?_
      with_reducible refine ((HY1.out _)).mono ?_
      rintro e w3 ⟨rfl, hb⟩
      refine ⟨_, rfl, ?_⟩
      have hz := SPL.below (hHeld.2.2.2.2.2.2.2.2.2.2.2.2.2.2.2.2.2.2.2.2.2.2.2.2.2.2) hb
      refine hK.out _ _ ⟨((six_cells (hz.get 0 rfl)).1), ((six_cells (hz.get 0 rfl)).2.1), ((six_cells (hz.get 0 rfl)).2.2.1), ((six_cells (hz.get 0 rfl)).2.2.2.1), ((six_cells (hz.get 0 rfl)).2.2.2.2.1), ((six_cells (hz.get 0 rfl)).2.2.2.2.2.1), ((six_cells (hz.get 1 rfl)).1), ((six_cells (hz.get 1 rfl)).2.1), ((six_cells (hz.get 1 rfl)).2.2.1), ((six_cells (hz.get 1 rfl)).2.2.2.1), ((six_cells (hz.get 1 rfl)).2.2.2.2.1), ((six_cells (hz.get 1 rfl)).2.2.2.2.2.1), ((sev_cells (hz.get 2 rfl)).1), ((sev_cells (hz.get 2 rfl)).2.1), ((sev_cells (hz.get 2 rfl)).2.2.1), ((sev_cells (hz.get 2 rfl)).2.2.2.1), ((sev_cells (hz.get 2 rfl)).2.2.2.2.1), ((sev_cells (hz.get 2 rfl)).2.2.2.2.2.1), ((sev_cells (hz.get 2 rfl)).2.2.2.2.2.2.1), ((sev_cells (hz.get 3 rfl)).1), ((sev_cells (hz.get 3 rfl)).2.1), ((sev_cells (hz.get 3 rfl)).2.2.1), ((sev_cells (hz.get 3 rfl)).2.2.2.1), ((sev_cells (hz.get 3 rfl)).2.2.2.2.1), ((sev_cells (hz.get 3 rfl)).2.2.2.2.2.1), ((sev_cells (hz.get 3 rfl)).2.2.2.2.2.2.1), hz⟩ (fun hHeld => ?_)
      clear hK K
      refine norm_ (a' := ?_) ?_ ?_
      rotate_left
      · show Act.put _ (some 53) _ = _
        simp only [Act.put, List.setIfInBounds_toArray, List.set_cons_zero, List.set_cons_succ, i64_w, i32_w]
        rfl
      refine pure_ (i := 17) (N := some 54) (v := ?_) (a' := ?_) #[true, true, true, true, true, true, true, true, true, true, true, true, true, true, true, true, true, true, false, false, false, true, true, false, false, false, false] rfl rfl (by kernel_rfl) (fun _ _ _ h => h) (Or.inl ⟨by rfl, ?_⟩) ?_ ?_
      rotate_left
      · intro w'
        go_simp
        with_reducible rfl
      rotate_left
      · simp only [Act.put, List.setIfInBounds_toArray, List.set_cons_zero, List.set_cons_succ, i64_w, i32_w]
        rfl
      refine take_ (i := 18) (N := some 55) (v := ?_) (a' := ?_) #[true, true, true, true, true, true, true, true, true, true, true, true, true, true, true, true, true, true, true, false, false, true, true, false, false, false, false] rfl rfl (by kernel_rfl) (fun _ _ _ h => h) (Or.inl ⟨by rfl, ?_⟩) hHeld ?_ ?_
      rotate_left
      · rintro w' ⟨s0, s1, s2, s3, s4, s5, s6, s7, s8, s9, s10, s11, s12, s13, s14, s15, s16, s17, s18, s19, s20, s21, s22, s23, s24, s25, s26⟩
        go_simp
        with_reducible rfl
      rotate_left
      · simp only [Act.put, List.setIfInBounds_toArray, List.set_cons_zero, List.set_cons_succ, i64_w, i32_w]
        rfl
      refine one_ (i := 19) (N := some 56) #[true, true, true, true, true, true, true, true, true, true, true, true, true, true, true, true, true, true, true, true, false, true, true, false, false, false, false] rfl rfl (by kernel_rfl) (by decide) (fun K hK => ?_)
      refine goes_ Tryz.func25 (by kernel_rfl) rfl #[.agg #[.int .i64 (kb true), .int .i64 0, .string ⟨#[]⟩, .slice none 0 0, .slice none 0 0, .slice none 0 0, .int .i64 0]] (by rfl) rfl rfl (by simp only [List.map_toArray, List.map_cons, List.map_nil]; rfl) ?_
      with_reducible refine ((HY2.out _)).mono ?_
      rintro e w3 ⟨rfl, hb⟩
      refine ⟨_, rfl, ?_⟩
      have hz := SPL.below (hHeld.2.2.2.2.2.2.2.2.2.2.2.2.2.2.2.2.2.2.2.2.2.2.2.2.2.2) hb
      refine hK.out _ _ ⟨((six_cells (hz.get 0 rfl)).1), ((six_cells (hz.get 0 rfl)).2.1), ((six_cells (hz.get 0 rfl)).2.2.1), ((six_cells (hz.get 0 rfl)).2.2.2.1), ((six_cells (hz.get 0 rfl)).2.2.2.2.1), ((six_cells (hz.get 0 rfl)).2.2.2.2.2.1), ((six_cells (hz.get 1 rfl)).1), ((six_cells (hz.get 1 rfl)).2.1), ((six_cells (hz.get 1 rfl)).2.2.1), ((six_cells (hz.get 1 rfl)).2.2.2.1), ((six_cells (hz.get 1 rfl)).2.2.2.2.1), ((six_cells (hz.get 1 rfl)).2.2.2.2.2.1), ((sev_cells (hz.get 2 rfl)).1), ((sev_cells (hz.get 2 rfl)).2.1), ((sev_cells (hz.get 2 rfl)).2.2.1), ((sev_cells (hz.get 2 rfl)).2.2.2.1), ((sev_cells (hz.get 2 rfl)).2.2.2.2.1), ((sev_cells (hz.get 2 rfl)).2.2.2.2.2.1), ((sev_cells (hz.get 2 rfl)).2.2.2.2.2.2.1), ((sev_cells (hz.get 3 rfl)).1), ((sev_cells (hz.get 3 rfl)).2.1), ((sev_cells (hz.get 3 rfl)).2.2.1), ((sev_cells (hz.get 3 rfl)).2.2.2.1), ((sev_cells (hz.get 3 rfl)).2.2.2.2.1), ((sev_cells (hz.get 3 rfl)).2.2.2.2.2.1), ((sev_cells (hz.get 3 rfl)).2.2.2.2.2.2.1), hz⟩ (fun hHeld => ?_)
      clear hK K
      refine norm_ (a' := ?_) ?_ ?_
      rotate_left
      · show Act.put _ (some 56) _ = _
        simp only [Act.put, List.setIfInBounds_toArray, List.set_cons_zero, List.set_cons_succ, i64_w, i32_w]
        rfl
      refine pure_ (i := 20) (N := some 57) (v := ?_) (a' := ?_) #[true, true, true, true, true, true, true, true, true, true, true, true, true, true, true, true, true, true, true, true, true, true, true, false, false, false, false] rfl rfl (by kernel_rfl) (fun _ _ _ h => h) (Or.inl ⟨by rfl, ?_⟩) ?_ ?_
      rotate_left
      · intro w'
        go_simp
        with_reducible rfl
      rotate_left
      · simp only [Act.put, List.setIfInBounds_toArray, List.set_cons_zero, List.set_cons_succ, i64_w, i32_w]
        rfl
      refine one_ (i := 23) (N := some 60) #[true, true, true, true, true, true, true, true, true, true, true, true, true, true, true, true, true, true, true, true, true, true, true, true, false, false, false] rfl rfl (by kernel_rfl) (by decide) (fun K hK => ?_)
      refine goes_ Tryz.func27 (by kernel_rfl) rfl #[.agg #[.int .i64 Kb, .int .i64 Ha, .string sa, .slice A3a n3a c3a, .slice A4a n4a c4a, .slice A5a n5a c5a], .agg #[.int .i64 Kb, .int .i64 Hb, .string sb, .slice A3b n3b c3b, .slice A4b n4b c4b, .slice A5b n5b c5b]] (by rfl) rfl rfl (by simp only [List.map_toArray, List.map_cons, List.map_nil]; rfl) ?_
      with_reducible refine ((HSM.out _)).mono ?_
      rintro e w3 ⟨rfl, hb⟩
      refine ⟨_, rfl, ?_⟩
      have hz := SPL.below (hHeld.2.2.2.2.2.2.2.2.2.2.2.2.2.2.2.2.2.2.2.2.2.2.2.2.2.2) hb
      refine hK.out _ _ ⟨((six_cells (hz.get 0 rfl)).1), ((six_cells (hz.get 0 rfl)).2.1), ((six_cells (hz.get 0 rfl)).2.2.1), ((six_cells (hz.get 0 rfl)).2.2.2.1), ((six_cells (hz.get 0 rfl)).2.2.2.2.1), ((six_cells (hz.get 0 rfl)).2.2.2.2.2.1), ((six_cells (hz.get 1 rfl)).1), ((six_cells (hz.get 1 rfl)).2.1), ((six_cells (hz.get 1 rfl)).2.2.1), ((six_cells (hz.get 1 rfl)).2.2.2.1), ((six_cells (hz.get 1 rfl)).2.2.2.2.1), ((six_cells (hz.get 1 rfl)).2.2.2.2.2.1), ((sev_cells (hz.get 2 rfl)).1), ((sev_cells (hz.get 2 rfl)).2.1), ((sev_cells (hz.get 2 rfl)).2.2.1), ((sev_cells (hz.get 2 rfl)).2.2.2.1), ((sev_cells (hz.get 2 rfl)).2.2.2.2.1), ((sev_cells (hz.get 2 rfl)).2.2.2.2.2.1), ((sev_cells (hz.get 2 rfl)).2.2.2.2.2.2.1), ((sev_cells (hz.get 3 rfl)).1), ((sev_cells (hz.get 3 rfl)).2.1), ((sev_cells (hz.get 3 rfl)).2.2.1), ((sev_cells (hz.get 3 rfl)).2.2.2.1), ((sev_cells (hz.get 3 rfl)).2.2.2.2.1), ((sev_cells (hz.get 3 rfl)).2.2.2.2.2.1), ((sev_cells (hz.get 3 rfl)).2.2.2.2.2.2.1), hz⟩ (fun hHeld => ?_)
      clear hK K
      refine norm_ (a' := ?_) ?_ ?_
      rotate_left
      · show Act.put _ (some 60) _ = _
        simp only [Act.put, List.setIfInBounds_toArray, List.set_cons_zero, List.set_cons_succ, i64_w, i32_w]
        rfl
      refine pure_ (i := 24) (N := some 61) (v := ?_) (a' := ?_) #[true, true, true, true, true, true, true, true, true, true, true, true, true, true, true, true, true, true, true, true, true, true, true, true, true, false, false] rfl rfl (by kernel_rfl) (fun _ _ _ h => h) (Or.inl ⟨by rfl, ?_⟩) ?_ ?_
      rotate_left
      · intro w'
        go_simp
        with_reducible rfl
      rotate_left
      · simp only [Act.put, List.setIfInBounds_toArray, List.set_cons_zero, List.set_cons_succ, i64_w, i32_w]
        rfl
      refine pure_ (i := 25) (N := some 62) (v := ?_) (a' := ?_) #[true, true, true, true, true, true, true, true, true, true, true, true, true, true, true, true, true, true, true, true, true, true, true, true, true, true, false] rfl rfl (by kernel_rfl) (fun _ _ _ h => h) (Or.inl ⟨by rfl, ?_⟩) ?_ ?_
      rotate_left
      · intro w'
        go_simp
        with_reducible rfl
      rotate_left
      · simp only [Act.put, List.setIfInBounds_toArray, List.set_cons_zero, List.set_cons_succ, i64_w, i32_w]
        rfl
      refine pure_ (i := 26) (N := some 4) (v := ?_) (a' := ?_) #[true, true, true, true, true, true, true, true, true, true, true, true, true, true, true, true, true, true, true, true, true, true, true, true, true, true, true] rfl rfl (by kernel_rfl) (fun _ _ _ h => h) (Or.inl ⟨by rfl, ?_⟩) ?_ ?_
      rotate_left
      · intro w'
        go_simp
        with_reducible rfl
      rotate_left
      · simp only [Act.put, List.setIfInBounds_toArray, List.set_cons_zero, List.set_cons_succ, i64_w, i32_w]
        rfl
      refine done_ (by kernel_rfl) ?_
      go_wp2_with fail
      go_ret
      exact ⟨rfl, hz.1⟩
    | false =>
      have HY1 := Lib.hid (yes_bool true)
      have HN1 := Lib.hid (no_bool true)
      have HY2 := Lib.hid (yes_bool false)
      have HN2 := Lib.hid (no_bool false)
      simp only [rv, r0, Bool.not_true, Bool.not_false] at HY1 HN1 HY2 HN2
      have HSM := HS
      simp only [Bool.and_self, Bool.and_true, Bool.true_and, Bool.and_false, Bool.false_and] at HSM
      clear HS
      go_wp2_with fail
      refine start_ (n := 27) (S := fun w' => w'.cell? ⟨A, 0, none⟩ = some (.int .i64 Kb) ∧ w'.cell? ⟨A, 1, none⟩ = some (.int .i64 Ha) ∧ w'.cell? ⟨A, 2, none⟩ = some (.string sa) ∧ w'.cell? ⟨A, 3, none⟩ = some (.slice A3a n3a c3a) ∧ w'.cell? ⟨A, 4, none⟩ = some (.slice A4a n4a c4a) ∧ w'.cell? ⟨A, 5, none⟩ = some (.slice A5a n5a c5a) ∧ w'.cell? ⟨B, 0, none⟩ = some (.int .i64 Kb) ∧ w'.cell? ⟨B, 1, none⟩ = some (.int .i64 Hb) ∧ w'.cell? ⟨B, 2, none⟩ = some (.string sb) ∧ w'.cell? ⟨B, 3, none⟩ = some (.slice A3b n3b c3b) ∧ w'.cell? ⟨B, 4, none⟩ = some (.slice A4b n4b c4b) ∧ w'.cell? ⟨B, 5, none⟩ = some (.slice A5b n5b c5b) ∧ w'.cell? ⟨R, 0, none⟩ = some (.int .i64 (kb true)) ∧ w'.cell? ⟨R, 1, none⟩ = some (.int .i64 0) ∧ w'.cell? ⟨R, 2, none⟩ = some (.string ⟨#[]⟩) ∧ w'.cell? ⟨R, 3, none⟩ = some (.slice none 0 0) ∧ w'.cell? ⟨R, 4, none⟩ = some (.slice none 0 0) ∧ w'.cell? ⟨R, 5, none⟩ = some (.slice none 0 0) ∧ w'.cell? ⟨R, 6, none⟩ = some (.int .i64 0) ∧ w'.cell? ⟨T, 0, none⟩ = some (.int .i64 (kb false)) ∧ w'.cell? ⟨T, 1, none⟩ = some (.int .i64 0) ∧ w'.cell? ⟨T, 2, none⟩ = some (.string ⟨#[]⟩) ∧ w'.cell? ⟨T, 3, none⟩ = some (.slice none 0 0) ∧ w'.cell? ⟨T, 4, none⟩ = some (.slice none 0 0) ∧ w'.cell? ⟨T, 5, none⟩ = some (.slice none 0 0) ∧ w'.cell? ⟨T, 6, none⟩ = some (.int .i64 0) ∧ SPL w [(A, #[.int .i64 Kb, .int .i64 Ha, .string sa, .slice A3a n3a c3a, .slice A4a n4a c4a, .slice A5a n5a c5a], 26), (B, #[.int .i64 Kb, .int .i64 Hb, .string sb, .slice A3b n3b c3b, .slice A4b n4b c4b, .slice A5b n5b c5b], 26), (R, #[.int .i64 (kb true), .int .i64 0, .string ⟨#[]⟩, .slice none 0 0, .slice none 0 0, .slice none 0 0, .int .i64 0], 30), (T, #[.int .i64 (kb false), .int .i64 0, .string ⟨#[]⟩, .slice none 0 0, .slice none 0 0, .slice none 0 0, .int .i64 0], 30)] w') (ds := []) #[false, false, false, false, false, false, false, false, false, false, false, false, false, false, false, false, false, false, false, false, false, false, false, false, false, false, false] (by kernel_rfl) rfl rfl ⟨((six_cells ((SPL.drew HZ.out).get 0 rfl)).1), ((six_cells ((SPL.drew HZ.out).get 0 rfl)).2.1), ((six_cells ((SPL.drew HZ.out).get 0 rfl)).2.2.1), ((six_cells ((SPL.drew HZ.out).get 0 rfl)).2.2.2.1), ((six_cells ((SPL.drew HZ.out).get 0 rfl)).2.2.2.2.1), ((six_cells ((SPL.drew HZ.out).get 0 rfl)).2.2.2.2.2.1), ((six_cells ((SPL.drew HZ.out).get 1 rfl)).1), ((six_cells ((SPL.drew HZ.out).get 1 rfl)).2.1), ((six_cells ((SPL.drew HZ.out).get 1 rfl)).2.2.1), ((six_cells ((SPL.drew HZ.out).get 1 rfl)).2.2.2.1), ((six_cells ((SPL.drew HZ.out).get 1 rfl)).2.2.2.2.1), ((six_cells ((SPL.drew HZ.out).get 1 rfl)).2.2.2.2.2.1), ((sev_cells ((SPL.drew HZ.out).get 2 rfl)).1), ((sev_cells ((SPL.drew HZ.out).get 2 rfl)).2.1), ((sev_cells ((SPL.drew HZ.out).get 2 rfl)).2.2.1), ((sev_cells ((SPL.drew HZ.out).get 2 rfl)).2.2.2.1), ((sev_cells ((SPL.drew HZ.out).get 2 rfl)).2.2.2.2.1), ((sev_cells ((SPL.drew HZ.out).get 2 rfl)).2.2.2.2.2.1), ((sev_cells ((SPL.drew HZ.out).get 2 rfl)).2.2.2.2.2.2.1), ((sev_cells ((SPL.drew HZ.out).get 3 rfl)).1), ((sev_cells ((SPL.drew HZ.out).get 3 rfl)).2.1), ((sev_cells ((SPL.drew HZ.out).get 3 rfl)).2.2.1), ((sev_cells ((SPL.drew HZ.out).get 3 rfl)).2.2.2.1), ((sev_cells ((SPL.drew HZ.out).get 3 rfl)).2.2.2.2.1), ((sev_cells ((SPL.drew HZ.out).get 3 rfl)).2.2.2.2.2.1), ((sev_cells ((SPL.drew HZ.out).get 3 rfl)).2.2.2.2.2.2.1), (SPL.drew HZ.out)⟩ (fun hHeld => ?_)
      refine take_ (i := 0) (N := some 37) (v := ?_) (a' := ?_) #[true, false, false, false, false, false, false, false, false, false, false, false, false, false, false, false, false, false, false, false, false, false, false, false, false, false, false] rfl rfl (by kernel_rfl) (fun _ _ _ h => h) (Or.inl ⟨by rfl, ?_⟩) hHeld ?_ ?_
      rotate_left
      · rintro w' ⟨s0, s1, s2, s3, s4, s5, s6, s7, s8, s9, s10, s11, s12, s13, s14, s15, s16, s17, s18, s19, s20, s21, s22, s23, s24, s25, s26⟩
        go_simp
        with_reducible rfl
      rotate_left
      · simp only [Act.put, List.setIfInBounds_toArray, List.set_cons_zero, List.set_cons_succ, i64_w, i32_w]
        rfl
      refine one_ (i := 1) (N := some 38) #[true, true, false, false, false, false, false, false, false, false, false, false, false, false, false, false, false, false, false, false, false, false, false, false, false, false, false] rfl rfl (by kernel_rfl) (by decide) (fun K hK => ?_)
      refine goes_ Tryz.func25 (by kernel_rfl) rfl #[.agg #[.int .i64 (kb true), .int .i64 0, .string ⟨#[]⟩, .slice none 0 0, .slice none 0 0, .slice none 0 0, .int .i64 0]] (by rfl) rfl rfl (by simp only [List.map_toArray, List.map_cons, List.map_nil]; rfl) ?_
      with_reducible refine ((HY1.out _)).mono ?_
      rintro e w3 ⟨rfl, hb⟩
      refine ⟨_, rfl, ?_⟩
      have hz := SPL.below (hHeld.2.2.2.2.2.2.2.2.2.2.2.2.2.2.2.2.2.2.2.2.2.2.2.2.2.2) hb
      refine hK.out _ _ ⟨((six_cells (hz.get 0 rfl)).1), ((six_cells (hz.get 0 rfl)).2.1), ((six_cells (hz.get 0 rfl)).2.2.1), ((six_cells (hz.get 0 rfl)).2.2.2.1), ((six_cells (hz.get 0 rfl)).2.2.2.2.1), ((six_cells (hz.get 0 rfl)).2.2.2.2.2.1), ((six_cells (hz.get 1 rfl)).1), ((six_cells (hz.get 1 rfl)).2.1), ((six_cells (hz.get 1 rfl)).2.2.1), ((six_cells (hz.get 1 rfl)).2.2.2.1), ((six_cells (hz.get 1 rfl)).2.2.2.2.1), ((six_cells (hz.get 1 rfl)).2.2.2.2.2.1), ((sev_cells (hz.get 2 rfl)).1), ((sev_cells (hz.get 2 rfl)).2.1), ((sev_cells (hz.get 2 rfl)).2.2.1), ((sev_cells (hz.get 2 rfl)).2.2.2.1), ((sev_cells (hz.get 2 rfl)).2.2.2.2.1), ((sev_cells (hz.get 2 rfl)).2.2.2.2.2.1), ((sev_cells (hz.get 2 rfl)).2.2.2.2.2.2.1), ((sev_cells (hz.get 3 rfl)).1), ((sev_cells (hz.get 3 rfl)).2.1), ((sev_cells (hz.get 3 rfl)).2.2.1), ((sev_cells (hz.get 3 rfl)).2.2.2.1), ((sev_cells (hz.get 3 rfl)).2.2.2.2.1), ((sev_cells (hz.get 3 rfl)).2.2.2.2.2.1), ((sev_cells (hz.get 3 rfl)).2.2.2.2.2.2.1), hz⟩ (fun hHeld => ?_)
      clear hK K
      refine norm_ (a' := ?_) ?_ ?_
      rotate_left
      · show Act.put _ (some 38) _ = _
        simp only [Act.put, List.setIfInBounds_toArray, List.set_cons_zero, List.set_cons_succ, i64_w, i32_w]
        rfl
      refine pure_ (i := 2) (N := some 39) (v := ?_) (a' := ?_) #[true, true, true, false, false, false, false, false, false, false, false, false, false, false, false, false, false, false, false, false, false, false, false, false, false, false, false] rfl rfl (by kernel_rfl) (fun _ _ _ h => h) (Or.inl ⟨by rfl, ?_⟩) ?_ ?_
      rotate_left
      · intro w'
        go_simp
        with_reducible rfl
      rotate_left
      · simp only [Act.put, List.setIfInBounds_toArray, List.set_cons_zero, List.set_cons_succ, i64_w, i32_w]
        rfl
      refine pure_ (i := 3) (N := some 40) (v := undef) (a' := ?_) #[true, true, true, true, false, false, false, false, false, false, false, false, false, false, false, false, false, false, false, false, false, false, false, false, false, false, false] rfl rfl (by kernel_rfl) (fun _ _ _ h => h) (Or.inr ⟨by rfl, rfl⟩) ?_ ?_
      rotate_left
      · simp only [Act.put, List.setIfInBounds_toArray, List.set_cons_zero, List.set_cons_succ, i64_w, i32_w]
        rfl
      refine pure_ (i := 4) (N := some 41) (v := undef) (a' := ?_) #[true, true, true, true, true, false, false, false, false, false, false, false, false, false, false, false, false, false, false, false, false, false, false, false, false, false, false] rfl rfl (by kernel_rfl) (fun _ _ _ h => h) (Or.inr ⟨by rfl, rfl⟩) ?_ ?_
      rotate_left
      · simp only [Act.put, List.setIfInBounds_toArray, List.set_cons_zero, List.set_cons_succ, i64_w, i32_w]
        rfl
      refine pure_ (i := 5) (N := some 42) (v := ?_) (a' := ?_) #[true, true, true, true, true, true, false, false, false, false, false, false, false, false, false, false, false, false, false, false, false, false, false, false, false, false, false] rfl rfl (by kernel_rfl) (fun _ _ _ h => h) (Or.inl ⟨by rfl, ?_⟩) ?_ ?_
      rotate_left
      · intro w'
        go_simp
        with_reducible rfl
      rotate_left
      · simp only [Act.put, List.setIfInBounds_toArray, List.set_cons_zero, List.set_cons_succ, i64_w, i32_w]
        rfl
      refine pure_ (i := 6) (N := some 43) (v := ?_) (a' := ?_) #[true, true, true, true, true, true, true, false, false, false, false, false, false, false, false, false, false, false, false, false, false, false, false, false, false, false, false] rfl rfl (by kernel_rfl) (fun _ _ _ h => h) (Or.inl ⟨by rfl, ?_⟩) ?_ ?_
      rotate_left
      · intro w'
        go_simp
        with_reducible rfl
      rotate_left
      · simp only [Act.put, List.setIfInBounds_toArray, List.set_cons_zero, List.set_cons_succ, i64_w, i32_w]
        rfl
      refine take_ (i := 7) (N := some 44) (v := ?_) (a' := ?_) #[true, true, true, true, true, true, true, true, false, false, false, false, false, false, false, false, false, false, false, false, false, false, false, false, false, false, false] rfl rfl (by kernel_rfl) (fun _ _ _ h => h) (Or.inl ⟨by rfl, ?_⟩) hHeld ?_ ?_
      rotate_left
      · rintro w' ⟨s0, s1, s2, s3, s4, s5, s6, s7, s8, s9, s10, s11, s12, s13, s14, s15, s16, s17, s18, s19, s20, s21, s22, s23, s24, s25, s26⟩
        go_simp
        with_reducible rfl
      rotate_left
      · simp only [Act.put, List.setIfInBounds_toArray, List.set_cons_zero, List.set_cons_succ, i64_w, i32_w]
        rfl
      refine one_ (i := 8) (N := some 45) #[true, true, true, true, true, true, true, true, true, false, false, false, false, false, false, false, false, false, false, false, false, false, false, false, false, false, false] rfl rfl (by kernel_rfl) (by decide) (fun K hK => ?_)
      refine goes_ Tryz.func25 (by kernel_rfl) rfl #[.agg #[.int .i64 (kb false), .int .i64 0, .string ⟨#[]⟩, .slice none 0 0, .slice none 0 0, .slice none 0 0, .int .i64 0]] (by rfl) rfl rfl (by simp only [List.map_toArray, List.map_cons, List.map_nil]; rfl) ?_
      with_reducible refine ((HY2.out _)).mono ?_
      rintro e w3 ⟨rfl, hb⟩
      refine ⟨_, rfl, ?_⟩
      have hz := SPL.below (hHeld.2.2.2.2.2.2.2.2.2.2.2.2.2.2.2.2.2.2.2.2.2.2.2.2.2.2) hb
      refine hK.out _ _ ⟨((six_cells (hz.get 0 rfl)).1), ((six_cells (hz.get 0 rfl)).2.1), ((six_cells (hz.get 0 rfl)).2.2.1), ((six_cells (hz.get 0 rfl)).2.2.2.1), ((six_cells (hz.get 0 rfl)).2.2.2.2.1), ((six_cells (hz.get 0 rfl)).2.2.2.2.2.1), ((six_cells (hz.get 1 rfl)).1), ((six_cells (hz.get 1 rfl)).2.1), ((six_cells (hz.get 1 rfl)).2.2.1), ((six_cells (hz.get 1 rfl)).2.2.2.1), ((six_cells (hz.get 1 rfl)).2.2.2.2.1), ((six_cells (hz.get 1 rfl)).2.2.2.2.2.1), ((sev_cells (hz.get 2 rfl)).1), ((sev_cells (hz.get 2 rfl)).2.1), ((sev_cells (hz.get 2 rfl)).2.2.1), ((sev_cells (hz.get 2 rfl)).2.2.2.1), ((sev_cells (hz.get 2 rfl)).2.2.2.2.1), ((sev_cells (hz.get 2 rfl)).2.2.2.2.2.1), ((sev_cells (hz.get 2 rfl)).2.2.2.2.2.2.1), ((sev_cells (hz.get 3 rfl)).1), ((sev_cells (hz.get 3 rfl)).2.1), ((sev_cells (hz.get 3 rfl)).2.2.1), ((sev_cells (hz.get 3 rfl)).2.2.2.1), ((sev_cells (hz.get 3 rfl)).2.2.2.2.1), ((sev_cells (hz.get 3 rfl)).2.2.2.2.2.1), ((sev_cells (hz.get 3 rfl)).2.2.2.2.2.2.1), hz⟩ (fun hHeld => ?_)
      clear hK K
      refine norm_ (a' := ?_) ?_ ?_
      rotate_left
      · show Act.put _ (some 45) _ = _
        simp only [Act.put, List.setIfInBounds_toArray, List.set_cons_zero, List.set_cons_succ, i64_w, i32_w]
        rfl
      refine pure_ (i := 9) (N := some 46) (v := ?_) (a' := ?_) #[true, true, true, true, true, true, true, true, true, true, false, false, false, false, false, false, false, false, false, false, false, false, false, false, false, false, false] rfl rfl (by kernel_rfl) (fun _ _ _ h => h) (Or.inl ⟨by rfl, ?_⟩) ?_ ?_
      rotate_left
      · intro w'
        go_simp
        with_reducible rfl
      rotate_left
      · simp only [Act.put, List.setIfInBounds_toArray, List.set_cons_zero, List.set_cons_succ, i64_w, i32_w]
        rfl
      refine take_ (i := 10) (N := some 47) (v := ?_) (a' := ?_) #[true, true, true, true, true, true, true, true, true, true, true, false, false, false, false, false, false, false, false, false, false, false, false, false, false, false, false] rfl rfl (by kernel_rfl) (fun _ _ _ h => h) (Or.inl ⟨by rfl, ?_⟩) hHeld ?_ ?_
      rotate_left
      · rintro w' ⟨s0, s1, s2, s3, s4, s5, s6, s7, s8, s9, s10, s11, s12, s13, s14, s15, s16, s17, s18, s19, s20, s21, s22, s23, s24, s25, s26⟩
        go_simp
        with_reducible rfl
      rotate_left
      · simp only [Act.put, List.setIfInBounds_toArray, List.set_cons_zero, List.set_cons_succ, i64_w, i32_w]
        rfl
      refine one_ (i := 11) (N := some 48) #[true, true, true, true, true, true, true, true, true, true, true, true, false, false, false, false, false, false, false, false, false, false, false, false, false, false, false] rfl rfl (by kernel_rfl) (by decide) (fun K hK => ?_)
      refine goes_ Tryz.func26 (by kernel_rfl) rfl #[.agg #[.int .i64 (kb false), .int .i64 0, .string ⟨#[]⟩, .slice none 0 0, .slice none 0 0, .slice none 0 0, .int .i64 0]] (by rfl) rfl rfl (by simp only [List.map_toArray, List.map_cons, List.map_nil]; rfl) ?_
      with_reducible refine ((HN2.out _)).mono ?_
      rintro e w3 ⟨rfl, hb⟩
      refine ⟨_, rfl, ?_⟩
      have hz := SPL.below (hHeld.2.2.2.2.2.2.2.2.2.2.2.2.2.2.2.2.2.2.2.2.2.2.2.2.2.2) hb
      refine hK.out _ _ ⟨((six_cells (hz.get 0 rfl)).1), ((six_cells (hz.get 0 rfl)).2.1), ((six_cells (hz.get 0 rfl)).2.2.1), ((six_cells (hz.get 0 rfl)).2.2.2.1), ((six_cells (hz.get 0 rfl)).2.2.2.2.1), ((six_cells (hz.get 0 rfl)).2.2.2.2.2.1), ((six_cells (hz.get 1 rfl)).1), ((six_cells (hz.get 1 rfl)).2.1), ((six_cells (hz.get 1 rfl)).2.2.1), ((six_cells (hz.get 1 rfl)).2.2.2.1), ((six_cells (hz.get 1 rfl)).2.2.2.2.1), ((six_cells (hz.get 1 rfl)).2.2.2.2.2.1), ((sev_cells (hz.get 2 rfl)).1), ((sev_cells (hz.get 2 rfl)).2.1), ((sev_cells (hz.get 2 rfl)).2.2.1), ((sev_cells (hz.get 2 rfl)).2.2.2.1), ((sev_cells (hz.get 2 rfl)).2.2.2.2.1), ((sev_cells (hz.get 2 rfl)).2.2.2.2.2.1), ((sev_cells (hz.get 2 rfl)).2.2.2.2.2.2.1), ((sev_cells (hz.get 3 rfl)).1), ((sev_cells (hz.get 3 rfl)).2.1), ((sev_cells (hz.get 3 rfl)).2.2.1), ((sev_cells (hz.get 3 rfl)).2.2.2.1), ((sev_cells (hz.get 3 rfl)).2.2.2.2.1), ((sev_cells (hz.get 3 rfl)).2.2.2.2.2.1), ((sev_cells (hz.get 3 rfl)).2.2.2.2.2.2.1), hz⟩ (fun hHeld => ?_)
      clear hK K
      refine norm_ (a' := ?_) ?_ ?_
      rotate_left
      · show Act.put _ (some 48) _ = _
        simp only [Act.put, List.setIfInBounds_toArray, List.set_cons_zero, List.set_cons_succ, i64_w, i32_w]
        rfl
      refine pure_ (i := 12) (N := some 49) (v := ?_) (a' := ?_) #[true, true, true, true, true, true, true, true, true, true, true, true, true, false, false, false, false, false, false, false, false, false, false, false, false, false, false] rfl rfl (by kernel_rfl) (fun _ _ _ h => h) (Or.inl ⟨by rfl, ?_⟩) ?_ ?_
      rotate_left
      · intro w'
        go_simp
        with_reducible rfl
      rotate_left
      · simp only [Act.put, List.setIfInBounds_toArray, List.set_cons_zero, List.set_cons_succ, i64_w, i32_w]
        rfl
      refine pure_ (i := 13) (N := some 50) (v := ?_) (a' := ?_) #[true, true, true, true, true, true, true, true, true, true, true, true, true, true, false, false, false, false, false, false, false, false, false, false, false, false, false] rfl rfl (by kernel_rfl) (fun _ _ _ h => h) (Or.inl ⟨by rfl, ?_⟩) ?_ ?_
      rotate_left
      · intro w'
        go_simp
        with_reducible rfl
      rotate_left
      · simp only [Act.put, List.setIfInBounds_toArray, List.set_cons_zero, List.set_cons_succ, i64_w, i32_w]
        rfl
      refine pure_ (i := 14) (N := some 51) (v := ?_) (a' := ?_) #[true, true, true, true, true, true, true, true, true, true, true, true, true, true, true, false, false, false, false, false, false, false, false, false, false, false, false] rfl rfl (by kernel_rfl) (fun _ _ _ h => h) (Or.inl ⟨by rfl, ?_⟩) ?_ ?_
      rotate_left
      · intro w'
        go_simp
        with_reducible rfl
      rotate_left
      · simp only [Act.put, List.setIfInBounds_toArray, List.set_cons_zero, List.set_cons_succ, i64_w, i32_w]
        rfl
      refine take_ (i := 15) (N := some 52) (v := ?_) (a' := ?_) #[true, true, true, true, true, true, true, true, true, true, true, true, true, true, true, true, false, false, false, false, false, false, false, false, false, false, false] rfl rfl (by kernel_rfl) (fun _ _ _ h => h) (Or.inl ⟨by rfl, ?_⟩) hHeld ?_ ?_
      rotate_left
      · rintro w' ⟨s0, s1, s2, s3, s4, s5, s6, s7, s8, s9, s10, s11, s12, s13, s14, s15, s16, s17, s18, s19, s20, s21, s22, s23, s24, s25, s26⟩
        go_simp
        with_reducible rfl
      rotate_left
      · simp only [Act.put, List.setIfInBounds_toArray, List.set_cons_zero, List.set_cons_succ, i64_w, i32_w]
        rfl
      refine take_ (i := 21) (N := some 58) (v := ?_) (a' := ?_) #[true, true, true, true, true, true, true, true, true, true, true, true, true, true, true, true, false, false, false, false, false, true, false, false, false, false, false] rfl rfl (by kernel_rfl) (fun _ _ _ h => h) (Or.inl ⟨by rfl, ?_⟩) hHeld ?_ ?_
      rotate_left
      · rintro w' ⟨s0, s1, s2, s3, s4, s5, s6, s7, s8, s9, s10, s11, s12, s13, s14, s15, s16, s17, s18, s19, s20, s21, s22, s23, s24, s25, s26⟩
        go_simp
        with_reducible rfl
      rotate_left
      · simp only [Act.put, List.setIfInBounds_toArray, List.set_cons_zero, List.set_cons_succ, i64_w, i32_w]
        rfl
      refine take_ (i := 22) (N := some 59) (v := ?_) (a' := ?_) #[true, true, true, true, true, true, true, true, true, true, true, true, true, true, true, true, false, false, false, false, false, true, true, false, false, false, false] rfl rfl (by kernel_rfl) (fun _ _ _ h => h) (Or.inl ⟨by rfl, ?_⟩) hHeld ?_ ?_
      rotate_left
      · rintro w' ⟨s0, s1, s2, s3, s4, s5, s6, s7, s8, s9, s10, s11, s12, s13, s14, s15, s16, s17, s18, s19, s20, s21, s22, s23, s24, s25, s26⟩
        go_simp
        with_reducible rfl
      rotate_left
      · simp only [Act.put, List.setIfInBounds_toArray, List.set_cons_zero, List.set_cons_succ, i64_w, i32_w]
        rfl
      refine one_ (i := 16) (N := some 53) #[true, true, true, true, true, true, true, true, true, true, true, true, true, true, true, true, true, false, false, false, false, true, true, false, false, false, false] rfl rfl (by kernel_rfl) (by decide) (fun K hK => ?_)
      refine goes_ Tryz.func25 (by kernel_rfl) rfl #[.agg #[.int .i64 (kb true), .int .i64 0, .string ⟨#[]⟩, .slice none 0 0, .slice none 0 0, .slice none 0 0, .int .i64 0]] (by rfl) rfl rfl (by simp only [List.map_toArray, List.map_cons, List.map_nil]; rfl) ?_
      with_reducible refine ((HY1.out _)).mono ?_
      rintro e w3 ⟨rfl, hb⟩
      refine ⟨_, rfl, ?_⟩
      have hz := SPL.below (hHeld.2.2.2.2.2.2.2.2.2.2.2.2.2.2.2.2.2.2.2.2.2.2.2.2.2.2) hb
      refine hK.out _ _ ⟨((six_cells (hz.get 0 rfl)).1), ((six_cells (hz.get 0 rfl)).2.1), ((six_cells (hz.get 0 rfl)).2.2.1), ((six_cells (hz.get 0 rfl)).2.2.2.1), ((six_cells (hz.get 0 rfl)).2.2.2.2.1), ((six_cells (hz.get 0 rfl)).2.2.2.2.2.1), ((six_cells (hz.get 1 rfl)).1), ((six_cells (hz.get 1 rfl)).2.1), ((six_cells (hz.get 1 rfl)).2.2.1), ((six_cells (hz.get 1 rfl)).2.2.2.1), ((six_cells (hz.get 1 rfl)).2.2.2.2.1), ((six_cells (hz.get 1 rfl)).2.2.2.2.2.1), ((sev_cells (hz.get 2 rfl)).1), ((sev_cells (hz.get 2 rfl)).2.1), ((sev_cells (hz.get 2 rfl)).2.2.1), ((sev_cells (hz.get 2 rfl)).2.2.2.1), ((sev_cells (hz.get 2 rfl)).2.2.2.2.1), ((sev_cells (hz.get 2 rfl)).2.2.2.2.2.1), ((sev_cells (hz.get 2 rfl)).2.2.2.2.2.2.1), ((sev_cells (hz.get 3 rfl)).1), ((sev_cells (hz.get 3 rfl)).2.1), ((sev_cells (hz.get 3 rfl)).2.2.1), ((sev_cells (hz.get 3 rfl)).2.2.2.1), ((sev_cells (hz.get 3 rfl)).2.2.2.2.1), ((sev_cells (hz.get 3 rfl)).2.2.2.2.2.1), ((sev_cells (hz.get 3 rfl)).2.2.2.2.2.2.1), hz⟩ (fun hHeld => ?_)
      clear hK K
      refine norm_ (a' := ?_) ?_ ?_
      rotate_left
      · show Act.put _ (some 53) _ = _
        simp only [Act.put, List.setIfInBounds_toArray, List.set_cons_zero, List.set_cons_succ, i64_w, i32_w]
        rfl
      refine pure_ (i := 17) (N := some 54) (v := ?_) (a' := ?_) #[true, true, true, true, true, true, true, true, true, true, true, true, true, true, true, true, true, true, false, false, false, true, true, false, false, false, false] rfl rfl (by kernel_rfl) (fun _ _ _ h => h) (Or.inl ⟨by rfl, ?_⟩) ?_ ?_
      rotate_left
      · intro w'
        go_simp
        with_reducible rfl
      rotate_left
      · simp only [Act.put, List.setIfInBounds_toArray, List.set_cons_zero, List.set_cons_succ, i64_w, i32_w]
        rfl
      refine take_ (i := 18) (N := some 55) (v := ?_) (a' := ?_) #[true, true, true, true, true, true, true, true, true, true, true, true, true, true, true, true, true, true, true, false, false, true, true, false, false, false, false] rfl rfl (by kernel_rfl) (fun _ _ _ h => h) (Or.inl ⟨by rfl, ?_⟩) hHeld ?_ ?_
      rotate_left
      · rintro w' ⟨s0, s1, s2, s3, s4, s5, s6, s7, s8, s9, s10, s11, s12, s13, s14, s15, s16, s17, s18, s19, s20, s21, s22, s23, s24, s25, s26⟩
        go_simp
        with_reducible rfl
      rotate_left
      · simp only [Act.put, List.setIfInBounds_toArray, List.set_cons_zero, List.set_cons_succ, i64_w, i32_w]
        rfl
      refine one_ (i := 19) (N := some 56) #[true, true, true, true, true, true, true, true, true, true, true, true, true, true, true, true, true, true, true, true, false, true, true, false, false, false, false] rfl rfl (by kernel_rfl) (by decide) (fun K hK => ?_)
      refine goes_ Tryz.func25 (by kernel_rfl) rfl #[.agg #[.int .i64 (kb false), .int .i64 0, .string ⟨#[]⟩, .slice none 0 0, .slice none 0 0, .slice none 0 0, .int .i64 0]] (by rfl) rfl rfl (by simp only [List.map_toArray, List.map_cons, List.map_nil]; rfl) ?_
      with_reducible refine ((HY2.out _)).mono ?_
      rintro e w3 ⟨rfl, hb⟩
      refine ⟨_, rfl, ?_⟩
      have hz := SPL.below (hHeld.2.2.2.2.2.2.2.2.2.2.2.2.2.2.2.2.2.2.2.2.2.2.2.2.2.2) hb
      refine hK.out _ _ ⟨((six_cells (hz.get 0 rfl)).1), ((six_cells (hz.get 0 rfl)).2.1), ((six_cells (hz.get 0 rfl)).2.2.1), ((six_cells (hz.get 0 rfl)).2.2.2.1), ((six_cells (hz.get 0 rfl)).2.2.2.2.1), ((six_cells (hz.get 0 rfl)).2.2.2.2.2.1), ((six_cells (hz.get 1 rfl)).1), ((six_cells (hz.get 1 rfl)).2.1), ((six_cells (hz.get 1 rfl)).2.2.1), ((six_cells (hz.get 1 rfl)).2.2.2.1), ((six_cells (hz.get 1 rfl)).2.2.2.2.1), ((six_cells (hz.get 1 rfl)).2.2.2.2.2.1), ((sev_cells (hz.get 2 rfl)).1), ((sev_cells (hz.get 2 rfl)).2.1), ((sev_cells (hz.get 2 rfl)).2.2.1), ((sev_cells (hz.get 2 rfl)).2.2.2.1), ((sev_cells (hz.get 2 rfl)).2.2.2.2.1), ((sev_cells (hz.get 2 rfl)).2.2.2.2.2.1), ((sev_cells (hz.get 2 rfl)).2.2.2.2.2.2.1), ((sev_cells (hz.get 3 rfl)).1), ((sev_cells (hz.get 3 rfl)).2.1), ((sev_cells (hz.get 3 rfl)).2.2.1), ((sev_cells (hz.get 3 rfl)).2.2.2.1), ((sev_cells (hz.get 3 rfl)).2.2.2.2.1), ((sev_cells (hz.get 3 rfl)).2.2.2.2.2.1), ((sev_cells (hz.get 3 rfl)).2.2.2.2.2.2.1), hz⟩ (fun hHeld => ?_)
      clear hK K
      refine norm_ (a' := ?_) ?_ ?_
      rotate_left
      · show Act.put _ (some 56) _ = _
        simp only [Act.put, List.setIfInBounds_toArray, List.set_cons_zero, List.set_cons_succ, i64_w, i32_w]
        rfl
      refine pure_ (i := 20) (N := some 57) (v := ?_) (a' := ?_) #[true, true, true, true, true, true, true, true, true, true, true, true, true, true, true, true, true, true, true, true, true, true, true, false, false, false, false] rfl rfl (by kernel_rfl) (fun _ _ _ h => h) (Or.inl ⟨by rfl, ?_⟩) ?_ ?_
      rotate_left
      · intro w'
        go_simp
        with_reducible rfl
      rotate_left
      · simp only [Act.put, List.setIfInBounds_toArray, List.set_cons_zero, List.set_cons_succ, i64_w, i32_w]
        rfl
      refine one_ (i := 23) (N := some 60) #[true, true, true, true, true, true, true, true, true, true, true, true, true, true, true, true, true, true, true, true, true, true, true, true, false, false, false] rfl rfl (by kernel_rfl) (by decide) (fun K hK => ?_)
      refine goes_ Tryz.func27 (by kernel_rfl) rfl #[.agg #[.int .i64 Kb, .int .i64 Ha, .string sa, .slice A3a n3a c3a, .slice A4a n4a c4a, .slice A5a n5a c5a], .agg #[.int .i64 Kb, .int .i64 Hb, .string sb, .slice A3b n3b c3b, .slice A4b n4b c4b, .slice A5b n5b c5b]] (by rfl) rfl rfl (by simp only [List.map_toArray, List.map_cons, List.map_nil]; rfl) ?_
      with_reducible refine ((HSM.out _)).mono ?_
      rintro e w3 ⟨rfl, hb⟩
      refine ⟨_, rfl, ?_⟩
      have hz := SPL.below (hHeld.2.2.2.2.2.2.2.2.2.2.2.2.2.2.2.2.2.2.2.2.2.2.2.2.2.2) hb
      refine hK.out _ _ ⟨((six_cells (hz.get 0 rfl)).1), ((six_cells (hz.get 0 rfl)).2.1), ((six_cells (hz.get 0 rfl)).2.2.1), ((six_cells (hz.get 0 rfl)).2.2.2.1), ((six_cells (hz.get 0 rfl)).2.2.2.2.1), ((six_cells (hz.get 0 rfl)).2.2.2.2.2.1), ((six_cells (hz.get 1 rfl)).1), ((six_cells (hz.get 1 rfl)).2.1), ((six_cells (hz.get 1 rfl)).2.2.1), ((six_cells (hz.get 1 rfl)).2.2.2.1), ((six_cells (hz.get 1 rfl)).2.2.2.2.1), ((six_cells (hz.get 1 rfl)).2.2.2.2.2.1), ((sev_cells (hz.get 2 rfl)).1), ((sev_cells (hz.get 2 rfl)).2.1), ((sev_cells (hz.get 2 rfl)).2.2.1), ((sev_cells (hz.get 2 rfl)).2.2.2.1), ((sev_cells (hz.get 2 rfl)).2.2.2.2.1), ((sev_cells (hz.get 2 rfl)).2.2.2.2.2.1), ((sev_cells (hz.get 2 rfl)).2.2.2.2.2.2.1), ((sev_cells (hz.get 3 rfl)).1), ((sev_cells (hz.get 3 rfl)).2.1), ((sev_cells (hz.get 3 rfl)).2.2.1), ((sev_cells (hz.get 3 rfl)).2.2.2.1), ((sev_cells (hz.get 3 rfl)).2.2.2.2.1), ((sev_cells (hz.get 3 rfl)).2.2.2.2.2.1), ((sev_cells (hz.get 3 rfl)).2.2.2.2.2.2.1), hz⟩ (fun hHeld => ?_)
      clear hK K
      refine norm_ (a' := ?_) ?_ ?_
      rotate_left
      · show Act.put _ (some 60) _ = _
        simp only [Act.put, List.setIfInBounds_toArray, List.set_cons_zero, List.set_cons_succ, i64_w, i32_w]
        rfl
      refine pure_ (i := 24) (N := some 61) (v := ?_) (a' := ?_) #[true, true, true, true, true, true, true, true, true, true, true, true, true, true, true, true, true, true, true, true, true, true, true, true, true, false, false] rfl rfl (by kernel_rfl) (fun _ _ _ h => h) (Or.inl ⟨by rfl, ?_⟩) ?_ ?_
      rotate_left
      · intro w'
        go_simp
        with_reducible rfl
      rotate_left
      · simp only [Act.put, List.setIfInBounds_toArray, List.set_cons_zero, List.set_cons_succ, i64_w, i32_w]
        rfl
      refine pure_ (i := 25) (N := some 62) (v := ?_) (a' := ?_) #[true, true, true, true, true, true, true, true, true, true, true, true, true, true, true, true, true, true, true, true, true, true, true, true, true, true, false] rfl rfl (by kernel_rfl) (fun _ _ _ h => h) (Or.inl ⟨by rfl, ?_⟩) ?_ ?_
      rotate_left
      · intro w'
        go_simp
        with_reducible rfl
      rotate_left
      · simp only [Act.put, List.setIfInBounds_toArray, List.set_cons_zero, List.set_cons_succ, i64_w, i32_w]
        rfl
      refine pure_ (i := 26) (N := some 4) (v := ?_) (a' := ?_) #[true, true, true, true, true, true, true, true, true, true, true, true, true, true, true, true, true, true, true, true, true, true, true, true, true, true, true] rfl rfl (by kernel_rfl) (fun _ _ _ h => h) (Or.inl ⟨by rfl, ?_⟩) ?_ ?_
      rotate_left
      · intro w'
        go_simp
        with_reducible rfl
      rotate_left
      · simp only [Act.put, List.setIfInBounds_toArray, List.set_cons_zero, List.set_cons_succ, i64_w, i32_w]
        rfl
      refine done_ (by kernel_rfl) ?_
      go_wp2_with fail
      go_ret
      exact ⟨rfl, hz.1⟩
  | false =>
    cases d with
    | true =>
      have HY1 := Lib.hid (yes_bool false)
      have HN1 := Lib.hid (no_bool false)
      have HY2 := Lib.hid (yes_bool true)
      have HN2 := Lib.hid (no_bool true)
      simp only [rv, r0, Bool.not_true, Bool.not_false] at HY1 HN1 HY2 HN2
      have HSM := HS
      simp only [Bool.and_self, Bool.and_true, Bool.true_and, Bool.and_false, Bool.false_and] at HSM
      clear HS
      go_wp2_with fail
      refine start_ (n := 27) (S := fun w' => w'.cell? ⟨A, 0, none⟩ = some (.int .i64 Kb) ∧ w'.cell? ⟨A, 1, none⟩ = some (.int .i64 Ha) ∧ w'.cell? ⟨A, 2, none⟩ = some (.string sa) ∧ w'.cell? ⟨A, 3, none⟩ = some (.slice A3a n3a c3a) ∧ w'.cell? ⟨A, 4, none⟩ = some (.slice A4a n4a c4a) ∧ w'.cell? ⟨A, 5, none⟩ = some (.slice A5a n5a c5a) ∧ w'.cell? ⟨B, 0, none⟩ = some (.int .i64 Kb) ∧ w'.cell? ⟨B, 1, none⟩ = some (.int .i64 Hb) ∧ w'.cell? ⟨B, 2, none⟩ = some (.string sb) ∧ w'.cell? ⟨B, 3, none⟩ = some (.slice A3b n3b c3b) ∧ w'.cell? ⟨B, 4, none⟩ = some (.slice A4b n4b c4b) ∧ w'.cell? ⟨B, 5, none⟩ = some (.slice A5b n5b c5b) ∧ w'.cell? ⟨R, 0, none⟩ = some (.int .i64 (kb false)) ∧ w'.cell? ⟨R, 1, none⟩ = some (.int .i64 0) ∧ w'.cell? ⟨R, 2, none⟩ = some (.string ⟨#[]⟩) ∧ w'.cell? ⟨R, 3, none⟩ = some (.slice none 0 0) ∧ w'.cell? ⟨R, 4, none⟩ = some (.slice none 0 0) ∧ w'.cell? ⟨R, 5, none⟩ = some (.slice none 0 0) ∧ w'.cell? ⟨R, 6, none⟩ = some (.int .i64 0) ∧ w'.cell? ⟨T, 0, none⟩ = some (.int .i64 (kb true)) ∧ w'.cell? ⟨T, 1, none⟩ = some (.int .i64 0) ∧ w'.cell? ⟨T, 2, none⟩ = some (.string ⟨#[]⟩) ∧ w'.cell? ⟨T, 3, none⟩ = some (.slice none 0 0) ∧ w'.cell? ⟨T, 4, none⟩ = some (.slice none 0 0) ∧ w'.cell? ⟨T, 5, none⟩ = some (.slice none 0 0) ∧ w'.cell? ⟨T, 6, none⟩ = some (.int .i64 0) ∧ SPL w [(A, #[.int .i64 Kb, .int .i64 Ha, .string sa, .slice A3a n3a c3a, .slice A4a n4a c4a, .slice A5a n5a c5a], 26), (B, #[.int .i64 Kb, .int .i64 Hb, .string sb, .slice A3b n3b c3b, .slice A4b n4b c4b, .slice A5b n5b c5b], 26), (R, #[.int .i64 (kb false), .int .i64 0, .string ⟨#[]⟩, .slice none 0 0, .slice none 0 0, .slice none 0 0, .int .i64 0], 30), (T, #[.int .i64 (kb true), .int .i64 0, .string ⟨#[]⟩, .slice none 0 0, .slice none 0 0, .slice none 0 0, .int .i64 0], 30)] w') (ds := []) #[false, false, false, false, false, false, false, false, false, false, false, false, false, false, false, false, false, false, false, false, false, false, false, false, false, false, false] (by kernel_rfl) rfl rfl ⟨((six_cells ((SPL.drew HZ.out).get 0 rfl)).1), ((six_cells ((SPL.drew HZ.out).get 0 rfl)).2.1), ((six_cells ((SPL.drew HZ.out).get 0 rfl)).2.2.1), ((six_cells ((SPL.drew HZ.out).get 0 rfl)).2.2.2.1), ((six_cells ((SPL.drew HZ.out).get 0 rfl)).2.2.2.2.1), ((six_cells ((SPL.drew HZ.out).get 0 rfl)).2.2.2.2.2.1), ((six_cells ((SPL.drew HZ.out).get 1 rfl)).1), ((six_cells ((SPL.drew HZ.out).get 1 rfl)).2.1), ((six_cells ((SPL.drew HZ.out).get 1 rfl)).2.2.1), ((six_cells ((SPL.drew HZ.out).get 1 rfl)).2.2.2.1), ((six_cells ((SPL.drew HZ.out).get 1 rfl)).2.2.2.2.1), ((six_cells ((SPL.drew HZ.out).get 1 rfl)).2.2.2.2.2.1), ((sev_cells ((SPL.drew HZ.out).get 2 rfl)).1), ((sev_cells ((SPL.drew HZ.out).get 2 rfl)).2.1), ((sev_cells ((SPL.drew HZ.out).get 2 rfl)).2.2.1), ((sev_cells ((SPL.drew HZ.out).get 2 rfl)).2.2.2.1), ((sev_cells ((SPL.drew HZ.out).get 2 rfl)).2.2.2.2.1), ((sev_cells ((SPL.drew HZ.out).get 2 rfl)).2.2.2.2.2.1), ((sev_cells ((SPL.drew HZ.out).get 2 rfl)).2.2.2.2.2.2.1), ((sev_cells ((SPL.drew HZ.out).get 3 rfl)).1), ((sev_cells ((SPL.drew HZ.out).get 3 rfl)).2.1), ((sev_cells ((SPL.drew HZ.out).get 3 rfl)).2.2.1), ((sev_cells ((SPL.drew HZ.out).get 3 rfl)).2.2.2.1), ((sev_cells ((SPL.drew HZ.out).get 3 rfl)).2.2.2.2.1), ((sev_cells ((SPL.drew HZ.out).get 3 rfl)).2.2.2.2.2.1), ((sev_cells ((SPL.drew HZ.out).get 3 rfl)).2.2.2.2.2.2.1), (SPL.drew HZ.out)⟩ (fun hHeld => ?_)
      refine take_ (i := 0) (N := some 37) (v := ?_) (a' := ?_) #[true, false, false, false, false, false, false, false, false, false, false, false, false, false, false, false, false, false, false, false, false, false, false, false, false, false, false] rfl rfl (by kernel_rfl) (fun _ _ _ h => h) (Or.inl ⟨by rfl, ?_⟩) hHeld ?_ ?_
      rotate_left
      · rintro w' ⟨s0, s1, s2, s3, s4, s5, s6, s7, s8, s9, s10, s11, s12, s13, s14, s15, s16, s17, s18, s19, s20, s21, s22, s23, s24, s25, s26⟩
        go_simp
        with_reducible rfl
      rotate_left
      · simp only [Act.put, List.setIfInBounds_toArray, List.set_cons_zero, List.set_cons_succ, i64_w, i32_w]
        rfl
      refine one_ (i := 1) (N := some 38) #[true, true, false, false, false, false, false, false, false, false, false, false, false, false, false, false, false, false, false, false, false, false, false, false, false, false, false] rfl rfl (by kernel_rfl) (by decide) (fun K hK => ?_)
      refine goes_ Tryz.func25 (by kernel_rfl) rfl #[.agg #[.int .i64 (kb false), .int .i64 0, .string ⟨#[]⟩, .slice none 0 0, .slice none 0 0, .slice none 0 0, .int .i64 0]] (by rfl) rfl rfl (by simp only [List.map_toArray, List.map_cons, List.map_nil]; rfl) ?_
      with_reducible refine ((HY1.out _)).mono ?_
      rintro e w3 ⟨rfl, hb⟩
      refine ⟨_, rfl, ?_⟩
      have hz := SPL.below (hHeld.2.2.2.2.2.2.2.2.2.2.2.2.2.2.2.2.2.2.2.2.2.2.2.2.2.2) hb
      refine hK.out _ _ ⟨((six_cells (hz.get 0 rfl)).1), ((six_cells (hz.get 0 rfl)).2.1), ((six_cells (hz.get 0 rfl)).2.2.1), ((six_cells (hz.get 0 rfl)).2.2.2.1), ((six_cells (hz.get 0 rfl)).2.2.2.2.1), ((six_cells (hz.get 0 rfl)).2.2.2.2.2.1), ((six_cells (hz.get 1 rfl)).1), ((six_cells (hz.get 1 rfl)).2.1), ((six_cells (hz.get 1 rfl)).2.2.1), ((six_cells (hz.get 1 rfl)).2.2.2.1), ((six_cells (hz.get 1 rfl)).2.2.2.2.1), ((six_cells (hz.get 1 rfl)).2.2.2.2.2.1), ((sev_cells (hz.get 2 rfl)).1), ((sev_cells (hz.get 2 rfl)).2.1), ((sev_cells (hz.get 2 rfl)).2.2.1), ((sev_cells (hz.get 2 rfl)).2.2.2.1), ((sev_cells (hz.get 2 rfl)).2.2.2.2.1), ((sev_cells (hz.get 2 rfl)).2.2.2.2.2.1), ((sev_cells (hz.get 2 rfl)).2.2.2.2.2.2.1), ((sev_cells (hz.get 3 rfl)).1), ((sev_cells (hz.get 3 rfl)).2.1), ((sev_cells (hz.get 3 rfl)).2.2.1), ((sev_cells (hz.get 3 rfl)).2.2.2.1), ((sev_cells (hz.get 3 rfl)).2.2.2.2.1), ((sev_cells (hz.get 3 rfl)).2.2.2.2.2.1), ((sev_cells (hz.get 3 rfl)).2.2.2.2.2.2.1), hz⟩ (fun hHeld => ?_)
      clear hK K
      refine norm_ (a' := ?_) ?_ ?_
      rotate_left
      · show Act.put _ (some 38) _ = _
        simp only [Act.put, List.setIfInBounds_toArray, List.set_cons_zero, List.set_cons_succ, i64_w, i32_w]
        rfl
      refine pure_ (i := 2) (N := some 39) (v := ?_) (a' := ?_) #[true, true, true, false, false, false, false, false, false, false, false, false, false, false, false, false, false, false, false, false, false, false, false, false, false, false, false] rfl rfl (by kernel_rfl) (fun _ _ _ h => h) (Or.inl ⟨by rfl, ?_⟩) ?_ ?_
      rotate_left
      · intro w'
        go_simp
        with_reducible rfl
      rotate_left
      · simp only [Act.put, List.setIfInBounds_toArray, List.set_cons_zero, List.set_cons_succ, i64_w, i32_w]
        rfl
      refine take_ (i := 3) (N := some 40) (v := ?_) (a' := ?_) #[true, true, true, true, false, false, false, false, false, false, false, false, false, false, false, false, false, false, false, false, false, false, false, false, false, false, false] rfl rfl (by kernel_rfl) (fun _ _ _ h => h) (Or.inl ⟨by rfl, ?_⟩) hHeld ?_ ?_
      rotate_left
      · rintro w' ⟨s0, s1, s2, s3, s4, s5, s6, s7, s8, s9, s10, s11, s12, s13, s14, s15, s16, s17, s18, s19, s20, s21, s22, s23, s24, s25, s26⟩
        go_simp
        with_reducible rfl
      rotate_left
      · simp only [Act.put, List.setIfInBounds_toArray, List.set_cons_zero, List.set_cons_succ, i64_w, i32_w]
        rfl
      refine one_ (i := 4) (N := some 41) #[true, true, true, true, true, false, false, false, false, false, false, false, false, false, false, false, false, false, false, false, false, false, false, false, false, false, false] rfl rfl (by kernel_rfl) (by decide) (fun K hK => ?_)
      refine goes_ Tryz.func26 (by kernel_rfl) rfl #[.agg #[.int .i64 (kb false), .int .i64 0, .string ⟨#[]⟩, .slice none 0 0, .slice none 0 0, .slice none 0 0, .int .i64 0]] (by rfl) rfl rfl (by simp only [List.map_toArray, List.map_cons, List.map_nil]; rfl) ?_
      with_reducible refine ((HN1.out _)).mono ?_
      rintro e w3 ⟨rfl, hb⟩
      refine ⟨_, rfl, ?_⟩
      have hz := SPL.below (hHeld.2.2.2.2.2.2.2.2.2.2.2.2.2.2.2.2.2.2.2.2.2.2.2.2.2.2) hb
      refine hK.out _ _ ⟨((six_cells (hz.get 0 rfl)).1), ((six_cells (hz.get 0 rfl)).2.1), ((six_cells (hz.get 0 rfl)).2.2.1), ((six_cells (hz.get 0 rfl)).2.2.2.1), ((six_cells (hz.get 0 rfl)).2.2.2.2.1), ((six_cells (hz.get 0 rfl)).2.2.2.2.2.1), ((six_cells (hz.get 1 rfl)).1), ((six_cells (hz.get 1 rfl)).2.1), ((six_cells (hz.get 1 rfl)).2.2.1), ((six_cells (hz.get 1 rfl)).2.2.2.1), ((six_cells (hz.get 1 rfl)).2.2.2.2.1), ((six_cells (hz.get 1 rfl)).2.2.2.2.2.1), ((sev_cells (hz.get 2 rfl)).1), ((sev_cells (hz.get 2 rfl)).2.1), ((sev_cells (hz.get 2 rfl)).2.2.1), ((sev_cells (hz.get 2 rfl)).2.2.2.1), ((sev_cells (hz.get 2 rfl)).2.2.2.2.1), ((sev_cells (hz.get 2 rfl)).2.2.2.2.2.1), ((sev_cells (hz.get 2 rfl)).2.2.2.2.2.2.1), ((sev_cells (hz.get 3 rfl)).1), ((sev_cells (hz.get 3 rfl)).2.1), ((sev_cells (hz.get 3 rfl)).2.2.1), ((sev_cells (hz.get 3 rfl)).2.2.2.1), ((sev_cells (hz.get 3 rfl)).2.2.2.2.1), ((sev_cells (hz.get 3 rfl)).2.2.2.2.2.1), ((sev_cells (hz.get 3 rfl)).2.2.2.2.2.2.1), hz⟩ (fun hHeld => ?_)
      clear hK K
      refine norm_ (a' := ?_) ?_ ?_
      rotate_left
      · show Act.put _ (some 41) _ = _
        simp only [Act.put, List.setIfInBounds_toArray, List.set_cons_zero, List.set_cons_succ, i64_w, i32_w]
        rfl
      refine pure_ (i := 5) (N := some 42) (v := ?_) (a' := ?_) #[true, true, true, true, true, true, false, false, false, false, false, false, false, false, false, false, false, false, false, false, false, false, false, false, false, false, false] rfl rfl (by kernel_rfl) (fun _ _ _ h => h) (Or.inl ⟨by rfl, ?_⟩) ?_ ?_
      rotate_left
      · intro w'
        go_simp
        with_reducible rfl
      rotate_left
      · simp only [Act.put, List.setIfInBounds_toArray, List.set_cons_zero, List.set_cons_succ, i64_w, i32_w]
        rfl
      refine pure_ (i := 6) (N := some 43) (v := ?_) (a' := ?_) #[true, true, true, true, true, true, true, false, false, false, false, false, false, false, false, false, false, false, false, false, false, false, false, false, false, false, false] rfl rfl (by kernel_rfl) (fun _ _ _ h => h) (Or.inl ⟨by rfl, ?_⟩) ?_ ?_
      rotate_left
      · intro w'
        go_simp
        with_reducible rfl
      rotate_left
      · simp only [Act.put, List.setIfInBounds_toArray, List.set_cons_zero, List.set_cons_succ, i64_w, i32_w]
        rfl
      refine take_ (i := 7) (N := some 44) (v := ?_) (a' := ?_) #[true, true, true, true, true, true, true, true, false, false, false, false, false, false, false, false, false, false, false, false, false, false, false, false, false, false, false] rfl rfl (by kernel_rfl) (fun _ _ _ h => h) (Or.inl ⟨by rfl, ?_⟩) hHeld ?_ ?_
      rotate_left
      · rintro w' ⟨s0, s1, s2, s3, s4, s5, s6, s7, s8, s9, s10, s11, s12, s13, s14, s15, s16, s17, s18, s19, s20, s21, s22, s23, s24, s25, s26⟩
        go_simp
        with_reducible rfl
      rotate_left
      · simp only [Act.put, List.setIfInBounds_toArray, List.set_cons_zero, List.set_cons_succ, i64_w, i32_w]
        rfl
      refine one_ (i := 8) (N := some 45) #[true, true, true, true, true, true, true, true, true, false, false, false, false, false, false, false, false, false, false, false, false, false, false, false, false, false, false] rfl rfl (by kernel_rfl) (by decide) (fun K hK => ?_)
      refine goes_ Tryz.func25 (by kernel_rfl) rfl #[.agg #[.int .i64 (kb true), .int .i64 0, .string ⟨#[]⟩, .slice none 0 0, .slice none 0 0, .slice none 0 0, .int .i64 0]] (by rfl) rfl rfl (by simp only [List.map_toArray, List.map_cons, List.map_nil]; rfl) ?_
      with_reducible refine ((HY2.out _)).mono ?_
      rintro e w3 ⟨rfl, hb⟩
      refine ⟨_, rfl, ?_⟩
      have hz := SPL.below (hHeld.2.2.2.2.2.2.2.2.2.2.2.2.2.2.2.2.2.2.2.2.2.2.2.2.2.2) hb
      refine hK.out _ _ ⟨((six_cells (hz.get 0 rfl)).1), ((six_cells (hz.get 0 rfl)).2.1), ((six_cells (hz.get 0 rfl)).2.2.1), ((six_cells (hz.get 0 rfl)).2.2.2.1), ((six_cells (hz.get 0 rfl)).2.2.2.2.1), ((six_cells (hz.get 0 rfl)).2.2.2.2.2.1), ((six_cells (hz.get 1 rfl)).1), ((six_cells (hz.get 1 rfl)).2.1), ((six_cells (hz.get 1 rfl)).2.2.1), ((six_cells (hz.get 1 rfl)).2.2.2.1), ((six_cells (hz.get 1 rfl)).2.2.2.2.1), ((six_cells (hz.get 1 rfl)).2.2.2.2.2.1), ((sev_cells (hz.get 2 rfl)).1), ((sev_cells (hz.get 2 rfl)).2.1), ((sev_cells (hz.get 2 rfl)).2.2.1), ((sev_cells (hz.get 2 rfl)).2.2.2.1), ((sev_cells (hz.get 2 rfl)).2.2.2.2.1), ((sev_cells (hz.get 2 rfl)).2.2.2.2.2.1), ((sev_cells (hz.get 2 rfl)).2.2.2.2.2.2.1), ((sev_cells (hz.get 3 rfl)).1), ((sev_cells (hz.get 3 rfl)).2.1), ((sev_cells (hz.get 3 rfl)).2.2.1), ((sev_cells (hz.get 3 rfl)).2.2.2.1), ((sev_cells (hz.get 3 rfl)).2.2.2.2.1), ((sev_cells (hz.get 3 rfl)).2.2.2.2.2.1), ((sev_cells (hz.get 3 rfl)).2.2.2.2.2.2.1), hz⟩ (fun hHeld => ?_)
      clear hK K
      refine norm_ (a' := ?_) ?_ ?_
      rotate_left
      · show Act.put _ (some 45) _ = _
        simp only [Act.put, List.setIfInBounds_toArray, List.set_cons_zero, List.set_cons_succ, i64_w, i32_w]
        rfl
      refine pure_ (i := 9) (N := some 46) (v := ?_) (a' := ?_) #[true, true, true, true, true, true, true, true, true, true, false, false, false, false, false, false, false, false, false, false, false, false, false, false, false, false, false] rfl rfl (by kernel_rfl) (fun _ _ _ h => h) (Or.inl ⟨by rfl, ?_⟩) ?_ ?_
      rotate_left
      · intro w'
        go_simp
        with_reducible rfl
      rotate_left
      · simp only [Act.put, List.setIfInBounds_toArray, List.set_cons_zero, List.set_cons_succ, i64_w, i32_w]
        rfl
      refine pure_ (i := 10) (N := some 47) (v := undef) (a' := ?_) #[true, true, true, true, true, true, true, true, true, true, true, false, false, false, false, false, false, false, false, false, false, false, false, false, false, false, false] rfl rfl (by kernel_rfl) (fun _ _ _ h => h) (Or.inr ⟨by rfl, rfl⟩) ?_ ?_
      rotate_left
      · simp only [Act.put, List.setIfInBounds_toArray, List.set_cons_zero, List.set_cons_succ, i64_w, i32_w]
        rfl
      refine pure_ (i := 11) (N := some 48) (v := undef) (a' := ?_) #[true, true, true, true, true, true, true, true, true, true, true, true, false, false, false, false, false, false, false, false, false, false, false, false, false, false, false] rfl rfl (by kernel_rfl) (fun _ _ _ h => h) (Or.inr ⟨by rfl, rfl⟩) ?_ ?_
      rotate_left
      · simp only [Act.put, List.setIfInBounds_toArray, List.set_cons_zero, List.set_cons_succ, i64_w, i32_w]
        rfl
      refine pure_ (i := 12) (N := some 49) (v := ?_) (a' := ?_) #[true, true, true, true, true, true, true, true, true, true, true, true, true, false, false, false, false, false, false, false, false, false, false, false, false, false, false] rfl rfl (by kernel_rfl) (fun _ _ _ h => h) (Or.inl ⟨by rfl, ?_⟩) ?_ ?_
      rotate_left
      · intro w'
        go_simp
        with_reducible rfl
      rotate_left
      · simp only [Act.put, List.setIfInBounds_toArray, List.set_cons_zero, List.set_cons_succ, i64_w, i32_w]
        rfl
      refine pure_ (i := 13) (N := some 50) (v := ?_) (a' := ?_) #[true, true, true, true, true, true, true, true, true, true, true, true, true, true, false, false, false, false, false, false, false, false, false, false, false, false, false] rfl rfl (by kernel_rfl) (fun _ _ _ h => h) (Or.inl ⟨by rfl, ?_⟩) ?_ ?_
      rotate_left
      · intro w'
        go_simp
        with_reducible rfl
      rotate_left
      · simp only [Act.put, List.setIfInBounds_toArray, List.set_cons_zero, List.set_cons_succ, i64_w, i32_w]
        rfl
      refine pure_ (i := 14) (N := some 51) (v := ?_) (a' := ?_) #[true, true, true, true, true, true, true, true, true, true, true, true, true, true, true, false, false, false, false, false, false, false, false, false, false, false, false] rfl rfl (by kernel_rfl) (fun _ _ _ h => h) (Or.inl ⟨by rfl, ?_⟩) ?_ ?_
      rotate_left
      · intro w'
        go_simp
        with_reducible rfl
      rotate_left
      · simp only [Act.put, List.setIfInBounds_toArray, List.set_cons_zero, List.set_cons_succ, i64_w, i32_w]
        rfl
      refine take_ (i := 15) (N := some 52) (v := ?_) (a' := ?_) #[true, true, true, true, true, true, true, true, true, true, true, true, true, true, true, true, false, false, false, false, false, false, false, false, false, false, false] rfl rfl (by kernel_rfl) (fun _ _ _ h => h) (Or.inl ⟨by rfl, ?_⟩) hHeld ?_ ?_
      rotate_left
      · rintro w' ⟨s0, s1, s2, s3, s4, s5, s6, s7, s8, s9, s10, s11, s12, s13, s14, s15, s16, s17, s18, s19, s20, s21, s22, s23, s24, s25, s26⟩
        go_simp
        with_reducible rfl
      rotate_left
      · simp only [Act.put, List.setIfInBounds_toArray, List.set_cons_zero, List.set_cons_succ, i64_w, i32_w]
        rfl
      refine take_ (i := 21) (N := some 58) (v := ?_) (a' := ?_) #[true, true, true, true, true, true, true, true, true, true, true, true, true, true, true, true, false, false, false, false, false, true, false, false, false, false, false] rfl rfl (by kernel_rfl) (fun _ _ _ h => h) (Or.inl ⟨by rfl, ?_⟩) hHeld ?_ ?_
      rotate_left
      · rintro w' ⟨s0, s1, s2, s3, s4, s5, s6, s7, s8, s9, s10, s11, s12, s13, s14, s15, s16, s17, s18, s19, s20, s21, s22, s23, s24, s25, s26⟩
        go_simp
        with_reducible rfl
      rotate_left
      · simp only [Act.put, List.setIfInBounds_toArray, List.set_cons_zero, List.set_cons_succ, i64_w, i32_w]
        rfl
      refine take_ (i := 22) (N := some 59) (v := ?_) (a' := ?_) #[true, true, true, true, true, true, true, true, true, true, true, true, true, true, true, true, false, false, false, false, false, true, true, false, false, false, false] rfl rfl (by kernel_rfl) (fun _ _ _ h => h) (Or.inl ⟨by rfl, ?_⟩) hHeld ?_ ?_
      rotate_left
      · rintro w' ⟨s0, s1, s2, s3, s4, s5, s6, s7, s8, s9, s10, s11, s12, s13, s14, s15, s16, s17, s18, s19, s20, s21, s22, s23, s24, s25, s26⟩
        go_simp
        with_reducible rfl
      rotate_left
      · simp only [Act.put, List.setIfInBounds_toArray, List.set_cons_zero, List.set_cons_succ, i64_w, i32_w]
        rfl
      refine one_ (i := 16) (N := some 53) #[true, true, true, true, true, true, true, true, true, true, true, true, true, true, true, true, true, false, false, false, false, true, true, false, false, false, false] rfl rfl (by kernel_rfl) (by decide) (fun K hK => ?_)
      refine goes_ Tryz.func25 (by kernel_rfl) rfl #[.agg #[.int .i64 (kb false), .int .i64 0, .string ⟨#[]⟩, .slice none 0 0, .slice none 0 0, .slice none 0 0, .int .i64 0]] (by rfl) rfl rfl (by simp only [List.map_toArray, List.map_cons, List.map_nil]; rfl) ?_
      with_reducible refine ((HY1.out _)).mono ?_
      rintro e w3 ⟨rfl, hb⟩
      refine ⟨_, rfl, ?_⟩
      have hz := SPL.below (hHeld.2.2.2.2.2.2.2.2.2.2.2.2.2.2.2.2.2.2.2.2.2.2.2.2.2.2) hb
      refine hK.out _ _ ⟨((six_cells (hz.get 0 rfl)).1), ((six_cells (hz.get 0 rfl)).2.1), ((six_cells (hz.get 0 rfl)).2.2.1), ((six_cells (hz.get 0 rfl)).2.2.2.1), ((six_cells (hz.get 0 rfl)).2.2.2.2.1), ((six_cells (hz.get 0 rfl)).2.2.2.2.2.1), ((six_cells (hz.get 1 rfl)).1), ((six_cells (hz.get 1 rfl)).2.1), ((six_cells (hz.get 1 rfl)).2.2.1), ((six_cells (hz.get 1 rfl)).2.2.2.1), ((six_cells (hz.get 1 rfl)).2.2.2.2.1), ((six_cells (hz.get 1 rfl)).2.2.2.2.2.1), ((sev_cells (hz.get 2 rfl)).1), ((sev_cells (hz.get 2 rfl)).2.1), ((sev_cells (hz.get 2 rfl)).2.2.1), ((sev_cells (hz.get 2 rfl)).2.2.2.1), ((sev_cells (hz.get 2 rfl)).2.2.2.2.1), ((sev_cells (hz.get 2 rfl)).2.2.2.2.2.1), ((sev_cells (hz.get 2 rfl)).2.2.2.2.2.2.1), ((sev_cells (hz.get 3 rfl)).1), ((sev_cells (hz.get 3 rfl)).2.1), ((sev_cells (hz.get 3 rfl)).2.2.1), ((sev_cells (hz.get 3 rfl)).2.2.2.1), ((sev_cells (hz.get 3 rfl)).2.2.2.2.1), ((sev_cells (hz.get 3 rfl)).2.2.2.2.2.1), ((sev_cells (hz.get 3 rfl)).2.2.2.2.2.2.1), hz⟩ (fun hHeld => ?_)
      clear hK K
      refine norm_ (a' := ?_) ?_ ?_
      rotate_left
      · show Act.put _ (some 53) _ = _
        simp only [Act.put, List.setIfInBounds_toArray, List.set_cons_zero, List.set_cons_succ, i64_w, i32_w]
        rfl
      refine pure_ (i := 17) (N := some 54) (v := ?_) (a' := ?_) #[true, true, true, true, true, true, true, true, true, true, true, true, true, true, true, true, true, true, false, false, false, true, true, false, false, false, false] rfl rfl (by kernel_rfl) (fun _ _ _ h => h) (Or.inl ⟨by rfl, ?_⟩) ?_ ?_
      rotate_left
      · intro w'
        go_simp
        with_reducible rfl
      rotate_left
      · simp only [Act.put, List.setIfInBounds_toArray, List.set_cons_zero, List.set_cons_succ, i64_w, i32_w]
        rfl
      refine pure_ (i := 18) (N := some 55) (v := undef) (a' := ?_) #[true, true, true, true, true, true, true, true, true, true, true, true, true, true, true, true, true, true, true, false, false, true, true, false, false, false, false] rfl rfl (by kernel_rfl) (fun _ _ _ h => h) (Or.inr ⟨by rfl, rfl⟩) ?_ ?_
      rotate_left
      · simp only [Act.put, List.setIfInBounds_toArray, List.set_cons_zero, List.set_cons_succ, i64_w, i32_w]
        rfl
      refine pure_ (i := 19) (N := some 56) (v := undef) (a' := ?_) #[true, true, true, true, true, true, true, true, true, true, true, true, true, true, true, true, true, true, true, true, false, true, true, false, false, false, false] rfl rfl (by kernel_rfl) (fun _ _ _ h => h) (Or.inr ⟨by rfl, rfl⟩) ?_ ?_
      rotate_left
      · simp only [Act.put, List.setIfInBounds_toArray, List.set_cons_zero, List.set_cons_succ, i64_w, i32_w]
        rfl
      refine pure_ (i := 20) (N := some 57) (v := ?_) (a' := ?_) #[true, true, true, true, true, true, true, true, true, true, true, true, true, true, true, true, true, true, true, true, true, true, true, false, false, false, false] rfl rfl (by kernel_rfl) (fun _ _ _ h => h) (Or.inl ⟨by rfl, ?_⟩) ?_ ?_
      rotate_left
      · intro w'
        go_simp
        with_reducible rfl
      rotate_left
      · simp only [Act.put, List.setIfInBounds_toArray, List.set_cons_zero, List.set_cons_succ, i64_w, i32_w]
        rfl
      refine one_ (i := 23) (N := some 60) #[true, true, true, true, true, true, true, true, true, true, true, true, true, true, true, true, true, true, true, true, true, true, true, true, false, false, false] rfl rfl (by kernel_rfl) (by decide) (fun K hK => ?_)
      refine goes_ Tryz.func27 (by kernel_rfl) rfl #[.agg #[.int .i64 Kb, .int .i64 Ha, .string sa, .slice A3a n3a c3a, .slice A4a n4a c4a, .slice A5a n5a c5a], .agg #[.int .i64 Kb, .int .i64 Hb, .string sb, .slice A3b n3b c3b, .slice A4b n4b c4b, .slice A5b n5b c5b]] (by rfl) rfl rfl (by simp only [List.map_toArray, List.map_cons, List.map_nil]; rfl) ?_
      with_reducible refine ((HSM.out _)).mono ?_
      rintro e w3 ⟨rfl, hb⟩
      refine ⟨_, rfl, ?_⟩
      have hz := SPL.below (hHeld.2.2.2.2.2.2.2.2.2.2.2.2.2.2.2.2.2.2.2.2.2.2.2.2.2.2) hb
      refine hK.out _ _ ⟨((six_cells (hz.get 0 rfl)).1), ((six_cells (hz.get 0 rfl)).2.1), ((six_cells (hz.get 0 rfl)).2.2.1), ((six_cells (hz.get 0 rfl)).2.2.2.1), ((six_cells (hz.get 0 rfl)).2.2.2.2.1), ((six_cells (hz.get 0 rfl)).2.2.2.2.2.1), ((six_cells (hz.get 1 rfl)).1), ((six_cells (hz.get 1 rfl)).2.1), ((six_cells (hz.get 1 rfl)).2.2.1), ((six_cells (hz.get 1 rfl)).2.2.2.1), ((six_cells (hz.get 1 rfl)).2.2.2.2.1), ((six_cells (hz.get 1 rfl)).2.2.2.2.2.1), ((sev_cells (hz.get 2 rfl)).1), ((sev_cells (hz.get 2 rfl)).2.1), ((sev_cells (hz.get 2 rfl)).2.2.1), ((sev_cells (hz.get 2 rfl)).2.2.2.1), ((sev_cells (hz.get 2 rfl)).2.2.2.2.1), ((sev_cells (hz.get 2 rfl)).2.2.2.2.2.1), ((sev_cells (hz.get 2 rfl)).2.2.2.2.2.2.1), ((sev_cells (hz.get 3 rfl)).1), ((sev_cells (hz.get 3 rfl)).2.1), ((sev_cells (hz.get 3 rfl)).2.2.1), ((sev_cells (hz.get 3 rfl)).2.2.2.1), ((sev_cells (hz.get 3 rfl)).2.2.2.2.1), ((sev_cells (hz.get 3 rfl)).2.2.2.2.2.1), ((sev_cells (hz.get 3 rfl)).2.2.2.2.2.2.1), hz⟩ (fun hHeld => ?_)
      clear hK K
      refine norm_ (a' := ?_) ?_ ?_
      rotate_left
      · show Act.put _ (some 60) _ = _
        simp only [Act.put, List.setIfInBounds_toArray, List.set_cons_zero, List.set_cons_succ, i64_w, i32_w]
        rfl
      refine pure_ (i := 24) (N := some 61) (v := ?_) (a' := ?_) #[true, true, true, true, true, true, true, true, true, true, true, true, true, true, true, true, true, true, true, true, true, true, true, true, true, false, false] rfl rfl (by kernel_rfl) (fun _ _ _ h => h) (Or.inl ⟨by rfl, ?_⟩) ?_ ?_
      rotate_left
      · intro w'
        go_simp
        with_reducible rfl
      rotate_left
      · simp only [Act.put, List.setIfInBounds_toArray, List.set_cons_zero, List.set_cons_succ, i64_w, i32_w]
        rfl
      refine pure_ (i := 25) (N := some 62) (v := ?_) (a' := ?_) #[true, true, true, true, true, true, true, true, true, true, true, true, true, true, true, true, true, true, true, true, true, true, true, true, true, true, false] rfl rfl (by kernel_rfl) (fun _ _ _ h => h) (Or.inl ⟨by rfl, ?_⟩) ?_ ?_
      rotate_left
      · intro w'
        go_simp
        with_reducible rfl
      rotate_left
      · simp only [Act.put, List.setIfInBounds_toArray, List.set_cons_zero, List.set_cons_succ, i64_w, i32_w]
        rfl
      refine pure_ (i := 26) (N := some 4) (v := ?_) (a' := ?_) #[true, true, true, true, true, true, true, true, true, true, true, true, true, true, true, true, true, true, true, true, true, true, true, true, true, true, true] rfl rfl (by kernel_rfl) (fun _ _ _ h => h) (Or.inl ⟨by rfl, ?_⟩) ?_ ?_
      rotate_left
      · intro w'
        go_simp
        with_reducible rfl
      rotate_left
      · simp only [Act.put, List.setIfInBounds_toArray, List.set_cons_zero, List.set_cons_succ, i64_w, i32_w]
        rfl
      refine done_ (by kernel_rfl) ?_
      go_wp2_with fail
      go_ret
      exact ⟨rfl, hz.1⟩
    | false =>
      have HY1 := Lib.hid (yes_bool false)
      have HN1 := Lib.hid (no_bool false)
      have HY2 := Lib.hid (yes_bool false)
      have HN2 := Lib.hid (no_bool false)
      simp only [rv, r0, Bool.not_true, Bool.not_false] at HY1 HN1 HY2 HN2
      have HSM := HS
      simp only [Bool.and_self, Bool.and_true, Bool.true_and, Bool.and_false, Bool.false_and] at HSM
      clear HS
      go_wp2_with fail
      refine start_ (n := 27) (S := fun w' => w'.cell? ⟨A, 0, none⟩ = some (.int .i64 Kb) ∧ w'.cell? ⟨A, 1, none⟩ = some (.int .i64 Ha) ∧ w'.cell? ⟨A, 2, none⟩ = some (.string sa) ∧ w'.cell? ⟨A, 3, none⟩ = some (.slice A3a n3a c3a) ∧ w'.cell? ⟨A, 4, none⟩ = some (.slice A4a n4a c4a) ∧ w'.cell? ⟨A, 5, none⟩ = some (.slice A5a n5a c5a) ∧ w'.cell? ⟨B, 0, none⟩ = some (.int .i64 Kb) ∧ w'.cell? ⟨B, 1, none⟩ = some (.int .i64 Hb) ∧ w'.cell? ⟨B, 2, none⟩ = some (.string sb) ∧ w'.cell? ⟨B, 3, none⟩ = some (.slice A3b n3b c3b) ∧ w'.cell? ⟨B, 4, none⟩ = some (.slice A4b n4b c4b) ∧ w'.cell? ⟨B, 5, none⟩ = some (.slice A5b n5b c5b) ∧ w'.cell? ⟨R, 0, none⟩ = some (.int .i64 (kb false)) ∧ w'.cell? ⟨R, 1, none⟩ = some (.int .i64 0) ∧ w'.cell? ⟨R, 2, none⟩ = some (.string ⟨#[]⟩) ∧ w'.cell? ⟨R, 3, none⟩ = some (.slice none 0 0) ∧ w'.cell? ⟨R, 4, none⟩ = some (.slice none 0 0) ∧ w'.cell? ⟨R, 5, none⟩ = some (.slice none 0 0) ∧ w'.cell? ⟨R, 6, none⟩ = some (.int .i64 0) ∧ w'.cell? ⟨T, 0, none⟩ = some (.int .i64 (kb false)) ∧ w'.cell? ⟨T, 1, none⟩ = some (.int .i64 0) ∧ w'.cell? ⟨T, 2, none⟩ = some (.string ⟨#[]⟩) ∧ w'.cell? ⟨T, 3, none⟩ = some (.slice none 0 0) ∧ w'.cell? ⟨T, 4, none⟩ = some (.slice none 0 0) ∧ w'.cell? ⟨T, 5, none⟩ = some (.slice none 0 0) ∧ w'.cell? ⟨T, 6, none⟩ = some (.int .i64 0) ∧ SPL w [(A, #[.int .i64 Kb, .int .i64 Ha, .string sa, .slice A3a n3a c3a, .slice A4a n4a c4a, .slice A5a n5a c5a], 26), (B, #[.int .i64 Kb, .int .i64 Hb, .string sb, .slice A3b n3b c3b, .slice A4b n4b c4b, .slice A5b n5b c5b], 26), (R, #[.int .i64 (kb false), .int .i64 0, .string ⟨#[]⟩, .slice none 0 0, .slice none 0 0, .slice none 0 0, .int .i64 0], 30), (T, #[.int .i64 (kb false), .int .i64 0, .string ⟨#[]⟩, .slice none 0 0, .slice none 0 0, .slice none 0 0, .int .i64 0], 30)] w') (ds := []) #[false, false, false, false, false, false, false, false, false, false, false, false, false, false, false, false, false, false, false, false, false, false, false, false, false, false, false] (by kernel_rfl) rfl rfl ⟨((six_cells ((SPL.drew HZ.out).get 0 rfl)).1), ((six_cells ((SPL.drew HZ.out).get 0 rfl)).2.1), ((six_cells ((SPL.drew HZ.out).get 0 rfl)).2.2.1), ((six_cells ((SPL.drew HZ.out).get 0 rfl)).2.2.2.1), ((six_cells ((SPL.drew HZ.out).get 0 rfl)).2.2.2.2.1), ((six_cells ((SPL.drew HZ.out).get 0 rfl)).2.2.2.2.2.1), ((six_cells ((SPL.drew HZ.out).get 1 rfl)).1), ((six_cells ((SPL.drew HZ.out).get 1 rfl)).2.1), ((six_cells ((SPL.drew HZ.out).get 1 rfl)).2.2.1), ((six_cells ((SPL.drew HZ.out).get 1 rfl)).2.2.2.1), ((six_cells ((SPL.drew HZ.out).get 1 rfl)).2.2.2.2.1), ((six_cells ((SPL.drew HZ.out).get 1 rfl)).2.2.2.2.2.1), ((sev_cells ((SPL.drew HZ.out).get 2 rfl)).1), ((sev_cells ((SPL.drew HZ.out).get 2 rfl)).2.1), ((sev_cells ((SPL.drew HZ.out).get 2 rfl)).2.2.1), ((sev_cells ((SPL.drew HZ.out).get 2 rfl)).2.2.2.1), ((sev_cells ((SPL.drew HZ.out).get 2 rfl)).2.2.2.2.1), ((sev_cells ((SPL.drew HZ.out).get 2 rfl)).2.2.2.2.2.1), ((sev_cells ((SPL.drew HZ.out).get 2 rfl)).2.2.2.2.2.2.1), ((sev_cells ((SPL.drew HZ.out).get 3 rfl)).1), ((sev_cells ((SPL.drew HZ.out).get 3 rfl)).2.1), ((sev_cells ((SPL.drew HZ.out).get 3 rfl)).2.2.1), ((sev_cells ((SPL.drew HZ.out).get 3 rfl)).2.2.2.1), ((sev_cells ((SPL.drew HZ.out).get 3 rfl)).2.2.2.2.1), ((sev_cells ((SPL.drew HZ.out).get 3 rfl)).2.2.2.2.2.1), ((sev_cells ((SPL.drew HZ.out).get 3 rfl)).2.2.2.2.2.2.1), (SPL.drew HZ.out)⟩ (fun hHeld => ?_)
      refine take_ (i := 0) (N := some 37) (v := ?_) (a' := ?_) #[true, false, false, false, false, false, false, false, false, false, false, false, false, false, false, false, false, false, false, false, false, false, false, false, false, false, false] rfl rfl (by kernel_rfl) (fun _ _ _ h => h) (Or.inl ⟨by rfl, ?_⟩) hHeld ?_ ?_
      rotate_left
      · rintro w' ⟨s0, s1, s2, s3, s4, s5, s6, s7, s8, s9, s10, s11, s12, s13, s14, s15, s16, s17, s18, s19, s20, s21, s22, s23, s24, s25, s26⟩
        go_simp
        with_reducible rfl
      rotate_left
      · simp only [Act.put, List.setIfInBounds_toArray, List.set_cons_zero, List.set_cons_succ, i64_w, i32_w]
        rfl
      refine one_ (i := 1) (N := some 38) #[true, true, false, false, false, false, false, false, false, false, false, false, false, false, false, false, false, false, false, false, false, false, false, false, false, false, false] rfl rfl (by kernel_rfl) (by decide) (fun K hK => ?_)
      refine goes_ Tryz.func25 (by kernel_rfl) rfl #[.agg #[.int .i64 (kb false), .int .i64 0, .string ⟨#[]⟩, .slice none 0 0, .slice none 0 0, .slice none 0 0, .int .i64 0]] (by rfl) rfl rfl (by simp only [List.map_toArray, List.map_cons, List.map_nil]; rfl) ?_
      with_reducible refine ((HY1.out _)).mono ?_
      rintro e w3 ⟨rfl, hb⟩
      refine ⟨_, rfl, ?_⟩
      have hz := SPL.below (hHeld.2.2.2.2.2.2.2.2.2.2.2.2.2.2.2.2.2.2.2.2.2.2.2.2.2.2) hb
      refine hK.out _ _ ⟨((six_cells (hz.get 0 rfl)).1), ((six_cells (hz.get 0 rfl)).2.1), ((six_cells (hz.get 0 rfl)).2.2.1), ((six_cells (hz.get 0 rfl)).2.2.2.1), ((six_cells (hz.get 0 rfl)).2.2.2.2.1), ((six_cells (hz.get 0 rfl)).2.2.2.2.2.1), ((six_cells (hz.get 1 rfl)).1), ((six_cells (hz.get 1 rfl)).2.1), ((six_cells (hz.get 1 rfl)).2.2.1), ((six_cells (hz.get 1 rfl)).2.2.2.1), ((six_cells (hz.get 1 rfl)).2.2.2.2.1), ((six_cells (hz.get 1 rfl)).2.2.2.2.2.1), ((sev_cells (hz.get 2 rfl)).1), ((sev_cells (hz.get 2 rfl)).2.1), ((sev_cells (hz.get 2 rfl)).2.2.1), ((sev_cells (hz.get 2 rfl)).2.2.2.1), ((sev_cells (hz.get 2 rfl)).2.2.2.2.1), ((sev_cells (hz.get 2 rfl)).2.2.2.2.2.1), ((sev_cells (hz.get 2 rfl)).2.2.2.2.2.2.1), ((sev_cells (hz.get 3 rfl)).1), ((sev_cells (hz.get 3 rfl)).2.1), ((sev_cells (hz.get 3 rfl)).2.2.1), ((sev_cells (hz.get 3 rfl)).2.2.2.1), ((sev_cells (hz.get 3 rfl)).2.2.2.2.1), ((sev_cells (hz.get 3 rfl)).2.2.2.2.2.1), ((sev_cells (hz.get 3 rfl)).2.2.2.2.2.2.1), hz⟩ (fun hHeld => ?_)
      clear hK K
      refine norm_ (a' := ?_) ?_ ?_
      rotate_left
      · show Act.put _ (some 38) _ = _
        simp only [Act.put, List.setIfInBounds_toArray, List.set_cons_zero, List.set_cons_succ, i64_w, i32_w]
        rfl
      refine pure_ (i := 2) (N := some 39) (v := ?_) (a' := ?_) #[true, true, true, false, false, false, false, false, false, false, false, false, false, false, false, false, false, false, false, false, false, false, false, false, false, false, false] rfl rfl (by kernel_rfl) (fun _ _ _ h => h) (Or.inl ⟨by rfl, ?_⟩) ?_ ?_
      rotate_left
      · intro w'
        go_simp
        with_reducible rfl
      rotate_left
      · simp only [Act.put, List.setIfInBounds_toArray, List.set_cons_zero, List.set_cons_succ, i64_w, i32_w]
        rfl
      refine take_ (i := 3) (N := some 40) (v := ?_) (a' := ?_) #[true, true, true, true, false, false, false, false, false, false, false, false, false, false, false, false, false, false, false, false, false, false, false, false, false, false, false] rfl rfl (by kernel_rfl) (fun _ _ _ h => h) (Or.inl ⟨by rfl, ?_⟩) hHeld ?_ ?_
      rotate_left
      · rintro w' ⟨s0, s1, s2, s3, s4, s5, s6, s7, s8, s9, s10, s11, s12, s13, s14, s15, s16, s17, s18, s19, s20, s21, s22, s23, s24, s25, s26⟩
        go_simp
        with_reducible rfl
      rotate_left
      · simp only [Act.put, List.setIfInBounds_toArray, List.set_cons_zero, List.set_cons_succ, i64_w, i32_w]
        rfl
      refine one_ (i := 4) (N := some 41) #[true, true, true, true, true, false, false, false, false, false, false, false, false, false, false, false, false, false, false, false, false, false, false, false, false, false, false] rfl rfl (by kernel_rfl) (by decide) (fun K hK => ?_)
      refine goes_ Tryz.func26 (by kernel_rfl) rfl #[.agg #[.int .i64 (kb false), .int .i64 0, .string ⟨#[]⟩, .slice none 0 0, .slice none 0 0, .slice none 0 0, .int .i64 0]] (by rfl) rfl rfl (by simp only [List.map_toArray, List.map_cons, List.map_nil]; rfl) ?_
      with_reducible refine ((HN1.out _)).mono ?_
      rintro e w3 ⟨rfl, hb⟩
      refine ⟨_, rfl, ?_⟩
      have hz := SPL.below (hHeld.2.2.2.2.2.2.2.2.2.2.2.2.2.2.2.2.2.2.2.2.2.2.2.2.2.2) hb
      refine hK.out _ _ ⟨((six_cells (hz.get 0 rfl)).1), ((six_cells (hz.get 0 rfl)).2.1), ((six_cells (hz.get 0 rfl)).2.2.1), ((six_cells (hz.get 0 rfl)).2.2.2.1), ((six_cells (hz.get 0 rfl)).2.2.2.2.1), ((six_cells (hz.get 0 rfl)).2.2.2.2.2.1), ((six_cells (hz.get 1 rfl)).1), ((six_cells (hz.get 1 rfl)).2.1), ((six_cells (hz.get 1 rfl)).2.2.1), ((six_cells (hz.get 1 rfl)).2.2.2.1), ((six_cells (hz.get 1 rfl)).2.2.2.2.1), ((six_cells (hz.get 1 rfl)).2.2.2.2.2.1), ((sev_cells (hz.get 2 rfl)).1), ((sev_cells (hz.get 2 rfl)).2.1), ((sev_cells (hz.get 2 rfl)).2.2.1), ((sev_cells (hz.get 2 rfl)).2.2.2.1), ((sev_cells (hz.get 2 rfl)).2.2.2.2.1), ((sev_cells (hz.get 2 rfl)).2.2.2.2.2.1), ((sev_cells (hz.get 2 rfl)).2.2.2.2.2.2.1), ((sev_cells (hz.get 3 rfl)).1), ((sev_cells (hz.get 3 rfl)).2.1), ((sev_cells (hz.get 3 rfl)).2.2.1), ((sev_cells (hz.get 3 rfl)).2.2.2.1), ((sev_cells (hz.get 3 rfl)).2.2.2.2.1), ((sev_cells (hz.get 3 rfl)).2.2.2.2.2.1), ((sev_cells (hz.get 3 rfl)).2.2.2.2.2.2.1), hz⟩ (fun hHeld => ?_)
      clear hK K
      refine norm_ (a' := ?_) ?_ ?_
      rotate_left
      · show Act.put _ (some 41) _ = _
        simp only [Act.put, List.setIfInBounds_toArray, List.set_cons_zero, List.set_cons_succ, i64_w, i32_w]
        rfl
      refine pure_ (i := 5) (N := some 42) (v := ?_) (a' := ?_) #[true, true, true, true, true, true, false, false, false, false, false, false, false, false, false, false, false, false, false, false, false, false, false, false, false, false, false] rfl rfl (by kernel_rfl) (fun _ _ _ h => h) (Or.inl ⟨by rfl, ?_⟩) ?_ ?_
      rotate_left
      · intro w'
        go_simp
        with_reducible rfl
      rotate_left
      · simp only [Act.put, List.setIfInBounds_toArray, List.set_cons_zero, List.set_cons_succ, i64_w, i32_w]
        rfl
      refine pure_ (i := 6) (N := some 43) (v := ?_) (a' := ?_) #[true, true, true, true, true, true, true, false, false, false, false, false, false, false, false, false, false, false, false, false, false, false, false, false, false, false, false] rfl rfl (by kernel_rfl) (fun _ _ _ h => h) (Or.inl ⟨by rfl, ?_⟩) ?_ ?_
      rotate_left
      · intro w'
        go_simp
        with_reducible rfl
      rotate_left
      · simp only [Act.put, List.setIfInBounds_toArray, List.set_cons_zero, List.set_cons_succ, i64_w, i32_w]
        rfl
      refine take_ (i := 7) (N := some 44) (v := ?_) (a' := ?_) #[true, true, true, true, true, true, true, true, false, false, false, false, false, false, false, false, false, false, false, false, false, false, false, false, false, false, false] rfl rfl (by kernel_rfl) (fun _ _ _ h => h) (Or.inl ⟨by rfl, ?_⟩) hHeld ?_ ?_
      rotate_left
      · rintro w' ⟨s0, s1, s2, s3, s4, s5, s6, s7, s8, s9, s10, s11, s12, s13, s14, s15, s16, s17, s18, s19, s20, s21, s22, s23, s24, s25, s26⟩
        go_simp
        with_reducible rfl
      rotate_left
      · simp only [Act.put, List.setIfInBounds_toArray, List.set_cons_zero, List.set_cons_succ, i64_w, i32_w]
        rfl
      refine one_ (i := 8) (N := some 45) #[true, true, true, true, true, true, true, true, true, false, false, false, false, false, false, false, false, false, false, false, false, false, false, false, false, false, false] rfl rfl (by kernel_rfl) (by decide) (fun K hK => ?_)
      refine goes_ Tryz.func25 (by kernel_rfl) rfl #[.agg #[.int .i64 (kb false), .int .i64 0, .string ⟨#[]⟩, .slice none 0 0, .slice none 0 0, .slice none 0 0, .int .i64 0]] (by rfl) rfl rfl (by simp only [List.map_toArray, List.map_cons, List.map_nil]; rfl) ?_
      with_reducible refine ((HY2.out _)).mono ?_
      rintro e w3 ⟨rfl, hb⟩
      refine ⟨_, rfl, ?_⟩
      have hz := SPL.below (hHeld.2.2.2.2.2.2.2.2.2.2.2.2.2.2.2.2.2.2.2.2.2.2.2.2.2.2) hb
      refine hK.out _ _ ⟨((six_cells (hz.get 0 rfl)).1), ((six_cells (hz.get 0 rfl)).2.1), ((six_cells (hz.get 0 rfl)).2.2.1), ((six_cells (hz.get 0 rfl)).2.2.2.1), ((six_cells (hz.get 0 rfl)).2.2.2.2.1), ((six_cells (hz.get 0 rfl)).2.2.2.2.2.1), ((six_cells (hz.get 1 rfl)).1), ((six_cells (hz.get 1 rfl)).2.1), ((six_cells (hz.get 1 rfl)).2.2.1), ((six_cells (hz.get 1 rfl)).2.2.2.1), ((six_cells (hz.get 1 rfl)).2.2.2.2.1), ((six_cells (hz.get 1 rfl)).2.2.2.2.2.1), ((sev_cells (hz.get 2 rfl)).1), ((sev_cells (hz.get 2 rfl)).2.1), ((sev_cells (hz.get 2 rfl)).2.2.1), ((sev_cells (hz.get 2 rfl)).2.2.2.1), ((sev_cells (hz.get 2 rfl)).2.2.2.2.1), ((sev_cells (hz.get 2 rfl)).2.2.2.2.2.1), ((sev_cells (hz.get 2 rfl)).2.2.2.2.2.2.1), ((sev_cells (hz.get 3 rfl)).1), ((sev_cells (hz.get 3 rfl)).2.1), ((sev_cells (hz.get 3 rfl)).2.2.1), ((sev_cells (hz.get 3 rfl)).2.2.2.1), ((sev_cells (hz.get 3 rfl)).2.2.2.2.1), ((sev_cells (hz.get 3 rfl)).2.2.2.2.2.1), ((sev_cells (hz.get 3 rfl)).2.2.2.2.2.2.1), hz⟩ (fun hHeld => ?_)
      clear hK K
      refine norm_ (a' := ?_) ?_ ?_
      rotate_left
      · show Act.put _ (some 45) _ = _
        simp only [Act.put, List.setIfInBounds_toArray, List.set_cons_zero, List.set_cons_succ, i64_w, i32_w]
        rfl
      refine pure_ (i := 9) (N := some 46) (v := ?_) (a' := ?_) #[true, true, true, true, true, true, true, true, true, true, false, false, false, false, false, false, false, false, false, false, false, false, false, false, false, false, false] rfl rfl (by kernel_rfl) (fun _ _ _ h => h) (Or.inl ⟨by rfl, ?_⟩) ?_ ?_
      rotate_left
      · intro w'
        go_simp
        with_reducible rfl
      rotate_left
      · simp only [Act.put, List.setIfInBounds_toArray, List.set_cons_zero, List.set_cons_succ, i64_w, i32_w]
        rfl
      refine take_ (i := 10) (N := some 47) (v := ?_) (a' := ?_) #[true, true, true, true, true, true, true, true, true, true, true, false, false, false, false, false, false, false, false, false, false, false, false, false, false, false, false] rfl rfl (by kernel_rfl) (fun _ _ _ h => h) (Or.inl ⟨by rfl, ?_⟩) hHeld ?_ ?_
      rotate_left
      · rintro w' ⟨s0, s1, s2, s3, s4, s5, s6, s7, s8, s9, s10, s11, s12, s13, s14, s15, s16, s17, s18, s19, s20, s21, s22, s23, s24, s25, s26⟩
        go_simp
        with_reducible rfl
      rotate_left
      · simp only [Act.put, List.setIfInBounds_toArray, List.set_cons_zero, List.set_cons_succ, i64_w, i32_w]
        rfl
      refine one_ (i := 11) (N := some 48) #[true, true, true, true, true, true, true, true, true, true, true, true, false, false, false, false, false, false, false, false, false, false, false, false, false, false, false] rfl rfl (by kernel_rfl) (by decide) (fun K hK => ?_)
      refine goes_ Tryz.func26 (by kernel_rfl) rfl #[.agg #[.int .i64 (kb false), .int .i64 0, .string ⟨#[]⟩, .slice none 0 0, .slice none 0 0, .slice none 0 0, .int .i64 0]] (by rfl) rfl rfl (by simp only [List.map_toArray, List.map_cons, List.map_nil]; rfl) ?_
      with_reducible refine ((HN2.out _)).mono ?_
      rintro e w3 ⟨rfl, hb⟩
      refine ⟨_, rfl, ?_⟩
      have hz := SPL.below (hHeld.2.2.2.2.2.2.2.2.2.2.2.2.2.2.2.2.2.2.2.2.2.2.2.2.2.2) hb
      refine hK.out _ _ ⟨((six_cells (hz.get 0 rfl)).1), ((six_cells (hz.get 0 rfl)).2.1), ((six_cells (hz.get 0 rfl)).2.2.1), ((six_cells (hz.get 0 rfl)).2.2.2.1), ((six_cells (hz.get 0 rfl)).2.2.2.2.1), ((six_cells (hz.get 0 rfl)).2.2.2.2.2.1), ((six_cells (hz.get 1 rfl)).1), ((six_cells (hz.get 1 rfl)).2.1), ((six_cells (hz.get 1 rfl)).2.2.1), ((six_cells (hz.get 1 rfl)).2.2.2.1), ((six_cells (hz.get 1 rfl)).2.2.2.2.1), ((six_cells (hz.get 1 rfl)).2.2.2.2.2.1), ((sev_cells (hz.get 2 rfl)).1), ((sev_cells (hz.get 2 rfl)).2.1), ((sev_cells (hz.get 2 rfl)).2.2.1), ((sev_cells (hz.get 2 rfl)).2.2.2.1), ((sev_cells (hz.get 2 rfl)).2.2.2.2.1), ((sev_cells (hz.get 2 rfl)).2.2.2.2.2.1), ((sev_cells (hz.get 2 rfl)).2.2.2.2.2.2.1), ((sev_cells (hz.get 3 rfl)).1), ((sev_cells (hz.get 3 rfl)).2.1), ((sev_cells (hz.get 3 rfl)).2.2.1), ((sev_cells (hz.get 3 rfl)).2.2.2.1), ((sev_cells (hz.get 3 rfl)).2.2.2.2.1), ((sev_cells (hz.get 3 rfl)).2.2.2.2.2.1), ((sev_cells (hz.get 3 rfl)).2.2.2.2.2.2.1), hz⟩ (fun hHeld => ?_)
      clear hK K
      refine norm_ (a' := ?_) ?_ ?_
      rotate_left
      · show Act.put _ (some 48) _ = _
        simp only [Act.put, List.setIfInBounds_toArray, List.set_cons_zero, List.set_cons_succ, i64_w, i32_w]
        rfl
      refine pure_ (i := 12) (N := some 49) (v := ?_) (a' := ?_) #[true, true, true, true, true, true, true, true, true, true, true, true, true, false, false, false, false, false, false, false, false, false, false, false, false, false, false] rfl rfl (by kernel_rfl) (fun _ _ _ h => h) (Or.inl ⟨by rfl, ?_⟩) ?_ ?_
      rotate_left
      · intro w'
        go_simp
        with_reducible rfl
      rotate_left
      · simp only [Act.put, List.setIfInBounds_toArray, List.set_cons_zero, List.set_cons_succ, i64_w, i32_w]
        rfl
      refine pure_ (i := 13) (N := some 50) (v := ?_) (a' := ?_) #[true, true, true, true, true, true, true, true, true, true, true, true, true, true, false, false, false, false, false, false, false, false, false, false, false, false, false] rfl rfl (by kernel_rfl) (fun _ _ _ h => h) (Or.inl ⟨by rfl, ?_⟩) ?_ ?_
      rotate_left
      · intro w'
        go_simp
        with_reducible rfl
      rotate_left
      · simp only [Act.put, List.setIfInBounds_toArray, List.set_cons_zero, List.set_cons_succ, i64_w, i32_w]
        rfl
      refine pure_ (i := 14) (N := some 51) (v := ?_) (a' := ?_) #[true, true, true, true, true, true, true, true, true, true, true, true, true, true, true, false, false, false, false, false, false, false, false, false, false, false, false] rfl rfl (by kernel_rfl) (fun _ _ _ h => h) (Or.inl ⟨by rfl, ?_⟩) ?_ ?_
      rotate_left
      · intro w'
        go_simp
        with_reducible rfl
      rotate_left
      · simp only [Act.put, List.setIfInBounds_toArray, List.set_cons_zero, List.set_cons_succ, i64_w, i32_w]
        rfl
      refine take_ (i := 15) (N := some 52) (v := ?_) (a' := ?_) #[true, true, true, true, true, true, true, true, true, true, true, true, true, true, true, true, false, false, false, false, false, false, false, false, false, false, false] rfl rfl (by kernel_rfl) (fun _ _ _ h => h) (Or.inl ⟨by rfl, ?_⟩) hHeld ?_ ?_
      rotate_left
      · rintro w' ⟨s0, s1, s2, s3, s4, s5, s6, s7, s8, s9, s10, s11, s12, s13, s14, s15, s16, s17, s18, s19, s20, s21, s22, s23, s24, s25, s26⟩
        go_simp
        with_reducible rfl
      rotate_left
      · simp only [Act.put, List.setIfInBounds_toArray, List.set_cons_zero, List.set_cons_succ, i64_w, i32_w]
        rfl
      refine take_ (i := 21) (N := some 58) (v := ?_) (a' := ?_) #[true, true, true, true, true, true, true, true, true, true, true, true, true, true, true, true, false, false, false, false, false, true, false, false, false, false, false] rfl rfl (by kernel_rfl) (fun _ _ _ h => h) (Or.inl ⟨by rfl, ?_⟩) hHeld ?_ ?_
      rotate_left
      · rintro w' ⟨s0, s1, s2, s3, s4, s5, s6, s7, s8, s9, s10, s11, s12, s13, s14, s15, s16, s17, s18, s19, s20, s21, s22, s23, s24, s25, s26⟩
        go_simp
        with_reducible rfl
      rotate_left
      · simp only [Act.put, List.setIfInBounds_toArray, List.set_cons_zero, List.set_cons_succ, i64_w, i32_w]
        rfl
      refine take_ (i := 22) (N := some 59) (v := ?_) (a' := ?_) #[true, true, true, true, true, true, true, true, true, true, true, true, true, true, true, true, false, false, false, false, false, true, true, false, false, false, false] rfl rfl (by kernel_rfl) (fun _ _ _ h => h) (Or.inl ⟨by rfl, ?_⟩) hHeld ?_ ?_
      rotate_left
      · rintro w' ⟨s0, s1, s2, s3, s4, s5, s6, s7, s8, s9, s10, s11, s12, s13, s14, s15, s16, s17, s18, s19, s20, s21, s22, s23, s24, s25, s26⟩
        go_simp
        with_reducible rfl
      rotate_left
      · simp only [Act.put, List.setIfInBounds_toArray, List.set_cons_zero, List.set_cons_succ, i64_w, i32_w]
        rfl
      refine one_ (i := 16) (N := some 53) #[true, true, true, true, true, true, true, true, true, true, true, true, true, true, true, true, true, false, false, false, false, true, true, false, false, false, false] rfl rfl (by kernel_rfl) (by decide) (fun K hK => ?_)
      refine goes_ Tryz.func25 (by kernel_rfl) rfl #[.agg #[.int .i64 (kb false), .int .i64 0, .string ⟨#[]⟩, .slice none 0 0, .slice none 0 0, .slice none 0 0, .int .i64 0]] (by rfl) rfl rfl (by simp only [List.map_toArray, List.map_cons, List.map_nil]; rfl) ?_
      with_reducible refine ((HY1.out _)).mono ?_
      rintro e w3 ⟨rfl, hb⟩
      refine ⟨_, rfl, ?_⟩
      have hz := SPL.below (hHeld.2.2.2.2.2.2.2.2.2.2.2.2.2.2.2.2.2.2.2.2.2.2.2.2.2.2) hb
      refine hK.out _ _ ⟨((six_cells (hz.get 0 rfl)).1), ((six_cells (hz.get 0 rfl)).2.1), ((six_cells (hz.get 0 rfl)).2.2.1), ((six_cells (hz.get 0 rfl)).2.2.2.1), ((six_cells (hz.get 0 rfl)).2.2.2.2.1), ((six_cells (hz.get 0 rfl)).2.2.2.2.2.1), ((six_cells (hz.get 1 rfl)).1), ((six_cells (hz.get 1 rfl)).2.1), ((six_cells (hz.get 1 rfl)).2.2.1), ((six_cells (hz.get 1 rfl)).2.2.2.1), ((six_cells (hz.get 1 rfl)).2.2.2.2.1), ((six_cells (hz.get 1 rfl)).2.2.2.2.2.1), ((sev_cells (hz.get 2 rfl)).1), ((sev_cells (hz.get 2 rfl)).2.1), ((sev_cells (hz.get 2 rfl)).2.2.1), ((sev_cells (hz.get 2 rfl)).2.2.2.1), ((sev_cells (hz.get 2 rfl)).2.2.2.2.1), ((sev_cells (hz.get 2 rfl)).2.2.2.2.2.1), ((sev_cells (hz.get 2 rfl)).2.2.2.2.2.2.1), ((sev_cells (hz.get 3 rfl)).1), ((sev_cells (hz.get 3 rfl)).2.1), ((sev_cells (hz.get 3 rfl)).2.2.1), ((sev_cells (hz.get 3 rfl)).2.2.2.1), ((sev_cells (hz.get 3 rfl)).2.2.2.2.1), ((sev_cells (hz.get 3 rfl)).2.2.2.2.2.1), ((sev_cells (hz.get 3 rfl)).2.2.2.2.2.2.1), hz⟩ (fun hHeld => ?_)
      clear hK K
      refine norm_ (a' := ?_) ?_ ?_
      rotate_left
      · show Act.put _ (some 53) _ = _
        simp only [Act.put, List.setIfInBounds_toArray, List.set_cons_zero, List.set_cons_succ, i64_w, i32_w]
        rfl
      refine pure_ (i := 17) (N := some 54) (v := ?_) (a' := ?_) #[true, true, true, true, true, true, true, true, true, true, true, true, true, true, true, true, true, true, false, false, false, true, true, false, false, false, false] rfl rfl (by kernel_rfl) (fun _ _ _ h => h) (Or.inl ⟨by rfl, ?_⟩) ?_ ?_
      rotate_left
      · intro w'
        go_simp
        with_reducible rfl
      rotate_left
      · simp only [Act.put, List.setIfInBounds_toArray, List.set_cons_zero, List.set_cons_succ, i64_w, i32_w]
        rfl
      refine pure_ (i := 18) (N := some 55) (v := undef) (a' := ?_) #[true, true, true, true, true, true, true, true, true, true, true, true, true, true, true, true, true, true, true, false, false, true, true, false, false, false, false] rfl rfl (by kernel_rfl) (fun _ _ _ h => h) (Or.inr ⟨by rfl, rfl⟩) ?_ ?_
      rotate_left
      · simp only [Act.put, List.setIfInBounds_toArray, List.set_cons_zero, List.set_cons_succ, i64_w, i32_w]
        rfl
      refine pure_ (i := 19) (N := some 56) (v := undef) (a' := ?_) #[true, true, true, true, true, true, true, true, true, true, true, true, true, true, true, true, true, true, true, true, false, true, true, false, false, false, false] rfl rfl (by kernel_rfl) (fun _ _ _ h => h) (Or.inr ⟨by rfl, rfl⟩) ?_ ?_
      rotate_left
      · simp only [Act.put, List.setIfInBounds_toArray, List.set_cons_zero, List.set_cons_succ, i64_w, i32_w]
        rfl
      refine pure_ (i := 20) (N := some 57) (v := ?_) (a' := ?_) #[true, true, true, true, true, true, true, true, true, true, true, true, true, true, true, true, true, true, true, true, true, true, true, false, false, false, false] rfl rfl (by kernel_rfl) (fun _ _ _ h => h) (Or.inl ⟨by rfl, ?_⟩) ?_ ?_
      rotate_left
      · intro w'
        go_simp
        with_reducible rfl
      rotate_left
      · simp only [Act.put, List.setIfInBounds_toArray, List.set_cons_zero, List.set_cons_succ, i64_w, i32_w]
        rfl
      refine one_ (i := 23) (N := some 60) #[true, true, true, true, true, true, true, true, true, true, true, true, true, true, true, true, true, true, true, true, true, true, true, true, false, false, false] rfl rfl (by kernel_rfl) (by decide) (fun K hK => ?_)
      refine goes_ Tryz.func27 (by kernel_rfl) rfl #[.agg #[.int .i64 Kb, .int .i64 Ha, .string sa, .slice A3a n3a c3a, .slice A4a n4a c4a, .slice A5a n5a c5a], .agg #[.int .i64 Kb, .int .i64 Hb, .string sb, .slice A3b n3b c3b, .slice A4b n4b c4b, .slice A5b n5b c5b]] (by rfl) rfl rfl (by simp only [List.map_toArray, List.map_cons, List.map_nil]; rfl) ?_
      with_reducible refine ((HSM.out _)).mono ?_
      rintro e w3 ⟨rfl, hb⟩
      refine ⟨_, rfl, ?_⟩
      have hz := SPL.below (hHeld.2.2.2.2.2.2.2.2.2.2.2.2.2.2.2.2.2.2.2.2.2.2.2.2.2.2) hb
      refine hK.out _ _ ⟨((six_cells (hz.get 0 rfl)).1), ((six_cells (hz.get 0 rfl)).2.1), ((six_cells (hz.get 0 rfl)).2.2.1), ((six_cells (hz.get 0 rfl)).2.2.2.1), ((six_cells (hz.get 0 rfl)).2.2.2.2.1), ((six_cells (hz.get 0 rfl)).2.2.2.2.2.1), ((six_cells (hz.get 1 rfl)).1), ((six_cells (hz.get 1 rfl)).2.1), ((six_cells (hz.get 1 rfl)).2.2.1), ((six_cells (hz.get 1 rfl)).2.2.2.1), ((six_cells (hz.get 1 rfl)).2.2.2.2.1), ((six_cells (hz.get 1 rfl)).2.2.2.2.2.1), ((sev_cells (hz.get 2 rfl)).1), ((sev_cells (hz.get 2 rfl)).2.1), ((sev_cells (hz.get 2 rfl)).2.2.1), ((sev_cells (hz.get 2 rfl)).2.2.2.1), ((sev_cells (hz.get 2 rfl)).2.2.2.2.1), ((sev_cells (hz.get 2 rfl)).2.2.2.2.2.1), ((sev_cells (hz.get 2 rfl)).2.2.2.2.2.2.1), ((sev_cells (hz.get 3 rfl)).1), ((sev_cells (hz.get 3 rfl)).2.1), ((sev_cells (hz.get 3 rfl)).2.2.1), ((sev_cells (hz.get 3 rfl)).2.2.2.1), ((sev_cells (hz.get 3 rfl)).2.2.2.2.1), ((sev_cells (hz.get 3 rfl)).2.2.2.2.2.1), ((sev_cells (hz.get 3 rfl)).2.2.2.2.2.2.1), hz⟩ (fun hHeld => ?_)
      clear hK K
      refine norm_ (a' := ?_) ?_ ?_
      rotate_left
      · show Act.put _ (some 60) _ = _
        simp only [Act.put, List.setIfInBounds_toArray, List.set_cons_zero, List.set_cons_succ, i64_w, i32_w]
        rfl
      refine pure_ (i := 24) (N := some 61) (v := ?_) (a' := ?_) #[true, true, true, true, true, true, true, true, true, true, true, true, true, true, true, true, true, true, true, true, true, true, true, true, true, false, false] rfl rfl (by kernel_rfl) (fun _ _ _ h => h) (Or.inl ⟨by rfl, ?_⟩) ?_ ?_
      rotate_left
      · intro w'
        go_simp
        with_reducible rfl
      rotate_left
      · simp only [Act.put, List.setIfInBounds_toArray, List.set_cons_zero, List.set_cons_succ, i64_w, i32_w]
        rfl
      refine pure_ (i := 25) (N := some 62) (v := ?_) (a' := ?_) #[true, true, true, true, true, true, true, true, true, true, true, true, true, true, true, true, true, true, true, true, true, true, true, true, true, true, false] rfl rfl (by kernel_rfl) (fun _ _ _ h => h) (Or.inl ⟨by rfl, ?_⟩) ?_ ?_
      rotate_left
      · intro w'
        go_simp
        with_reducible rfl
      rotate_left
      · simp only [Act.put, List.setIfInBounds_toArray, List.set_cons_zero, List.set_cons_succ, i64_w, i32_w]
        rfl
      refine pure_ (i := 26) (N := some 4) (v := ?_) (a' := ?_) #[true, true, true, true, true, true, true, true, true, true, true, true, true, true, true, true, true, true, true, true, true, true, true, true, true, true, true] rfl rfl (by kernel_rfl) (fun _ _ _ h => h) (Or.inl ⟨by rfl, ?_⟩) ?_ ?_
      rotate_left
      · intro w'
        go_simp
        with_reducible rfl
      rotate_left
      · simp only [Act.put, List.setIfInBounds_toArray, List.set_cons_zero, List.set_cons_succ, i64_w, i32_w]
        rfl
      refine done_ (by kernel_rfl) ?_
      go_wp2_with fail
      go_ret
      exact ⟨rfl, hz.1⟩
end Go.Proofs.YtdcgjfiknknjfaaGreatDoor.ValA
