import Derived.Test.YtdcgjfiknknjfaaGreatDoorLawN
set_option linter.unusedSimpArgs false
set_option linter.unusedVariables false
namespace Go.Proofs.YtdcgjfiknknjfaaGreatDoor.ValA
open Go.RowKit Go.Lib Go.Proofs.YtdcgjfiknknjfaaGreatDoorW.PrintWords Go.Proofs.YtdcgjfiknknjfaaGreatDoorW.PrintLast Go.Proofs.YtdcgjfiknknjfaaGreatDoorW.PrintMore Go.Proofs.YtdcgjfiknknjfaaGreatDoor.PzzFits1 Go.Proofs.YtdcgjfiknknjfaaGreatDoor.NumA
theorem size_alloc (w : World) (o : Obj) : (w.alloc o).heap.size = w.heap.size + 1 := World.size_alloc _ _
theorem run_val (c0 c1 c2 c3 c4 c5 c6 : Value) (W : World) : Sem.run Tryz.prog (Instr.field 30 (.agg #[c0, c1, c2, c3, c4, c5, c6]) 0) W = .ok (.agg #[c0, c1, c2, c3, c4, c5]) W := by kernel_rfl
attribute [local go_sem] run_val
theorem SPL.two (w : World) (c d : Array Value) (t u : TypeId) : SPL w [(w.heap.size, c, t), (w.heap.size + 1, d, u)] ((w.alloc (.cells c t)).alloc (.cells d u)) := by
  have h := (SPL.box w c t).more d u
  rw [size_alloc] at h
  exact h
theorem SPL.three (w : World) (c d e : Array Value) (t u v : TypeId) : SPL w [(w.heap.size, c, t), (w.heap.size + 1, d, u), (w.heap.size + 1 + 1, e, v)] (((w.alloc (.cells c t)).alloc (.cells d u)).alloc (.cells e v)) := by
  have h := (SPL.two w c d t u).more e v
  rw [size_alloc, size_alloc] at h
  exact h
set_option maxRecDepth 100000 in
set_option maxHeartbeats 20000000 in
theorem fnSubBack_any (w : World) (hE : Env w) (xa : V) (hza : Sz xa) (Ka Ha : Int) (sa : ByteArray) (A3a A4a A5a : Option Addr) (n3a c3a n4a c4a n5a c5a : Nat) (hKa : k26.K w xa [.int .i64 Ka, .int .i64 Ha, .string sa, .slice A3a n3a c3a, .slice A4a n4a c4a, .slice A5a n5a c5a]) (xb : V) (hzb : Sz xb) (Kb Hb : Int) (sb : ByteArray) (A3b A4b A5b : Option Addr) (n3b c3b n4b c4b n5b c5b : Nat) (hKb : k26.K w xb [.int .i64 Kb, .int .i64 Hb, .string sb, .slice A3b n3b c3b, .slice A4b n4b c4b, .slice A5b n5b c5b]) :
    Calls Tryz.prog 4 #[.agg #[.int .i64 Ka, .int .i64 Ha, .string sa, .slice A3a n3a c3a, .slice A4a n4a c4a, .slice A5a n5a c5a], .agg #[.int .i64 Kb, .int .i64 Hb, .string sb, .slice A3b n3b c3b, .slice A4b n4b c4b, .slice A5b n5b c5b]] w fun e w' => e = .returned (.bool true) ∧ Below w.heap.size w w' := by
  have HFa := Lib.hid (fun w1 hb => fits1_any w xa Ka Ha sa A3a A4a A5a n3a c3a n4a c4a n5a c5a hKa w1 hb)
  have HFb := Lib.hid (fun w1 hb => fits1_any w xb Kb Hb sb A3b A4b A5b n3b c3b n4b c4b n5b c5b hKb w1 hb)
  have HUa := Lib.hid (fun w1 hb => num_any w hE xa hza Ka Ha sa A3a A4a A5a n3a c3a n4a c4a n5a c5a hKa 2251799813685248 (by omega) (by omega) w1 hb)
  have HUb := Lib.hid (fun w1 hb => num_any w hE xb hzb Kb Hb sb A3b A4b A5b n3b c3b n4b c4b n5b c5b hKb 2251799813685248 (by omega) (by omega) w1 hb)
  clear hE hza hKa hzb hKb
  go_enter Tryz.func4, Tryz.ntmps4
  go_wp2_with fail
  obtain ⟨A, hA⟩ : ∃ A, A = w.heap.size := ⟨_, rfl⟩
  obtain ⟨B, hB⟩ : ∃ B, B = w.heap.size + 1 := ⟨_, rfl⟩
  obtain ⟨W0, hW0⟩ : ∃ W0, W0 = (w.alloc (.cells #[.int .i64 Ka, .int .i64 Ha, .string sa, .slice A3a n3a c3a, .slice A4a n4a c4a, .slice A5a n5a c5a] 26)).alloc (.cells #[.int .i64 Kb, .int .i64 Hb, .string sb, .slice A3b n3b c3b, .slice A4b n4b c4b, .slice A5b n5b c5b] 26) := ⟨_, rfl⟩
  have h0 : SPL w [(A, #[.int .i64 Ka, .int .i64 Ha, .string sa, .slice A3a n3a c3a, .slice A4a n4a c4a, .slice A5a n5a c5a], 26), (B, #[.int .i64 Kb, .int .i64 Hb, .string sb, .slice A3b n3b c3b, .slice A4b n4b c4b, .slice A5b n5b c5b], 26)] W0 := by rw [hA, hB, hW0]; exact SPL.two w _ _ _ _
  rw [← hW0, ← hB, ← hA]
  have H0 := Lib.hid h0
  clear h0 hW0 hA hB
  have y := six_cells (H0.out.get 0 rfl)
  go_wp2_with fail
  refine (HFa.out W0 H0.out.1).mono ?_
  rintro e w1 ⟨r, rfl, _, hb⟩
  have H1 := Lib.hid (H0.out.below hb)
  clear hb H0 y HFa
  cases r with
  | false =>
    go_wp2_with fail
    go_ret
    exact ⟨rfl, H1.out.1⟩
  | true =>
  have y := six_cells (H1.out.get 1 rfl)
  go_wp2_with fail
  refine (HFb.out w1 H1.out.1).mono ?_
  rintro e w2 ⟨r, rfl, _, hb⟩
  have H2 := Lib.hid (H1.out.below hb)
  clear hb H1 y HFb
  cases r with
  | false =>
    go_wp2_with fail
    go_ret
    exact ⟨rfl, H2.out.1⟩
  | true =>
  have y := six_cells (H2.out.get 0 rfl)
  go_wp2_with fail
  refine (HUa.out w2 H2.out.1).mono ?_
  rintro e w3 ⟨r, rfl, hr, hb⟩
  have H3 := Lib.hid (H2.out.below hb)
  clear hb H2 y HUa
  cases r with
  | false =>
    go_wp2_with fail
    go_ret
    exact ⟨rfl, H3.out.1⟩
  | true =>
  obtain ⟨_, rfl, h1, h2⟩ := hr rfl
  clear hr
  have y := six_cells (H3.out.get 1 rfl)
  go_wp2_with fail
  refine (HUb.out w3 H3.out.1).mono ?_
  rintro e w4 ⟨r, rfl, hr, hb⟩
  have H4 := Lib.hid (H3.out.below hb)
  clear hb H3 y HUb
  cases r with
  | false =>
    go_wp2_with fail
    go_ret
    exact ⟨rfl, H4.out.1⟩
  | true =>
  obtain ⟨_, rfl, h3, h4⟩ := hr rfl
  clear hr
  have HN0 := Lib.hid (fun w => spec_Num0 w)
  simp only [vl, rv, r0, eq_self_iff_true, decide_true] at HN0
  have HAD := Lib.hid (fun w => impl_add Ha Hb ⟨sa, A3a, n3a, c3a, A4a, n4a, c4a, A5a, n5a, c5a⟩ ⟨sb, A3b, n3b, c3b, A4b, n4b, c4b, A5b, n5b, c5b⟩ (by omega) (by omega) (by omega) (by omega) (by omega) (by omega) w)
  simp only [vl, rv, r0, eq_self_iff_true, decide_true] at HAD
  have HSU := Lib.hid (fun w => impl_sub (Ha + Hb) Hb r0 ⟨sb, A3b, n3b, c3b, A4b, n4b, c4b, A5b, n5b, c5b⟩ (by omega) (by omega) (by omega) (by omega) (by omega) (by omega) w)
  simp only [vl, rv, r0, eq_self_iff_true, decide_true] at HSU
  rw [Int.add_sub_cancel] at HSU
  have HG1 := Lib.hid (fun w => given_num Ha Ha r0 ⟨sa, A3a, n3a, c3a, A4a, n4a, c4a, A5a, n5a, c5a⟩ w (by omega) (by omega) (by omega) (by omega))
  simp only [vl, rv, r0, eq_self_iff_true, decide_true] at HG1
  have HSS := Lib.hid (fun w => impl_sub Ha Ha ⟨sa, A3a, n3a, c3a, A4a, n4a, c4a, A5a, n5a, c5a⟩ ⟨sa, A3a, n3a, c3a, A4a, n4a, c4a, A5a, n5a, c5a⟩ (by omega) (by omega) (by omega) (by omega) (by omega) (by omega) w)
  simp only [vl, rv, r0, eq_self_iff_true, decide_true] at HSS
  rw [Int.sub_self] at HSS
  have HG2 := Lib.hid (fun w => given_num 0 0 r0 r0 w (by omega) (by omega) (by omega) (by omega))
  simp only [vl, rv, r0, eq_self_iff_true, decide_true] at HG2
  have HZ := H4
  clear h1 h2 h3 h4 H4
  go_wp2_with fail
  refine start_ (n := 16) (S := fun w' => w'.cell? ⟨A, 0, none⟩ = some (.int .i64 3) ∧ w'.cell? ⟨A, 1, none⟩ = some (.int .i64 Ha) ∧ w'.cell? ⟨A, 2, none⟩ = some (.string sa) ∧ w'.cell? ⟨A, 3, none⟩ = some (.slice A3a n3a c3a) ∧ w'.cell? ⟨A, 4, none⟩ = some (.slice A4a n4a c4a) ∧ w'.cell? ⟨A, 5, none⟩ = some (.slice A5a n5a c5a) ∧ w'.cell? ⟨B, 0, none⟩ = some (.int .i64 3) ∧ w'.cell? ⟨B, 1, none⟩ = some (.int .i64 Hb) ∧ w'.cell? ⟨B, 2, none⟩ = some (.string sb) ∧ w'.cell? ⟨B, 3, none⟩ = some (.slice A3b n3b c3b) ∧ w'.cell? ⟨B, 4, none⟩ = some (.slice A4b n4b c4b) ∧ w'.cell? ⟨B, 5, none⟩ = some (.slice A5b n5b c5b) ∧ SPL w [(A, #[.int .i64 3, .int .i64 Ha, .string sa, .slice A3a n3a c3a, .slice A4a n4a c4a, .slice A5a n5a c5a], 26), (B, #[.int .i64 3, .int .i64 Hb, .string sb, .slice A3b n3b c3b, .slice A4b n4b c4b, .slice A5b n5b c5b], 26)] w') (ds := []) #[false, false, false, false, false, false, false, false, false, false, false, false, false, false, false, false] (by kernel_rfl) rfl rfl ⟨((six_cells ((SPL.drew HZ.out).get 0 rfl)).1), ((six_cells ((SPL.drew HZ.out).get 0 rfl)).2.1), ((six_cells ((SPL.drew HZ.out).get 0 rfl)).2.2.1), ((six_cells ((SPL.drew HZ.out).get 0 rfl)).2.2.2.1), ((six_cells ((SPL.drew HZ.out).get 0 rfl)).2.2.2.2.1), ((six_cells ((SPL.drew HZ.out).get 0 rfl)).2.2.2.2.2.1), ((six_cells ((SPL.drew HZ.out).get 1 rfl)).1), ((six_cells ((SPL.drew HZ.out).get 1 rfl)).2.1), ((six_cells ((SPL.drew HZ.out).get 1 rfl)).2.2.1), ((six_cells ((SPL.drew HZ.out).get 1 rfl)).2.2.2.1), ((six_cells ((SPL.drew HZ.out).get 1 rfl)).2.2.2.2.1), ((six_cells ((SPL.drew HZ.out).get 1 rfl)).2.2.2.2.2.1), (SPL.drew HZ.out)⟩ (fun hHeld => ?_)
  refine take_ (i := 0) (N := some 21) (v := ?_) (a' := ?_) #[true, false, false, false, false, false, false, false, false, false, false, false, false, false, false, false] rfl rfl (by kernel_rfl) (fun _ _ _ h => h) (Or.inl ⟨by rfl, ?_⟩) hHeld ?_ ?_
  rotate_left
  · rintro w' ⟨s0, s1, s2, s3, s4, s5, s6, s7, s8, s9, s10, s11, s12⟩
    go_simp
    with_reducible rfl
  rotate_left
  · simp only [Act.put, List.setIfInBounds_toArray, List.set_cons_zero, List.set_cons_succ, i64_w, i32_w]
    rfl
  refine take_ (i := 1) (N := some 22) (v := ?_) (a' := ?_) #[true, true, false, false, false, false, false, false, false, false, false, false, false, false, false, false] rfl rfl (by kernel_rfl) (fun _ _ _ h => h) (Or.inl ⟨by rfl, ?_⟩) hHeld ?_ ?_
  rotate_left
  · rintro w' ⟨s0, s1, s2, s3, s4, s5, s6, s7, s8, s9, s10, s11, s12⟩
    go_simp
    with_reducible rfl
  rotate_left
  · simp only [Act.put, List.setIfInBounds_toArray, List.set_cons_zero, List.set_cons_succ, i64_w, i32_w]
    rfl
  refine take_ (i := 4) (N := some 25) (v := ?_) (a' := ?_) #[true, true, false, false, true, false, false, false, false, false, false, false, false, false, false, false] rfl rfl (by kernel_rfl) (fun _ _ _ h => h) (Or.inl ⟨by rfl, ?_⟩) hHeld ?_ ?_
  rotate_left
  · rintro w' ⟨s0, s1, s2, s3, s4, s5, s6, s7, s8, s9, s10, s11, s12⟩
    go_simp
    with_reducible rfl
  rotate_left
  · simp only [Act.put, List.setIfInBounds_toArray, List.set_cons_zero, List.set_cons_succ, i64_w, i32_w]
    rfl
  refine take_ (i := 6) (N := some 27) (v := ?_) (a' := ?_) #[true, true, false, false, true, false, true, false, false, false, false, false, false, false, false, false] rfl rfl (by kernel_rfl) (fun _ _ _ h => h) (Or.inl ⟨by rfl, ?_⟩) hHeld ?_ ?_
  rotate_left
  · rintro w' ⟨s0, s1, s2, s3, s4, s5, s6, s7, s8, s9, s10, s11, s12⟩
    go_simp
    with_reducible rfl
  rotate_left
  · simp only [Act.put, List.setIfInBounds_toArray, List.set_cons_zero, List.set_cons_succ, i64_w, i32_w]
    rfl
  refine one_ (i := 2) (N := some 23) #[true, true, true, false, true, false, true, false, false, false, false, false, false, false, false, false] rfl rfl (by kernel_rfl) (by decide) (fun K hK => ?_)
  refine goes_ Tryz.func17 (by kernel_rfl) rfl #[.agg #[.int .i64 3, .int .i64 Ha, .string sa, .slice A3a n3a c3a, .slice A4a n4a c4a, .slice A5a n5a c5a], .agg #[.int .i64 3, .int .i64 Hb, .string sb, .slice A3b n3b c3b, .slice A4b n4b c4b, .slice A5b n5b c5b]] (by rfl) rfl rfl (by simp only [List.map_toArray, List.map_cons, List.map_nil]; rfl) ?_
  with_reducible refine ((HAD.out _)).mono ?_
  rintro e w3 ⟨rfl, hb⟩
  refine ⟨_, rfl, ?_⟩
  have hz := SPL.below (hHeld.2.2.2.2.2.2.2.2.2.2.2.2) hb
  refine hK.out _ _ ⟨((six_cells (hz.get 0 rfl)).1), ((six_cells (hz.get 0 rfl)).2.1), ((six_cells (hz.get 0 rfl)).2.2.1), ((six_cells (hz.get 0 rfl)).2.2.2.1), ((six_cells (hz.get 0 rfl)).2.2.2.2.1), ((six_cells (hz.get 0 rfl)).2.2.2.2.2.1), ((six_cells (hz.get 1 rfl)).1), ((six_cells (hz.get 1 rfl)).2.1), ((six_cells (hz.get 1 rfl)).2.2.1), ((six_cells (hz.get 1 rfl)).2.2.2.1), ((six_cells (hz.get 1 rfl)).2.2.2.2.1), ((six_cells (hz.get 1 rfl)).2.2.2.2.2.1), hz⟩ (fun hHeld => ?_)
  clear hK K
  refine norm_ (a' := ?_) ?_ ?_
  rotate_left
  · show Act.put _ (some 23) _ = _
    simp only [Act.put, List.setIfInBounds_toArray, List.set_cons_zero, List.set_cons_succ, i64_w, i32_w]
    rfl
  refine pure_ (i := 3) (N := some 24) (v := ?_) (a' := ?_) #[true, true, true, true, true, false, true, false, false, false, false, false, false, false, false, false] rfl rfl (by kernel_rfl) (fun _ _ _ h => h) (Or.inl ⟨by rfl, ?_⟩) ?_ ?_
  rotate_left
  · intro w'
    go_simp
    with_reducible rfl
  rotate_left
  · simp only [Act.put, List.setIfInBounds_toArray, List.set_cons_zero, List.set_cons_succ, i64_w, i32_w]
    rfl
  refine one_ (i := 5) (N := some 26) #[true, true, true, true, true, true, true, false, false, false, false, false, false, false, false, false] rfl rfl (by kernel_rfl) (by decide) (fun K hK => ?_)
  refine goes_ Tryz.func19 (by kernel_rfl) rfl #[.agg #[.int .i64 3, .int .i64 (Ha + Hb), .string ⟨#[]⟩, .slice none 0 0, .slice none 0 0, .slice none 0 0], .agg #[.int .i64 3, .int .i64 Hb, .string sb, .slice A3b n3b c3b, .slice A4b n4b c4b, .slice A5b n5b c5b]] (by rfl) rfl rfl (by simp only [List.map_toArray, List.map_cons, List.map_nil]; rfl) ?_
  with_reducible refine ((HSU.out _)).mono ?_
  rintro e w3 ⟨rfl, hb⟩
  refine ⟨_, rfl, ?_⟩
  have hz := SPL.below (hHeld.2.2.2.2.2.2.2.2.2.2.2.2) hb
  refine hK.out _ _ ⟨((six_cells (hz.get 0 rfl)).1), ((six_cells (hz.get 0 rfl)).2.1), ((six_cells (hz.get 0 rfl)).2.2.1), ((six_cells (hz.get 0 rfl)).2.2.2.1), ((six_cells (hz.get 0 rfl)).2.2.2.2.1), ((six_cells (hz.get 0 rfl)).2.2.2.2.2.1), ((six_cells (hz.get 1 rfl)).1), ((six_cells (hz.get 1 rfl)).2.1), ((six_cells (hz.get 1 rfl)).2.2.1), ((six_cells (hz.get 1 rfl)).2.2.2.1), ((six_cells (hz.get 1 rfl)).2.2.2.2.1), ((six_cells (hz.get 1 rfl)).2.2.2.2.2.1), hz⟩ (fun hHeld => ?_)
  clear hK K
  refine norm_ (a' := ?_) ?_ ?_
  rotate_left
  · show Act.put _ (some 26) _ = _
    simp only [Act.put, List.setIfInBounds_toArray, List.set_cons_zero, List.set_cons_succ, i64_w, i32_w]
    rfl
  refine one_ (i := 7) (N := some 28) #[true, true, true, true, true, true, true, true, false, false, false, false, false, false, false, false] rfl rfl (by kernel_rfl) (by decide) (fun K hK => ?_)
  refine goes_ Tryz.func18 (by kernel_rfl) rfl #[.agg #[.int .i64 3, .int .i64 Ha, .string ⟨#[]⟩, .slice none 0 0, .slice none 0 0, .slice none 0 0, .int .i64 0], .agg #[.int .i64 3, .int .i64 Ha, .string sa, .slice A3a n3a c3a, .slice A4a n4a c4a, .slice A5a n5a c5a]] (by rfl) rfl rfl (by simp only [List.map_toArray, List.map_cons, List.map_nil]; rfl) ?_
  with_reducible refine ((HG1.out _)).mono ?_
  rintro e w3 ⟨rfl, hb⟩
  refine ⟨_, rfl, ?_⟩
  have hz := SPL.below (hHeld.2.2.2.2.2.2.2.2.2.2.2.2) hb
  refine hK.out _ _ ⟨((six_cells (hz.get 0 rfl)).1), ((six_cells (hz.get 0 rfl)).2.1), ((six_cells (hz.get 0 rfl)).2.2.1), ((six_cells (hz.get 0 rfl)).2.2.2.1), ((six_cells (hz.get 0 rfl)).2.2.2.2.1), ((six_cells (hz.get 0 rfl)).2.2.2.2.2.1), ((six_cells (hz.get 1 rfl)).1), ((six_cells (hz.get 1 rfl)).2.1), ((six_cells (hz.get 1 rfl)).2.2.1), ((six_cells (hz.get 1 rfl)).2.2.2.1), ((six_cells (hz.get 1 rfl)).2.2.2.2.1), ((six_cells (hz.get 1 rfl)).2.2.2.2.2.1), hz⟩ (fun hHeld => ?_)
  clear hK K
  refine norm_ (a' := ?_) ?_ ?_
  rotate_left
  · show Act.put _ (some 28) _ = _
    simp only [Act.put, List.setIfInBounds_toArray, List.set_cons_zero, List.set_cons_succ, i64_w, i32_w]
    rfl
  refine pure_ (i := 8) (N := some 29) (v := ?_) (a' := ?_) #[true, true, true, true, true, true, true, true, true, false, false, false, false, false, false, false] rfl rfl (by kernel_rfl) (fun _ _ _ h => h) (Or.inl ⟨by rfl, ?_⟩) ?_ ?_
  rotate_left
  · intro w'
    go_simp
    with_reducible rfl
  rotate_left
  · simp only [Act.put, List.setIfInBounds_toArray, List.set_cons_zero, List.set_cons_succ, i64_w, i32_w]
    rfl
  refine take_ (i := 9) (N := some 30) (v := ?_) (a' := ?_) #[true, true, true, true, true, true, true, true, true, true, false, false, false, false, false, false] rfl rfl (by kernel_rfl) (fun _ _ _ h => h) (Or.inl ⟨by rfl, ?_⟩) hHeld ?_ ?_
  rotate_left
  · rintro w' ⟨s0, s1, s2, s3, s4, s5, s6, s7, s8, s9, s10, s11, s12⟩
    go_simp
    with_reducible rfl
  rotate_left
  · simp only [Act.put, List.setIfInBounds_toArray, List.set_cons_zero, List.set_cons_succ, i64_w, i32_w]
    rfl
  refine take_ (i := 10) (N := some 31) (v := ?_) (a' := ?_) #[true, true, true, true, true, true, true, true, true, true, true, false, false, false, false, false] rfl rfl (by kernel_rfl) (fun _ _ _ h => h) (Or.inl ⟨by rfl, ?_⟩) hHeld ?_ ?_
  rotate_left
  · rintro w' ⟨s0, s1, s2, s3, s4, s5, s6, s7, s8, s9, s10, s11, s12⟩
    go_simp
    with_reducible rfl
  rotate_left
  · simp only [Act.put, List.setIfInBounds_toArray, List.set_cons_zero, List.set_cons_succ, i64_w, i32_w]
    rfl
  refine one_ (i := 11) (N := some 32) #[true, true, true, true, true, true, true, true, true, true, true, true, false, false, false, false] rfl rfl (by kernel_rfl) (by decide) (fun K hK => ?_)
  refine goes_ Tryz.func19 (by kernel_rfl) rfl #[.agg #[.int .i64 3, .int .i64 Ha, .string sa, .slice A3a n3a c3a, .slice A4a n4a c4a, .slice A5a n5a c5a], .agg #[.int .i64 3, .int .i64 Ha, .string sa, .slice A3a n3a c3a, .slice A4a n4a c4a, .slice A5a n5a c5a]] (by rfl) rfl rfl (by simp only [List.map_toArray, List.map_cons, List.map_nil]; rfl) ?_
  with_reducible refine ((HSS.out _)).mono ?_
  rintro e w3 ⟨rfl, hb⟩
  refine ⟨_, rfl, ?_⟩
  have hz := SPL.below (hHeld.2.2.2.2.2.2.2.2.2.2.2.2) hb
  refine hK.out _ _ ⟨((six_cells (hz.get 0 rfl)).1), ((six_cells (hz.get 0 rfl)).2.1), ((six_cells (hz.get 0 rfl)).2.2.1), ((six_cells (hz.get 0 rfl)).2.2.2.1), ((six_cells (hz.get 0 rfl)).2.2.2.2.1), ((six_cells (hz.get 0 rfl)).2.2.2.2.2.1), ((six_cells (hz.get 1 rfl)).1), ((six_cells (hz.get 1 rfl)).2.1), ((six_cells (hz.get 1 rfl)).2.2.1), ((six_cells (hz.get 1 rfl)).2.2.2.1), ((six_cells (hz.get 1 rfl)).2.2.2.2.1), ((six_cells (hz.get 1 rfl)).2.2.2.2.2.1), hz⟩ (fun hHeld => ?_)
  clear hK K
  refine norm_ (a' := ?_) ?_ ?_
  rotate_left
  · show Act.put _ (some 32) _ = _
    simp only [Act.put, List.setIfInBounds_toArray, List.set_cons_zero, List.set_cons_succ, i64_w, i32_w]
    rfl
  refine one_ (i := 12) (N := some 33) #[true, true, true, true, true, true, true, true, true, true, true, true, true, false, false, false] rfl rfl (by kernel_rfl) (by decide) (fun K hK => ?_)
  refine goes_ Tryz.func20 (by kernel_rfl) rfl #[.int .i64 0] (by rfl) rfl rfl (by simp only [List.map_toArray, List.map_cons, List.map_nil]; rfl) ?_
  with_reducible refine ((HN0.out _)).mono ?_
  rintro e w3 ⟨rfl, hb⟩
  refine ⟨_, rfl, ?_⟩
  have hz := SPL.below (hHeld.2.2.2.2.2.2.2.2.2.2.2.2) hb
  refine hK.out _ _ ⟨((six_cells (hz.get 0 rfl)).1), ((six_cells (hz.get 0 rfl)).2.1), ((six_cells (hz.get 0 rfl)).2.2.1), ((six_cells (hz.get 0 rfl)).2.2.2.1), ((six_cells (hz.get 0 rfl)).2.2.2.2.1), ((six_cells (hz.get 0 rfl)).2.2.2.2.2.1), ((six_cells (hz.get 1 rfl)).1), ((six_cells (hz.get 1 rfl)).2.1), ((six_cells (hz.get 1 rfl)).2.2.1), ((six_cells (hz.get 1 rfl)).2.2.2.1), ((six_cells (hz.get 1 rfl)).2.2.2.2.1), ((six_cells (hz.get 1 rfl)).2.2.2.2.2.1), hz⟩ (fun hHeld => ?_)
  clear hK K
  refine norm_ (a' := ?_) ?_ ?_
  rotate_left
  · show Act.put _ (some 33) _ = _
    simp only [Act.put, List.setIfInBounds_toArray, List.set_cons_zero, List.set_cons_succ, i64_w, i32_w]
    rfl
  refine one_ (i := 13) (N := some 34) #[true, true, true, true, true, true, true, true, true, true, true, true, true, true, false, false] rfl rfl (by kernel_rfl) (by decide) (fun K hK => ?_)
  refine goes_ Tryz.func18 (by kernel_rfl) rfl #[.agg #[.int .i64 3, .int .i64 0, .string ⟨#[]⟩, .slice none 0 0, .slice none 0 0, .slice none 0 0, .int .i64 0], .agg #[.int .i64 3, .int .i64 0, .string ⟨#[]⟩, .slice none 0 0, .slice none 0 0, .slice none 0 0]] (by rfl) rfl rfl (by simp only [List.map_toArray, List.map_cons, List.map_nil]; rfl) ?_
  with_reducible refine ((HG2.out _)).mono ?_
  rintro e w3 ⟨rfl, hb⟩
  refine ⟨_, rfl, ?_⟩
  have hz := SPL.below (hHeld.2.2.2.2.2.2.2.2.2.2.2.2) hb
  refine hK.out _ _ ⟨((six_cells (hz.get 0 rfl)).1), ((six_cells (hz.get 0 rfl)).2.1), ((six_cells (hz.get 0 rfl)).2.2.1), ((six_cells (hz.get 0 rfl)).2.2.2.1), ((six_cells (hz.get 0 rfl)).2.2.2.2.1), ((six_cells (hz.get 0 rfl)).2.2.2.2.2.1), ((six_cells (hz.get 1 rfl)).1), ((six_cells (hz.get 1 rfl)).2.1), ((six_cells (hz.get 1 rfl)).2.2.1), ((six_cells (hz.get 1 rfl)).2.2.2.1), ((six_cells (hz.get 1 rfl)).2.2.2.2.1), ((six_cells (hz.get 1 rfl)).2.2.2.2.2.1), hz⟩ (fun hHeld => ?_)
  clear hK K
  refine norm_ (a' := ?_) ?_ ?_
  rotate_left
  · show Act.put _ (some 34) _ = _
    simp only [Act.put, List.setIfInBounds_toArray, List.set_cons_zero, List.set_cons_succ, i64_w, i32_w]
    rfl
  refine pure_ (i := 14) (N := some 35) (v := ?_) (a' := ?_) #[true, true, true, true, true, true, true, true, true, true, true, true, true, true, true, false] rfl rfl (by kernel_rfl) (fun _ _ _ h => h) (Or.inl ⟨by rfl, ?_⟩) ?_ ?_
  rotate_left
  · intro w'
    go_simp
    with_reducible rfl
  rotate_left
  · simp only [Act.put, List.setIfInBounds_toArray, List.set_cons_zero, List.set_cons_succ, i64_w, i32_w]
    rfl
  refine pure_ (i := 15) (N := some 4) (v := ?_) (a' := ?_) #[true, true, true, true, true, true, true, true, true, true, true, true, true, true, true, true] rfl rfl (by kernel_rfl) (fun _ _ _ h => h) (Or.inl ⟨by rfl, ?_⟩) ?_ ?_
  rotate_left
  · intro w'
    go_simp
    with_reducible rfl
  rotate_left
  · simp only [Act.put, List.setIfInBounds_toArray, List.set_cons_zero, List.set_cons_succ, i64_w, i32_w]
    rfl
  refine done_ (by kernel_rfl) ?_
  go_wp2_with fail
  go_ret
  exact ⟨rfl, hz.1⟩
end Go.Proofs.YtdcgjfiknknjfaaGreatDoor.ValA
