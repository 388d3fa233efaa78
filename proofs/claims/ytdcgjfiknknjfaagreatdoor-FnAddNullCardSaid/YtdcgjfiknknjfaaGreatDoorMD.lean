/-
Parts of the proof, one behind the other: LawN, LawS, LawM.
-/
import Derived.Test.YtdcgjfiknknjfaaGreatDoorMB
import Derived.Test.YtdcgjfiknknjfaaGreatDoorMA
import Derived.Deep.RegionHeld3
/-
The laws of numbers: FnAddNumbers, FnSubBack, FnNegateSub.
-/
set_option linter.unusedSimpArgs false
set_option linter.unusedVariables false
namespace Go.Proofs.YtdcgjfiknknjfaaGreatDoor.ValA
open Go.RowKit Go.Lib Go.Proofs.YtdcgjfiknknjfaaGreatDoorW.PrintWords Go.Proofs.YtdcgjfiknknjfaaGreatDoorW.PrintLast Go.Proofs.YtdcgjfiknknjfaaGreatDoorW.PrintMore Go.Proofs.YtdcgjfiknknjfaaGreatDoor.PzzFits1 Go.Proofs.YtdcgjfiknknjfaaGreatDoor.NumA
theorem fits2_ev (l : List ByteArray) (hl : l.length ≤ 9223372036854775807) : ∃ k r, laws_zzFits2.f k l = some r := by
  have loop : ∀ d (j : Nat), j + d = l.length → ∃ r, laws_zzFits2.l0 (d + 1) l l.length j = some r := by
    intro d
    induction d with
    | zero =>
      intro j hj
      exact ⟨true, by simp only [laws_zzFits2.l0]; rw [if_neg (by omega)]⟩
    | succ d ih =>
      intro j hj
      rw [laws_zzFits2.l0, if_pos (by omega), if_pos (by omega), if_pos (by omega)]
      by_cases c : ((rdOf ByteArray.empty l (j : Int)).size : Int) > 2147483647
      · exact ⟨false, by rw [if_pos c]⟩
      · rw [if_neg c]
        have hw : wrap64 ((j : Int) + 1) = ((j + 1 : Nat) : Int) := by unfold wrap64; omega
        rw [hw]
        exact ih (j + 1) (by omega)
  obtain ⟨r, hr⟩ := loop l.length 0 (by omega)
  by_cases c : (l.length : Int) > 2147483647
  · exact ⟨0, false, by unfold laws_zzFits2.f; rw [if_pos c]⟩
  · exact ⟨l.length + 1, r, by unfold laws_zzFits2.f; rw [if_neg c]; exact hr⟩
theorem fits1_any (w0 : World) (x : V) (K H : Int) (s : ByteArray) (A3 A4 A5 : Option Addr) (n3 c3 n4 c4 n5 c5 : Nat) (hK : k26.K w0 x [.int .i64 K, .int .i64 H, .string s, .slice A3 n3 c3, .slice A4 n4 c4, .slice A5 n5 c5]) (w : World) (hb : Below w0.heap.size w0 w) :
    Calls Tryz.prog 15 #[.agg #[.int .i64 K, .int .i64 H, .string s, .slice A3 n3 c3, .slice A4 n4 c4, .slice A5 n5 c5]] w (Says True w) := by
  obtain ⟨B3, e3, B4, e4, B5, e5, he, l3, g3, l4, g4, l5, g5⟩ := k26_open hK
  simp only [List.cons.injEq, Value.int.injEq, Value.string.injEq, Value.slice.injEq, true_and, and_true] at he
  obtain ⟨rfl, rfl, rfl, ⟨rfl, rfl, rfl⟩, ⟨rfl, rfl, rfl⟩, ⟨rfl, rfl, rfl⟩⟩ := he
  obtain ⟨k, r, hr⟩ := fits2_ev x.f4 g4.2.1
  have h1 : ∃ r1, laws_zzFits1.f k x.f0 x.f1 x.f2 x.f3 x.f4 x.f5 = some r1 := by
    unfold laws_zzFits1.f
    rw [hr]
    simp only [Option.bind_some]
    repeat (first | exact ⟨_, rfl⟩ | split)
  obtain ⟨r1, hr1⟩ := h1
  refine (laws_zzFits1.calls k x.f0 x.f1 x.f2 _ _ x.f3 _ _ x.f4 _ _ x.f5 r1 w (Kd.C_below g3 hb) l3 (Kd.C_below g4 hb) l4 (Kd.C_below g5 hb) l5 hr1).mono ?_
  rintro e w' ⟨rfl, hd⟩
  exact ⟨r1, rfl, fun _ => trivial, hd⟩
/-- What stands in memory: below as it was, and these blocks. -/
def SPL (w : World) (L : List (Nat × Array Value × TypeId)) (w' : World) : Prop := Below w.heap.size w w' ∧ ∀ p ∈ L, w'.heap[p.1]? = some (.cells p.2.1 p.2.2 (0, 0))
theorem SPL.below {w w1 w2 : World} {L : List (Nat × Array Value × TypeId)} (h : SPL w L w1) (hb : Below w1.heap.size w1 w2) : SPL w L w2 :=
  ⟨h.1.trans (hb.mono h.1.size), fun p hp => (hb.block p.1 (lt_of_heap (h.2 p hp))).trans (h.2 p hp)⟩
theorem SPL.drewN {w w1 : World} {L : List (Nat × Array Value × TypeId)} (h : SPL w L w1) (n : Nat) : SPL w L (w1.drewN n) := h.below (pw_below_drewN (Below.refl _ _) n)
theorem SPL.drew {w w1 : World} {L : List (Nat × Array Value × TypeId)} (h : SPL w L w1) : SPL w L w1.drew := h.drewN 1
theorem SPL.get {w w1 : World} {L : List (Nat × Array Value × TypeId)} (h : SPL w L w1) (i : Nat) {p : Nat × Array Value × TypeId} (hp : L[i]? = some p) : w1.heap[p.1]? = some (.cells p.2.1 p.2.2 (0, 0)) := h.2 p (List.mem_of_getElem? hp)
theorem SPL.nil (w : World) : SPL w [] w := ⟨Below.refl _ _, fun _ h => by cases h⟩
theorem SPL.more {w w1 : World} {L : List (Nat × Array Value × TypeId)} (h : SPL w L w1) (c : Array Value) (t : TypeId) : SPL w (L ++ [(w1.heap.size, c, t)]) (w1.alloc (.cells c t)) := by
  have hb : Below w1.heap.size w1 (w1.alloc (.cells c t)) := (Below.refl _ w1).alloc (Nat.le_refl _) _
  have h2 := h.below hb
  refine ⟨h2.1, fun p hp => ?_⟩
  rcases List.mem_append.1 hp with hp | hp
  · exact h2.2 p hp
  · obtain rfl := List.mem_singleton.1 hp
    exact heap_alloc_new w1 _
theorem SPL.box (w : World) (c : Array Value) (t : TypeId) : SPL w [(w.heap.size, c, t)] (w.alloc (.cells c t)) := (SPL.nil w).more c t
set_option maxRecDepth 100000 in
set_option maxHeartbeats 20000000 in
theorem fnNegateSub_any (w : World) (hE : Env w) (x : V) (hz : Sz x) (K H : Int) (s : ByteArray) (A3 A4 A5 : Option Addr) (n3 c3 n4 c4 n5 c5 : Nat) (hK : k26.K w x [.int .i64 K, .int .i64 H, .string s, .slice A3 n3 c3, .slice A4 n4 c4, .slice A5 n5 c5]) :
    Calls Tryz.prog 5 #[.agg #[.int .i64 K, .int .i64 H, .string s, .slice A3 n3 c3, .slice A4 n4 c4, .slice A5 n5 c5]] w fun e w' => e = .returned (.bool true) ∧ Below w.heap.size w w' := by
  have HF := Lib.hid (fun w1 hb => fits1_any w x K H s A3 A4 A5 n3 c3 n4 c4 n5 c5 hK w1 hb)
  have HU := Lib.hid (fun w1 hb => num_any w hE x hz K H s A3 A4 A5 n3 c3 n4 c4 n5 c5 hK 4503599627370496 (by omega) (by omega) w1 hb)
  clear hE hz hK
  go_enter Tryz.func5, Tryz.ntmps5
  go_wp2_with fail
  have h0 : SPL w [(w.heap.size, #[.int .i64 K, .int .i64 H, .string s, .slice A3 n3 c3, .slice A4 n4 c4, .slice A5 n5 c5], 26)] (w.alloc (.cells #[.int .i64 K, .int .i64 H, .string s, .slice A3 n3 c3, .slice A4 n4 c4, .slice A5 n5 c5] 26)) := SPL.box w _ _
  obtain ⟨W0, hW0⟩ : ∃ W0, W0 = w.alloc (.cells #[.int .i64 K, .int .i64 H, .string s, .slice A3 n3 c3, .slice A4 n4 c4, .slice A5 n5 c5] 26) := ⟨_, rfl⟩
  rw [← hW0] at h0 ⊢
  have H0 := Lib.hid h0
  clear h0 hW0
  refine (HF.out W0 H0.out.1).mono ?_
  rintro e w1 ⟨r, rfl, _, hb⟩
  have H1 := Lib.hid (H0.out.below hb)
  clear hb H0
  cases r with
  | false =>
    go_wp2_with fail
    go_ret
    exact ⟨rfl, H1.out.1⟩
  | true =>
    have y := six_cells (H1.out.get 0 rfl)
    go_wp2_with fail
    refine (HU.out w1 H1.out.1).mono ?_
    rintro e w2 ⟨r, rfl, hr, hb⟩
    have H2 := Lib.hid (H1.out.below hb)
    clear hb H1 y
    cases r with
    | false =>
      go_wp2_with fail
      go_ret
      exact ⟨rfl, H2.out.1⟩
    | true =>
      obtain ⟨_, rfl, h1, h2⟩ := hr rfl
      clear hr HF HU
      have g1 : -9007199254740992 ≤ H := by omega
      have g2 : H ≤ 9007199254740992 := by omega
      have HN0 := Lib.hid (fun w => spec_Num0 w)
      simp only [vl, rv, r0, eq_self_iff_true, decide_true] at HN0
      have HNE := Lib.hid (fun w => impl_neg H ⟨s, A3, n3, c3, A4, n4, c4, A5, n5, c5⟩ g1 g2 w)
      simp only [vl, rv, r0, eq_self_iff_true, decide_true] at HNE
      have HSU := Lib.hid (fun w => impl_sub 0 H r0 ⟨s, A3, n3, c3, A4, n4, c4, A5, n5, c5⟩ (by omega) (by omega) g1 g2 (by omega) (by omega) w)
      simp only [vl, rv, r0, eq_self_iff_true, decide_true] at HSU
      rw [Int.zero_sub] at HSU
      have HAD := Lib.hid (fun w => impl_add H (-H) ⟨s, A3, n3, c3, A4, n4, c4, A5, n5, c5⟩ r0 g1 g2 (by omega) (by omega) (by omega) (by omega) w)
      simp only [vl, rv, r0, eq_self_iff_true, decide_true] at HAD
      rw [Int.add_right_neg] at HAD
      have HG1 := Lib.hid (fun w => given_num (-H) (-H) r0 r0 w (by omega) (by omega) (by omega) (by omega))
      simp only [vl, rv, r0, eq_self_iff_true, decide_true] at HG1
      have HG2 := Lib.hid (fun w => given_num 0 0 r0 r0 w (by omega) (by omega) (by omega) (by omega))
      simp only [vl, rv, r0, eq_self_iff_true, decide_true] at HG2
      clear h1 h2 g1 g2
      have y := six_cells (H2.out.get 0 rfl)
      go_wp2_with fail
      refine (HNE.out _).mono ?_
      rintro e w3 ⟨rfl, hb⟩
      have H3 := Lib.hid (H2.out.below hb)
      clear hb H2 y
      go_wp2_with fail
      obtain ⟨B, hB⟩ : ∃ B, B = w.heap.size := ⟨_, rfl⟩
      obtain ⟨R, hR⟩ : ∃ R, R = w3.heap.size := ⟨_, rfl⟩
      obtain ⟨W4, hW4⟩ : ∃ W4, W4 = w3.alloc (.cells #[.int .i64 3, .int .i64 (-H), .string ⟨#[]⟩, .slice none 0 0, .slice none 0 0, .slice none 0 0, .int .i64 0] 30) := ⟨_, rfl⟩
      have HZ : Hid (SPL w [(B, #[.int .i64 3, .int .i64 H, .string s, .slice A3 n3 c3, .slice A4 n4 c4, .slice A5 n5 c5], 26), (R, #[.int .i64 3, .int .i64 (-H), .string ⟨#[]⟩, .slice none 0 0, .slice none 0 0, .slice none 0 0, .int .i64 0], 30)] W4) := Lib.hid (by rw [hW4, hB, hR]; exact H3.out.more _ _)
      rw [← hW4, ← hB, ← hR]
      clear hW4 hR H3 hB
      refine start_ (n := 21) (S := fun w' => w'.cell? ⟨B, 0, none⟩ = some (.int .i64 3) ∧ w'.cell? ⟨B, 1, none⟩ = some (.int .i64 H) ∧ w'.cell? ⟨B, 2, none⟩ = some (.string s) ∧ w'.cell? ⟨B, 3, none⟩ = some (.slice A3 n3 c3) ∧ w'.cell? ⟨B, 4, none⟩ = some (.slice A4 n4 c4) ∧ w'.cell? ⟨B, 5, none⟩ = some (.slice A5 n5 c5) ∧ w'.cell? ⟨R, 0, none⟩ = some (.int .i64 3) ∧ w'.cell? ⟨R, 1, none⟩ = some (.int .i64 (-H)) ∧ w'.cell? ⟨R, 2, none⟩ = some (.string ⟨#[]⟩) ∧ w'.cell? ⟨R, 3, none⟩ = some (.slice none 0 0) ∧ w'.cell? ⟨R, 4, none⟩ = some (.slice none 0 0) ∧ w'.cell? ⟨R, 5, none⟩ = some (.slice none 0 0) ∧ w'.cell? ⟨R, 6, none⟩ = some (.int .i64 0) ∧ SPL w [(B, #[.int .i64 3, .int .i64 H, .string s, .slice A3 n3 c3, .slice A4 n4 c4, .slice A5 n5 c5], 26), (R, #[.int .i64 3, .int .i64 (-H), .string ⟨#[]⟩, .slice none 0 0, .slice none 0 0, .slice none 0 0, .int .i64 0], 30)] w') (ds := []) #[false, false, false, false, false, false, false, false, false, false, false, false, false, false, false, false, false, false, false, false, false] (by kernel_rfl) rfl rfl ⟨((six_cells ((SPL.drew HZ.out).get 0 rfl)).1), ((six_cells ((SPL.drew HZ.out).get 0 rfl)).2.1), ((six_cells ((SPL.drew HZ.out).get 0 rfl)).2.2.1), ((six_cells ((SPL.drew HZ.out).get 0 rfl)).2.2.2.1), ((six_cells ((SPL.drew HZ.out).get 0 rfl)).2.2.2.2.1), ((six_cells ((SPL.drew HZ.out).get 0 rfl)).2.2.2.2.2.1), ((sev_cells ((SPL.drew HZ.out).get 1 rfl)).1), ((sev_cells ((SPL.drew HZ.out).get 1 rfl)).2.1), ((sev_cells ((SPL.drew HZ.out).get 1 rfl)).2.2.1), ((sev_cells ((SPL.drew HZ.out).get 1 rfl)).2.2.2.1), ((sev_cells ((SPL.drew HZ.out).get 1 rfl)).2.2.2.2.1), ((sev_cells ((SPL.drew HZ.out).get 1 rfl)).2.2.2.2.2.1), ((sev_cells ((SPL.drew HZ.out).get 1 rfl)).2.2.2.2.2.2.1), (SPL.drew HZ.out)⟩ (fun hHeld => ?_)
      refine pure_ (i := 0) (N := some 12) (v := ?_) (a' := ?_) #[true, false, false, false, false, false, false, false, false, false, false, false, false, false, false, false, false, false, false, false, false] rfl rfl (by kernel_rfl) (fun _ _ _ h => h) (Or.inl ⟨by rfl, ?_⟩) ?_ ?_
      rotate_left
      · intro w'
        go_simp
        with_reducible rfl
      rotate_left
      · simp only [Act.put, List.setIfInBounds_toArray, List.set_cons_zero, List.set_cons_succ, i64_w, i32_w]
        rfl
      refine pure_ (i := 1) (N := some 13) (v := ?_) (a' := ?_) #[true, true, false, false, false, false, false, false, false, false, false, false, false, false, false, false, false, false, false, false, false] rfl rfl (by kernel_rfl) (fun _ _ _ h => h) (Or.inl ⟨by rfl, ?_⟩) ?_ ?_
      rotate_left
      · intro w'
        go_simp
        with_reducible rfl
      rotate_left
      · simp only [Act.put, List.setIfInBounds_toArray, List.set_cons_zero, List.set_cons_succ, i64_w, i32_w]
        rfl
      refine take_ (i := 2) (N := some 14) (v := ?_) (a' := ?_) #[true, true, true, false, false, false, false, false, false, false, false, false, false, false, false, false, false, false, false, false, false] rfl rfl (by kernel_rfl) (fun _ _ _ h => h) (Or.inl ⟨by rfl, ?_⟩) hHeld ?_ ?_
      rotate_left
      · rintro w' ⟨s0, s1, s2, s3, s4, s5, s6, s7, s8, s9, s10, s11, s12, s13⟩
        go_simp
        with_reducible rfl
      rotate_left
      · simp only [Act.put, List.setIfInBounds_toArray, List.set_cons_zero, List.set_cons_succ, i64_w, i32_w]
        rfl
      refine pure_ (i := 3) (N := some 15) (v := ?_) (a' := ?_) #[true, true, true, true, false, false, false, false, false, false, false, false, false, false, false, false, false, false, false, false, false] rfl rfl (by kernel_rfl) (fun _ _ _ h => h) (Or.inl ⟨by rfl, ?_⟩) ?_ ?_
      rotate_left
      · intro w'
        go_simp
        with_reducible rfl
      rotate_left
      · simp only [Act.put, List.setIfInBounds_toArray, List.set_cons_zero, List.set_cons_succ, i64_w, i32_w]
        rfl
      refine pure_ (i := 4) (N := some 16) (v := ?_) (a' := ?_) #[true, true, true, true, true, false, false, false, false, false, false, false, false, false, false, false, false, false, false, false, false] rfl rfl (by kernel_rfl) (fun _ _ _ h => h) (Or.inl ⟨by rfl, ?_⟩) ?_ ?_
      rotate_left
      · intro w'
        go_simp
        with_reducible rfl
      rotate_left
      · simp only [Act.put, List.setIfInBounds_toArray, List.set_cons_zero, List.set_cons_succ, i64_w, i32_w]
        rfl
      refine pure_ (i := 8) (N := some 20) (v := ?_) (a' := ?_) #[true, true, true, true, true, false, false, false, true, false, false, false, false, false, false, false, false, false, false, false, false] rfl rfl (by kernel_rfl) (fun _ _ _ h => h) (Or.inl ⟨by rfl, ?_⟩) ?_ ?_
      rotate_left
      · intro w'
        go_simp
        with_reducible rfl
      rotate_left
      · simp only [Act.put, List.setIfInBounds_toArray, List.set_cons_zero, List.set_cons_succ, i64_w, i32_w]
        rfl
      refine take_ (i := 6) (N := some 18) (v := ?_) (a' := ?_) #[true, true, true, true, true, false, true, false, true, false, false, false, false, false, false, false, false, false, false, false, false] rfl rfl (by kernel_rfl) (fun _ _ _ h => h) (Or.inl ⟨by rfl, ?_⟩) hHeld ?_ ?_
      rotate_left
      · rintro w' ⟨s0, s1, s2, s3, s4, s5, s6, s7, s8, s9, s10, s11, s12, s13⟩
        go_simp
        with_reducible rfl
      rotate_left
      · simp only [Act.put, List.setIfInBounds_toArray, List.set_cons_zero, List.set_cons_succ, i64_w, i32_w]
        rfl
      refine take_ (i := 9) (N := some 21) (v := ?_) (a' := ?_) #[true, true, true, true, true, false, true, false, true, true, false, false, false, false, false, false, false, false, false, false, false] rfl rfl (by kernel_rfl) (fun _ _ _ h => h) (Or.inl ⟨by rfl, ?_⟩) hHeld ?_ ?_
      rotate_left
      · rintro w' ⟨s0, s1, s2, s3, s4, s5, s6, s7, s8, s9, s10, s11, s12, s13⟩
        go_simp
        with_reducible rfl
      rotate_left
      · simp only [Act.put, List.setIfInBounds_toArray, List.set_cons_zero, List.set_cons_succ, i64_w, i32_w]
        rfl
      refine one_ (i := 5) (N := some 17) #[true, true, true, true, true, true, true, false, true, true, false, false, false, false, false, false, false, false, false, false, false] rfl rfl (by kernel_rfl) (by decide) (fun K hK => ?_)
      refine goes_ Tryz.func20 (by kernel_rfl) rfl #[.int .i64 0] (by rfl) rfl rfl (by simp only [List.map_toArray, List.map_cons, List.map_nil]; rfl) ?_
      with_reducible refine ((HN0.out _)).mono ?_
      rintro e w3 ⟨rfl, hb⟩
      refine ⟨_, rfl, ?_⟩
      have hz := SPL.below (hHeld.2.2.2.2.2.2.2.2.2.2.2.2.2) hb
      refine hK.out _ _ ⟨((six_cells (hz.get 0 rfl)).1), ((six_cells (hz.get 0 rfl)).2.1), ((six_cells (hz.get 0 rfl)).2.2.1), ((six_cells (hz.get 0 rfl)).2.2.2.1), ((six_cells (hz.get 0 rfl)).2.2.2.2.1), ((six_cells (hz.get 0 rfl)).2.2.2.2.2.1), ((sev_cells (hz.get 1 rfl)).1), ((sev_cells (hz.get 1 rfl)).2.1), ((sev_cells (hz.get 1 rfl)).2.2.1), ((sev_cells (hz.get 1 rfl)).2.2.2.1), ((sev_cells (hz.get 1 rfl)).2.2.2.2.1), ((sev_cells (hz.get 1 rfl)).2.2.2.2.2.1), ((sev_cells (hz.get 1 rfl)).2.2.2.2.2.2.1), hz⟩ (fun hHeld => ?_)
      clear hK K
      refine norm_ (a' := ?_) ?_ ?_
      rotate_left
      · show Act.put _ (some 17) _ = _
        simp only [Act.put, List.setIfInBounds_toArray, List.set_cons_zero, List.set_cons_succ, i64_w, i32_w]
        rfl
      refine one_ (i := 7) (N := some 19) #[true, true, true, true, true, true, true, true, true, true, false, false, false, false, false, false, false, false, false, false, false] rfl rfl (by kernel_rfl) (by decide) (fun K hK => ?_)
      refine goes_ Tryz.func19 (by kernel_rfl) rfl #[.agg #[.int .i64 3, .int .i64 0, .string ⟨#[]⟩, .slice none 0 0, .slice none 0 0, .slice none 0 0], .agg #[.int .i64 3, .int .i64 H, .string s, .slice A3 n3 c3, .slice A4 n4 c4, .slice A5 n5 c5]] (by rfl) rfl rfl (by simp only [List.map_toArray, List.map_cons, List.map_nil]; rfl) ?_
      with_reducible refine ((HSU.out _)).mono ?_
      rintro e w3 ⟨rfl, hb⟩
      refine ⟨_, rfl, ?_⟩
      have hz := SPL.below (hHeld.2.2.2.2.2.2.2.2.2.2.2.2.2) hb
      refine hK.out _ _ ⟨((six_cells (hz.get 0 rfl)).1), ((six_cells (hz.get 0 rfl)).2.1), ((six_cells (hz.get 0 rfl)).2.2.1), ((six_cells (hz.get 0 rfl)).2.2.2.1), ((six_cells (hz.get 0 rfl)).2.2.2.2.1), ((six_cells (hz.get 0 rfl)).2.2.2.2.2.1), ((sev_cells (hz.get 1 rfl)).1), ((sev_cells (hz.get 1 rfl)).2.1), ((sev_cells (hz.get 1 rfl)).2.2.1), ((sev_cells (hz.get 1 rfl)).2.2.2.1), ((sev_cells (hz.get 1 rfl)).2.2.2.2.1), ((sev_cells (hz.get 1 rfl)).2.2.2.2.2.1), ((sev_cells (hz.get 1 rfl)).2.2.2.2.2.2.1), hz⟩ (fun hHeld => ?_)
      clear hK K
      refine norm_ (a' := ?_) ?_ ?_
      rotate_left
      · show Act.put _ (some 19) _ = _
        simp only [Act.put, List.setIfInBounds_toArray, List.set_cons_zero, List.set_cons_succ, i64_w, i32_w]
        rfl
      refine one_ (i := 10) (N := some 22) #[true, true, true, true, true, true, true, true, true, true, true, false, false, false, false, false, false, false, false, false, false] rfl rfl (by kernel_rfl) (by decide) (fun K hK => ?_)
      refine goes_ Tryz.func18 (by kernel_rfl) rfl #[.agg #[.int .i64 3, .int .i64 (-H), .string ⟨#[]⟩, .slice none 0 0, .slice none 0 0, .slice none 0 0, .int .i64 0], .agg #[.int .i64 3, .int .i64 (-H), .string ⟨#[]⟩, .slice none 0 0, .slice none 0 0, .slice none 0 0]] (by rfl) rfl rfl (by simp only [List.map_toArray, List.map_cons, List.map_nil]; rfl) ?_
      with_reducible refine ((HG1.out _)).mono ?_
      rintro e w3 ⟨rfl, hb⟩
      refine ⟨_, rfl, ?_⟩
      have hz := SPL.below (hHeld.2.2.2.2.2.2.2.2.2.2.2.2.2) hb
      refine hK.out _ _ ⟨((six_cells (hz.get 0 rfl)).1), ((six_cells (hz.get 0 rfl)).2.1), ((six_cells (hz.get 0 rfl)).2.2.1), ((six_cells (hz.get 0 rfl)).2.2.2.1), ((six_cells (hz.get 0 rfl)).2.2.2.2.1), ((six_cells (hz.get 0 rfl)).2.2.2.2.2.1), ((sev_cells (hz.get 1 rfl)).1), ((sev_cells (hz.get 1 rfl)).2.1), ((sev_cells (hz.get 1 rfl)).2.2.1), ((sev_cells (hz.get 1 rfl)).2.2.2.1), ((sev_cells (hz.get 1 rfl)).2.2.2.2.1), ((sev_cells (hz.get 1 rfl)).2.2.2.2.2.1), ((sev_cells (hz.get 1 rfl)).2.2.2.2.2.2.1), hz⟩ (fun hHeld => ?_)
      clear hK K
      refine norm_ (a' := ?_) ?_ ?_
      rotate_left
      · show Act.put _ (some 22) _ = _
        simp only [Act.put, List.setIfInBounds_toArray, List.set_cons_zero, List.set_cons_succ, i64_w, i32_w]
        rfl
      refine pure_ (i := 11) (N := some 23) (v := ?_) (a' := ?_) #[true, true, true, true, true, true, true, true, true, true, true, true, false, false, false, false, false, false, false, false, false] rfl rfl (by kernel_rfl) (fun _ _ _ h => h) (Or.inl ⟨by rfl, ?_⟩) ?_ ?_
      rotate_left
      · intro w'
        go_simp
        with_reducible rfl
      rotate_left
      · simp only [Act.put, List.setIfInBounds_toArray, List.set_cons_zero, List.set_cons_succ, i64_w, i32_w]
        rfl
      refine pure_ (i := 12) (N := some 24) (v := ?_) (a' := ?_) #[true, true, true, true, true, true, true, true, true, true, true, true, true, false, false, false, false, false, false, false, false] rfl rfl (by kernel_rfl) (fun _ _ _ h => h) (Or.inl ⟨by rfl, ?_⟩) ?_ ?_
      rotate_left
      · intro w'
        go_simp
        with_reducible rfl
      rotate_left
      · simp only [Act.put, List.setIfInBounds_toArray, List.set_cons_zero, List.set_cons_succ, i64_w, i32_w]
        rfl
      refine pure_ (i := 14) (N := some 26) (v := ?_) (a' := ?_) #[true, true, true, true, true, true, true, true, true, true, true, true, true, false, true, false, false, false, false, false, false] rfl rfl (by kernel_rfl) (fun _ _ _ h => h) (Or.inl ⟨by rfl, ?_⟩) ?_ ?_
      rotate_left
      · intro w'
        go_simp
        with_reducible rfl
      rotate_left
      · simp only [Act.put, List.setIfInBounds_toArray, List.set_cons_zero, List.set_cons_succ, i64_w, i32_w]
        rfl
      refine take_ (i := 13) (N := some 25) (v := ?_) (a' := ?_) #[true, true, true, true, true, true, true, true, true, true, true, true, true, true, true, false, false, false, false, false, false] rfl rfl (by kernel_rfl) (fun _ _ _ h => h) (Or.inl ⟨by rfl, ?_⟩) hHeld ?_ ?_
      rotate_left
      · rintro w' ⟨s0, s1, s2, s3, s4, s5, s6, s7, s8, s9, s10, s11, s12, s13⟩
        go_simp
        with_reducible rfl
      rotate_left
      · simp only [Act.put, List.setIfInBounds_toArray, List.set_cons_zero, List.set_cons_succ, i64_w, i32_w]
        rfl
      refine take_ (i := 15) (N := some 27) (v := ?_) (a' := ?_) #[true, true, true, true, true, true, true, true, true, true, true, true, true, true, true, true, false, false, false, false, false] rfl rfl (by kernel_rfl) (fun _ _ _ h => h) (Or.inl ⟨by rfl, ?_⟩) hHeld ?_ ?_
      rotate_left
      · rintro w' ⟨s0, s1, s2, s3, s4, s5, s6, s7, s8, s9, s10, s11, s12, s13⟩
        go_simp
        with_reducible rfl
      rotate_left
      · simp only [Act.put, List.setIfInBounds_toArray, List.set_cons_zero, List.set_cons_succ, i64_w, i32_w]
        rfl
      refine one_ (i := 16) (N := some 28) #[true, true, true, true, true, true, true, true, true, true, true, true, true, true, true, true, true, false, false, false, false] rfl rfl (by kernel_rfl) (by decide) (fun K hK => ?_)
      refine goes_ Tryz.func17 (by kernel_rfl) rfl #[.agg #[.int .i64 3, .int .i64 H, .string s, .slice A3 n3 c3, .slice A4 n4 c4, .slice A5 n5 c5], .agg #[.int .i64 3, .int .i64 (-H), .string ⟨#[]⟩, .slice none 0 0, .slice none 0 0, .slice none 0 0]] (by rfl) rfl rfl (by simp only [List.map_toArray, List.map_cons, List.map_nil]; rfl) ?_
      with_reducible refine ((HAD.out _)).mono ?_
      rintro e w3 ⟨rfl, hb⟩
      refine ⟨_, rfl, ?_⟩
      have hz := SPL.below (hHeld.2.2.2.2.2.2.2.2.2.2.2.2.2) hb
      refine hK.out _ _ ⟨((six_cells (hz.get 0 rfl)).1), ((six_cells (hz.get 0 rfl)).2.1), ((six_cells (hz.get 0 rfl)).2.2.1), ((six_cells (hz.get 0 rfl)).2.2.2.1), ((six_cells (hz.get 0 rfl)).2.2.2.2.1), ((six_cells (hz.get 0 rfl)).2.2.2.2.2.1), ((sev_cells (hz.get 1 rfl)).1), ((sev_cells (hz.get 1 rfl)).2.1), ((sev_cells (hz.get 1 rfl)).2.2.1), ((sev_cells (hz.get 1 rfl)).2.2.2.1), ((sev_cells (hz.get 1 rfl)).2.2.2.2.1), ((sev_cells (hz.get 1 rfl)).2.2.2.2.2.1), ((sev_cells (hz.get 1 rfl)).2.2.2.2.2.2.1), hz⟩ (fun hHeld => ?_)
      clear hK K
      refine norm_ (a' := ?_) ?_ ?_
      rotate_left
      · show Act.put _ (some 28) _ = _
        simp only [Act.put, List.setIfInBounds_toArray, List.set_cons_zero, List.set_cons_succ, i64_w, i32_w]
        rfl
      refine one_ (i := 17) (N := some 29) #[true, true, true, true, true, true, true, true, true, true, true, true, true, true, true, true, true, true, false, false, false] rfl rfl (by kernel_rfl) (by decide) (fun K hK => ?_)
      refine goes_ Tryz.func20 (by kernel_rfl) rfl #[.int .i64 0] (by rfl) rfl rfl (by simp only [List.map_toArray, List.map_cons, List.map_nil]; rfl) ?_
      with_reducible refine ((HN0.out _)).mono ?_
      rintro e w3 ⟨rfl, hb⟩
      refine ⟨_, rfl, ?_⟩
      have hz := SPL.below (hHeld.2.2.2.2.2.2.2.2.2.2.2.2.2) hb
      refine hK.out _ _ ⟨((six_cells (hz.get 0 rfl)).1), ((six_cells (hz.get 0 rfl)).2.1), ((six_cells (hz.get 0 rfl)).2.2.1), ((six_cells (hz.get 0 rfl)).2.2.2.1), ((six_cells (hz.get 0 rfl)).2.2.2.2.1), ((six_cells (hz.get 0 rfl)).2.2.2.2.2.1), ((sev_cells (hz.get 1 rfl)).1), ((sev_cells (hz.get 1 rfl)).2.1), ((sev_cells (hz.get 1 rfl)).2.2.1), ((sev_cells (hz.get 1 rfl)).2.2.2.1), ((sev_cells (hz.get 1 rfl)).2.2.2.2.1), ((sev_cells (hz.get 1 rfl)).2.2.2.2.2.1), ((sev_cells (hz.get 1 rfl)).2.2.2.2.2.2.1), hz⟩ (fun hHeld => ?_)
      clear hK K
      refine norm_ (a' := ?_) ?_ ?_
      rotate_left
      · show Act.put _ (some 29) _ = _
        simp only [Act.put, List.setIfInBounds_toArray, List.set_cons_zero, List.set_cons_succ, i64_w, i32_w]
        rfl
      refine one_ (i := 18) (N := some 30) #[true, true, true, true, true, true, true, true, true, true, true, true, true, true, true, true, true, true, true, false, false] rfl rfl (by kernel_rfl) (by decide) (fun K hK => ?_)
      refine goes_ Tryz.func18 (by kernel_rfl) rfl #[.agg #[.int .i64 3, .int .i64 0, .string ⟨#[]⟩, .slice none 0 0, .slice none 0 0, .slice none 0 0, .int .i64 0], .agg #[.int .i64 3, .int .i64 0, .string ⟨#[]⟩, .slice none 0 0, .slice none 0 0, .slice none 0 0]] (by rfl) rfl rfl (by simp only [List.map_toArray, List.map_cons, List.map_nil]; rfl) ?_
      with_reducible refine ((HG2.out _)).mono ?_
      rintro e w3 ⟨rfl, hb⟩
      refine ⟨_, rfl, ?_⟩
      have hz := SPL.below (hHeld.2.2.2.2.2.2.2.2.2.2.2.2.2) hb
      refine hK.out _ _ ⟨((six_cells (hz.get 0 rfl)).1), ((six_cells (hz.get 0 rfl)).2.1), ((six_cells (hz.get 0 rfl)).2.2.1), ((six_cells (hz.get 0 rfl)).2.2.2.1), ((six_cells (hz.get 0 rfl)).2.2.2.2.1), ((six_cells (hz.get 0 rfl)).2.2.2.2.2.1), ((sev_cells (hz.get 1 rfl)).1), ((sev_cells (hz.get 1 rfl)).2.1), ((sev_cells (hz.get 1 rfl)).2.2.1), ((sev_cells (hz.get 1 rfl)).2.2.2.1), ((sev_cells (hz.get 1 rfl)).2.2.2.2.1), ((sev_cells (hz.get 1 rfl)).2.2.2.2.2.1), ((sev_cells (hz.get 1 rfl)).2.2.2.2.2.2.1), hz⟩ (fun hHeld => ?_)
      clear hK K
      refine norm_ (a' := ?_) ?_ ?_
      rotate_left
      · show Act.put _ (some 30) _ = _
        simp only [Act.put, List.setIfInBounds_toArray, List.set_cons_zero, List.set_cons_succ, i64_w, i32_w]
        rfl
      refine pure_ (i := 19) (N := some 31) (v := ?_) (a' := ?_) #[true, true, true, true, true, true, true, true, true, true, true, true, true, true, true, true, true, true, true, true, false] rfl rfl (by kernel_rfl) (fun _ _ _ h => h) (Or.inl ⟨by rfl, ?_⟩) ?_ ?_
      rotate_left
      · intro w'
        go_simp
        with_reducible rfl
      rotate_left
      · simp only [Act.put, List.setIfInBounds_toArray, List.set_cons_zero, List.set_cons_succ, i64_w, i32_w]
        rfl
      refine pure_ (i := 20) (N := some 2) (v := ?_) (a' := ?_) #[true, true, true, true, true, true, true, true, true, true, true, true, true, true, true, true, true, true, true, true, true] rfl rfl (by kernel_rfl) (fun _ _ _ h => h) (Or.inl ⟨by rfl, ?_⟩) ?_ ?_
      rotate_left
      · intro w'
        go_simp
        with_reducible rfl
      rotate_left
      · simp only [Act.put, List.setIfInBounds_toArray, List.set_cons_zero, List.set_cons_succ, i64_w, i32_w]
        rfl
      refine done_ (by kernel_rfl) ?_
      go_wp2_with fail
      go_ret
      exact ⟨rfl, hz.1⟩
end Go.Proofs.YtdcgjfiknknjfaaGreatDoor.ValA
set_option linter.unusedSimpArgs false
set_option linter.unusedVariables false
namespace Go.Proofs.YtdcgjfiknknjfaaGreatDoor.ValA
open Go.RowKit Go.Lib Go.Proofs.YtdcgjfiknknjfaaGreatDoorW.PrintWords Go.Proofs.YtdcgjfiknknjfaaGreatDoorW.PrintLast Go.Proofs.YtdcgjfiknknjfaaGreatDoorW.PrintMore Go.Proofs.YtdcgjfiknknjfaaGreatDoor.PzzFits1 Go.Proofs.YtdcgjfiknknjfaaGreatDoor.NumA
theorem size_alloc (w : World) (o : Obj) : (w.alloc o).heap.size = w.heap.size + 1 := World.size_alloc _ _
theorem run_val (c0 c1 c2 c3 c4 c5 c6 : Value) (W : World) : Sem.run Tryz.prog (Instr.field 30 (.agg #[c0, c1, c2, c3, c4, c5, c6]) 0) W = .ok (.agg #[c0, c1, c2, c3, c4, c5]) W := by kernel_rfl
attribute [local go_sem] run_val
theorem SPL.two (w : World) (c d : Array Value) (t u : TypeId) : SPL w [(w.heap.size, c, t), (w.heap.size + 1, d, u)] ((w.alloc (.cells c t)).alloc (.cells d u)) := by
  have h := (SPL.box w c t).more d u
  rw [size_alloc] at h
  exact h
theorem SPL.three (w : World) (c d e : Array Value) (t u v : TypeId) : SPL w [(w.heap.size, c, t), (w.heap.size + 1, d, u), (w.heap.size + 1 + 1, e, v)] (((w.alloc (.cells c t)).alloc (.cells d u)).alloc (.cells e v)) := by
  have h := (SPL.two w c d t u).more e v
  rw [size_alloc, size_alloc] at h
  exact h
set_option maxRecDepth 100000 in
set_option maxHeartbeats 20000000 in
theorem fnSubBack_any (w : World) (hE : Env w) (xa : V) (hza : Sz xa) (Ka Ha : Int) (sa : ByteArray) (A3a A4a A5a : Option Addr) (n3a c3a n4a c4a n5a c5a : Nat) (hKa : k26.K w xa [.int .i64 Ka, .int .i64 Ha, .string sa, .slice A3a n3a c3a, .slice A4a n4a c4a, .slice A5a n5a c5a]) (xb : V) (hzb : Sz xb) (Kb Hb : Int) (sb : ByteArray) (A3b A4b A5b : Option Addr) (n3b c3b n4b c4b n5b c5b : Nat) (hKb : k26.K w xb [.int .i64 Kb, .int .i64 Hb, .string sb, .slice A3b n3b c3b, .slice A4b n4b c4b, .slice A5b n5b c5b]) :
    Calls Tryz.prog 4 #[.agg #[.int .i64 Ka, .int .i64 Ha, .string sa, .slice A3a n3a c3a, .slice A4a n4a c4a, .slice A5a n5a c5a], .agg #[.int .i64 Kb, .int .i64 Hb, .string sb, .slice A3b n3b c3b, .slice A4b n4b c4b, .slice A5b n5b c5b]] w fun e w' => e = .returned (.bool true) ∧ Below w.heap.size w w' := by
  have HFa := Lib.hid (fun w1 hb => fits1_any w xa Ka Ha sa A3a A4a A5a n3a c3a n4a c4a n5a c5a hKa w1 hb)
  have HFb := Lib.hid (fun w1 hb => fits1_any w xb Kb Hb sb A3b A4b A5b n3b c3b n4b c4b n5b c5b hKb w1 hb)
  have HUa := Lib.hid (fun w1 hb => num_any w hE xa hza Ka Ha sa A3a A4a A5a n3a c3a n4a c4a n5a c5a hKa 2251799813685248 (by omega) (by omega) w1 hb)
  have HUb := Lib.hid (fun w1 hb => num_any w hE xb hzb Kb Hb sb A3b A4b A5b n3b c3b n4b c4b n5b c5b hKb 2251799813685248 (by omega) (by omega) w1 hb)
  clear hE hza hKa hzb hKb
  go_enter Tryz.func4, Tryz.ntmps4
  go_wp2_with fail
  obtain ⟨A, hA⟩ : ∃ A, A = w.heap.size := ⟨_, rfl⟩
  obtain ⟨B, hB⟩ : ∃ B, B = w.heap.size + 1 := ⟨_, rfl⟩
  obtain ⟨W0, hW0⟩ : ∃ W0, W0 = (w.alloc (.cells #[.int .i64 Ka, .int .i64 Ha, .string sa, .slice A3a n3a c3a, .slice A4a n4a c4a, .slice A5a n5a c5a] 26)).alloc (.cells #[.int .i64 Kb, .int .i64 Hb, .string sb, .slice A3b n3b c3b, .slice A4b n4b c4b, .slice A5b n5b c5b] 26) := ⟨_, rfl⟩
  have h0 : SPL w [(A, #[.int .i64 Ka, .int .i64 Ha, .string sa, .slice A3a n3a c3a, .slice A4a n4a c4a, .slice A5a n5a c5a], 26), (B, #[.int .i64 Kb, .int .i64 Hb, .string sb, .slice A3b n3b c3b, .slice A4b n4b c4b, .slice A5b n5b c5b], 26)] W0 := by rw [hA, hB, hW0]; exact SPL.two w _ _ _ _
  rw [← hW0, ← hB, ← hA]
  have H0 := Lib.hid h0
  clear h0 hW0 hA hB
  have y := six_cells (H0.out.get 0 rfl)
  go_wp2_with fail
  refine (HFa.out W0 H0.out.1).mono ?_
  rintro e w1 ⟨r, rfl, _, hb⟩
  have H1 := Lib.hid (H0.out.below hb)
  clear hb H0 y HFa
  cases r with
  | false =>
    go_wp2_with fail
    go_ret
    exact ⟨rfl, H1.out.1⟩
  | true =>
  have y := six_cells (H1.out.get 1 rfl)
  go_wp2_with fail
  refine (HFb.out w1 H1.out.1).mono ?_
  rintro e w2 ⟨r, rfl, _, hb⟩
  have H2 := Lib.hid (H1.out.below hb)
  clear hb H1 y HFb
  cases r with
  | false =>
    go_wp2_with fail
    go_ret
    exact ⟨rfl, H2.out.1⟩
  | true =>
  have y := six_cells (H2.out.get 0 rfl)
  go_wp2_with fail
  refine (HUa.out w2 H2.out.1).mono ?_
  rintro e w3 ⟨r, rfl, hr, hb⟩
  have H3 := Lib.hid (H2.out.below hb)
  clear hb H2 y HUa
  cases r with
  | false =>
    go_wp2_with fail
    go_ret
    exact ⟨rfl, H3.out.1⟩
  | true =>
  obtain ⟨_, rfl, h1, h2⟩ := hr rfl
  clear hr
  have y := six_cells (H3.out.get 1 rfl)
  go_wp2_with fail
  refine (HUb.out w3 H3.out.1).mono ?_
  rintro e w4 ⟨r, rfl, hr, hb⟩
  have H4 := Lib.hid (H3.out.below hb)
  clear hb H3 y HUb
  cases r with
  | false =>
    go_wp2_with fail
    go_ret
    exact ⟨rfl, H4.out.1⟩
  | true =>
  obtain ⟨_, rfl, h3, h4⟩ := hr rfl
  clear hr
  have HN0 := Lib.hid (fun w => spec_Num0 w)
  simp only [vl, rv, r0, eq_self_iff_true, decide_true] at HN0
  have HAD := Lib.hid (fun w => impl_add Ha Hb ⟨sa, A3a, n3a, c3a, A4a, n4a, c4a, A5a, n5a, c5a⟩ ⟨sb, A3b, n3b, c3b, A4b, n4b, c4b, A5b, n5b, c5b⟩ (by omega) (by omega) (by omega) (by omega) (by omega) (by omega) w)
  simp only [vl, rv, r0, eq_self_iff_true, decide_true] at HAD
  have HSU := Lib.hid (fun w => impl_sub (Ha + Hb) Hb r0 ⟨sb, A3b, n3b, c3b, A4b, n4b, c4b, A5b, n5b, c5b⟩ (by omega) (by omega) (by omega) (by omega) (by omega) (by omega) w)
  simp only [vl, rv, r0, eq_self_iff_true, decide_true] at HSU
  rw [Int.add_sub_cancel] at HSU
  have HG1 := Lib.hid (fun w => given_num Ha Ha r0 ⟨sa, A3a, n3a, c3a, A4a, n4a, c4a, A5a, n5a, c5a⟩ w (by omega) (by omega) (by omega) (by omega))
  simp only [vl, rv, r0, eq_self_iff_true, decide_true] at HG1
  have HSS := Lib.hid (fun w => impl_sub Ha Ha ⟨sa, A3a, n3a, c3a, A4a, n4a, c4a, A5a, n5a, c5a⟩ ⟨sa, A3a, n3a, c3a, A4a, n4a, c4a, A5a, n5a, c5a⟩ (by omega) (by omega) (by omega) (by omega) (by omega) (by omega) w)
  simp only [vl, rv, r0, eq_self_iff_true, decide_true] at HSS
  rw [Int.sub_self] at HSS
  have HG2 := Lib.hid (fun w => given_num 0 0 r0 r0 w (by omega) (by omega) (by omega) (by omega))
  simp only [vl, rv, r0, eq_self_iff_true, decide_true] at HG2
  have HZ := H4
  clear h1 h2 h3 h4 H4
  go_wp2_with fail
  refine start_ (n := 16) (S := fun w' => w'.cell? ⟨A, 0, none⟩ = some (.int .i64 3) ∧ w'.cell? ⟨A, 1, none⟩ = some (.int .i64 Ha) ∧ w'.cell? ⟨A, 2, none⟩ = some (.string sa) ∧ w'.cell? ⟨A, 3, none⟩ = some (.slice A3a n3a c3a) ∧ w'.cell? ⟨A, 4, none⟩ = some (.slice A4a n4a c4a) ∧ w'.cell? ⟨A, 5, none⟩ = some (.slice A5a n5a c5a) ∧ w'.cell? ⟨B, 0, none⟩ = some (.int .i64 3) ∧ w'.cell? ⟨B, 1, none⟩ = some (.int .i64 Hb) ∧ w'.cell? ⟨B, 2, none⟩ = some (.string sb) ∧ w'.cell? ⟨B, 3, none⟩ = some (.slice A3b n3b c3b) ∧ w'.cell? ⟨B, 4, none⟩ = some (.slice A4b n4b c4b) ∧ w'.cell? ⟨B, 5, none⟩ = some (.slice A5b n5b c5b) ∧ SPL w [(A, #[.int .i64 3, .int .i64 Ha, .string sa, .slice A3a n3a c3a, .slice A4a n4a c4a, .slice A5a n5a c5a], 26), (B, #[.int .i64 3, .int .i64 Hb, .string sb, .slice A3b n3b c3b, .slice A4b n4b c4b, .slice A5b n5b c5b], 26)] w') (ds := []) #[false, false, false, false, false, false, false, false, false, false, false, false, false, false, false, false] (by kernel_rfl) rfl rfl ⟨((six_cells ((SPL.drew HZ.out).get 0 rfl)).1), ((six_cells ((SPL.drew HZ.out).get 0 rfl)).2.1), ((six_cells ((SPL.drew HZ.out).get 0 rfl)).2.2.1), ((six_cells ((SPL.drew HZ.out).get 0 rfl)).2.2.2.1), ((six_cells ((SPL.drew HZ.out).get 0 rfl)).2.2.2.2.1), ((six_cells ((SPL.drew HZ.out).get 0 rfl)).2.2.2.2.2.1), ((six_cells ((SPL.drew HZ.out).get 1 rfl)).1), ((six_cells ((SPL.drew HZ.out).get 1 rfl)).2.1), ((six_cells ((SPL.drew HZ.out).get 1 rfl)).2.2.1), ((six_cells ((SPL.drew HZ.out).get 1 rfl)).2.2.2.1), ((six_cells ((SPL.drew HZ.out).get 1 rfl)).2.2.2.2.1), ((six_cells ((SPL.drew HZ.out).get 1 rfl)).2.2.2.2.2.1), (SPL.drew HZ.out)⟩ (fun hHeld => ?_)
  refine take_ (i := 0) (N := some 21) (v := ?_) (a' := ?_) #[true, false, false, false, false, false, false, false, false, false, false, false, false, false, false, false] rfl rfl (by kernel_rfl) (fun _ _ _ h => h) (Or.inl ⟨by rfl, ?_⟩) hHeld ?_ ?_
  rotate_left
  · rintro w' ⟨s0, s1, s2, s3, s4, s5, s6, s7, s8, s9, s10, s11, s12⟩
    go_simp
    with_reducible rfl
  rotate_left
  · simp only [Act.put, List.setIfInBounds_toArray, List.set_cons_zero, List.set_cons_succ, i64_w, i32_w]
    rfl
  refine take_ (i := 1) (N := some 22) (v := ?_) (a' := ?_) #[true, true, false, false, false, false, false, false, false, false, false, false, false, false, false, false] rfl rfl (by kernel_rfl) (fun _ _ _ h => h) (Or.inl ⟨by rfl, ?_⟩) hHeld ?_ ?_
  rotate_left
  · rintro w' ⟨s0, s1, s2, s3, s4, s5, s6, s7, s8, s9, s10, s11, s12⟩
    go_simp
    with_reducible rfl
  rotate_left
  · simp only [Act.put, List.setIfInBounds_toArray, List.set_cons_zero, List.set_cons_succ, i64_w, i32_w]
    rfl
  refine take_ (i := 4) (N := some 25) (v := ?_) (a' := ?_) #[true, true, false, false, true, false, false, false, false, false, false, false, false, false, false, false] rfl rfl (by kernel_rfl) (fun _ _ _ h => h) (Or.inl ⟨by rfl, ?_⟩) hHeld ?_ ?_
  rotate_left
  · rintro w' ⟨s0, s1, s2, s3, s4, s5, s6, s7, s8, s9, s10, s11, s12⟩
    go_simp
    with_reducible rfl
  rotate_left
  · simp only [Act.put, List.setIfInBounds_toArray, List.set_cons_zero, List.set_cons_succ, i64_w, i32_w]
    rfl
  refine take_ (i := 6) (N := some 27) (v := ?_) (a' := ?_) #[true, true, false, false, true, false, true, false, false, false, false, false, false, false, false, false] rfl rfl (by kernel_rfl) (fun _ _ _ h => h) (Or.inl ⟨by rfl, ?_⟩) hHeld ?_ ?_
  rotate_left
  · rintro w' ⟨s0, s1, s2, s3, s4, s5, s6, s7, s8, s9, s10, s11, s12⟩
    go_simp
    with_reducible rfl
  rotate_left
  · simp only [Act.put, List.setIfInBounds_toArray, List.set_cons_zero, List.set_cons_succ, i64_w, i32_w]
    rfl
  refine one_ (i := 2) (N := some 23) #[true, true, true, false, true, false, true, false, false, false, false, false, false, false, false, false] rfl rfl (by kernel_rfl) (by decide) (fun K hK => ?_)
  refine goes_ Tryz.func17 (by kernel_rfl) rfl #[.agg #[.int .i64 3, .int .i64 Ha, .string sa, .slice A3a n3a c3a, .slice A4a n4a c4a, .slice A5a n5a c5a], .agg #[.int .i64 3, .int .i64 Hb, .string sb, .slice A3b n3b c3b, .slice A4b n4b c4b, .slice A5b n5b c5b]] (by rfl) rfl rfl (by simp only [List.map_toArray, List.map_cons, List.map_nil]; rfl) ?_
  with_reducible refine ((HAD.out _)).mono ?_
  rintro e w3 ⟨rfl, hb⟩
  refine ⟨_, rfl, ?_⟩
  have hz := SPL.below (hHeld.2.2.2.2.2.2.2.2.2.2.2.2) hb
  refine hK.out _ _ ⟨((six_cells (hz.get 0 rfl)).1), ((six_cells (hz.get 0 rfl)).2.1), ((six_cells (hz.get 0 rfl)).2.2.1), ((six_cells (hz.get 0 rfl)).2.2.2.1), ((six_cells (hz.get 0 rfl)).2.2.2.2.1), ((six_cells (hz.get 0 rfl)).2.2.2.2.2.1), ((six_cells (hz.get 1 rfl)).1), ((six_cells (hz.get 1 rfl)).2.1), ((six_cells (hz.get 1 rfl)).2.2.1), ((six_cells (hz.get 1 rfl)).2.2.2.1), ((six_cells (hz.get 1 rfl)).2.2.2.2.1), ((six_cells (hz.get 1 rfl)).2.2.2.2.2.1), hz⟩ (fun hHeld => ?_)
  clear hK K
  refine norm_ (a' := ?_) ?_ ?_
  rotate_left
  · show Act.put _ (some 23) _ = _
    simp only [Act.put, List.setIfInBounds_toArray, List.set_cons_zero, List.set_cons_succ, i64_w, i32_w]
    rfl
  refine pure_ (i := 3) (N := some 24) (v := ?_) (a' := ?_) #[true, true, true, true, true, false, true, false, false, false, false, false, false, false, false, false] rfl rfl (by kernel_rfl) (fun _ _ _ h => h) (Or.inl ⟨by rfl, ?_⟩) ?_ ?_
  rotate_left
  · intro w'
    go_simp
    with_reducible rfl
  rotate_left
  · simp only [Act.put, List.setIfInBounds_toArray, List.set_cons_zero, List.set_cons_succ, i64_w, i32_w]
    rfl
  refine one_ (i := 5) (N := some 26) #[true, true, true, true, true, true, true, false, false, false, false, false, false, false, false, false] rfl rfl (by kernel_rfl) (by decide) (fun K hK => ?_)
  refine goes_ Tryz.func19 (by kernel_rfl) rfl #[.agg #[.int .i64 3, .int .i64 (Ha + Hb), .string ⟨#[]⟩, .slice none 0 0, .slice none 0 0, .slice none 0 0], .agg #[.int .i64 3, .int .i64 Hb, .string sb, .slice A3b n3b c3b, .slice A4b n4b c4b, .slice A5b n5b c5b]] (by rfl) rfl rfl (by simp only [List.map_toArray, List.map_cons, List.map_nil]; rfl) ?_
  with_reducible refine ((HSU.out _)).mono ?_
  rintro e w3 ⟨rfl, hb⟩
  refine ⟨_, rfl, ?_⟩
  have hz := SPL.below (hHeld.2.2.2.2.2.2.2.2.2.2.2.2) hb
  refine hK.out _ _ ⟨((six_cells (hz.get 0 rfl)).1), ((six_cells (hz.get 0 rfl)).2.1), ((six_cells (hz.get 0 rfl)).2.2.1), ((six_cells (hz.get 0 rfl)).2.2.2.1), ((six_cells (hz.get 0 rfl)).2.2.2.2.1), ((six_cells (hz.get 0 rfl)).2.2.2.2.2.1), ((six_cells (hz.get 1 rfl)).1), ((six_cells (hz.get 1 rfl)).2.1), ((six_cells (hz.get 1 rfl)).2.2.1), ((six_cells (hz.get 1 rfl)).2.2.2.1), ((six_cells (hz.get 1 rfl)).2.2.2.2.1), ((six_cells (hz.get 1 rfl)).2.2.2.2.2.1), hz⟩ (fun hHeld => ?_)
  clear hK K
  refine norm_ (a' := ?_) ?_ ?_
  rotate_left
  · show Act.put _ (some 26) _ = _
    simp only [Act.put, List.setIfInBounds_toArray, List.set_cons_zero, List.set_cons_succ, i64_w, i32_w]
    rfl
  refine one_ (i := 7) (N := some 28) #[true, true, true, true, true, true, true, true, false, false, false, false, false, false, false, false] rfl rfl (by kernel_rfl) (by decide) (fun K hK => ?_)
  refine goes_ Tryz.func18 (by kernel_rfl) rfl #[.agg #[.int .i64 3, .int .i64 Ha, .string ⟨#[]⟩, .slice none 0 0, .slice none 0 0, .slice none 0 0, .int .i64 0], .agg #[.int .i64 3, .int .i64 Ha, .string sa, .slice A3a n3a c3a, .slice A4a n4a c4a, .slice A5a n5a c5a]] (by rfl) rfl rfl (by simp only [List.map_toArray, List.map_cons, List.map_nil]; rfl) ?_
  with_reducible refine ((HG1.out _)).mono ?_
  rintro e w3 ⟨rfl, hb⟩
  refine ⟨_, rfl, ?_⟩
  have hz := SPL.below (hHeld.2.2.2.2.2.2.2.2.2.2.2.2) hb
  refine hK.out _ _ ⟨((six_cells (hz.get 0 rfl)).1), ((six_cells (hz.get 0 rfl)).2.1), ((six_cells (hz.get 0 rfl)).2.2.1), ((six_cells (hz.get 0 rfl)).2.2.2.1), ((six_cells (hz.get 0 rfl)).2.2.2.2.1), ((six_cells (hz.get 0 rfl)).2.2.2.2.2.1), ((six_cells (hz.get 1 rfl)).1), ((six_cells (hz.get 1 rfl)).2.1), ((six_cells (hz.get 1 rfl)).2.2.1), ((six_cells (hz.get 1 rfl)).2.2.2.1), ((six_cells (hz.get 1 rfl)).2.2.2.2.1), ((six_cells (hz.get 1 rfl)).2.2.2.2.2.1), hz⟩ (fun hHeld => ?_)
  clear hK K
  refine norm_ (a' := ?_) ?_ ?_
  rotate_left
  · show Act.put _ (some 28) _ = _
    simp only [Act.put, List.setIfInBounds_toArray, List.set_cons_zero, List.set_cons_succ, i64_w, i32_w]
    rfl
  refine pure_ (i := 8) (N := some 29) (v := ?_) (a' := ?_) #[true, true, true, true, true, true, true, true, true, false, false, false, false, false, false, false] rfl rfl (by kernel_rfl) (fun _ _ _ h => h) (Or.inl ⟨by rfl, ?_⟩) ?_ ?_
  rotate_left
  · intro w'
    go_simp
    with_reducible rfl
  rotate_left
  · simp only [Act.put, List.setIfInBounds_toArray, List.set_cons_zero, List.set_cons_succ, i64_w, i32_w]
    rfl
  refine take_ (i := 9) (N := some 30) (v := ?_) (a' := ?_) #[true, true, true, true, true, true, true, true, true, true, false, false, false, false, false, false] rfl rfl (by kernel_rfl) (fun _ _ _ h => h) (Or.inl ⟨by rfl, ?_⟩) hHeld ?_ ?_
  rotate_left
  · rintro w' ⟨s0, s1, s2, s3, s4, s5, s6, s7, s8, s9, s10, s11, s12⟩
    go_simp
    with_reducible rfl
  rotate_left
  · simp only [Act.put, List.setIfInBounds_toArray, List.set_cons_zero, List.set_cons_succ, i64_w, i32_w]
    rfl
  refine take_ (i := 10) (N := some 31) (v := ?_) (a' := ?_) #[true, true, true, true, true, true, true, true, true, true, true, false, false, false, false, false] rfl rfl (by kernel_rfl) (fun _ _ _ h => h) (Or.inl ⟨by rfl, ?_⟩) hHeld ?_ ?_
  rotate_left
  · rintro w' ⟨s0, s1, s2, s3, s4, s5, s6, s7, s8, s9, s10, s11, s12⟩
    go_simp
    with_reducible rfl
  rotate_left
  · simp only [Act.put, List.setIfInBounds_toArray, List.set_cons_zero, List.set_cons_succ, i64_w, i32_w]
    rfl
  refine one_ (i := 11) (N := some 32) #[true, true, true, true, true, true, true, true, true, true, true, true, false, false, false, false] rfl rfl (by kernel_rfl) (by decide) (fun K hK => ?_)
  refine goes_ Tryz.func19 (by kernel_rfl) rfl #[.agg #[.int .i64 3, .int .i64 Ha, .string sa, .slice A3a n3a c3a, .slice A4a n4a c4a, .slice A5a n5a c5a], .agg #[.int .i64 3, .int .i64 Ha, .string sa, .slice A3a n3a c3a, .slice A4a n4a c4a, .slice A5a n5a c5a]] (by rfl) rfl rfl (by simp only [List.map_toArray, List.map_cons, List.map_nil]; rfl) ?_
  with_reducible refine ((HSS.out _)).mono ?_
  rintro e w3 ⟨rfl, hb⟩
  refine ⟨_, rfl, ?_⟩
  have hz := SPL.below (hHeld.2.2.2.2.2.2.2.2.2.2.2.2) hb
  refine hK.out _ _ ⟨((six_cells (hz.get 0 rfl)).1), ((six_cells (hz.get 0 rfl)).2.1), ((six_cells (hz.get 0 rfl)).2.2.1), ((six_cells (hz.get 0 rfl)).2.2.2.1), ((six_cells (hz.get 0 rfl)).2.2.2.2.1), ((six_cells (hz.get 0 rfl)).2.2.2.2.2.1), ((six_cells (hz.get 1 rfl)).1), ((six_cells (hz.get 1 rfl)).2.1), ((six_cells (hz.get 1 rfl)).2.2.1), ((six_cells (hz.get 1 rfl)).2.2.2.1), ((six_cells (hz.get 1 rfl)).2.2.2.2.1), ((six_cells (hz.get 1 rfl)).2.2.2.2.2.1), hz⟩ (fun hHeld => ?_)
  clear hK K
  refine norm_ (a' := ?_) ?_ ?_
  rotate_left
  · show Act.put _ (some 32) _ = _
    simp only [Act.put, List.setIfInBounds_toArray, List.set_cons_zero, List.set_cons_succ, i64_w, i32_w]
    rfl
  refine one_ (i := 12) (N := some 33) #[true, true, true, true, true, true, true, true, true, true, true, true, true, false, false, false] rfl rfl (by kernel_rfl) (by decide) (fun K hK => ?_)
  refine goes_ Tryz.func20 (by kernel_rfl) rfl #[.int .i64 0] (by rfl) rfl rfl (by simp only [List.map_toArray, List.map_cons, List.map_nil]; rfl) ?_
  with_reducible refine ((HN0.out _)).mono ?_
  rintro e w3 ⟨rfl, hb⟩
  refine ⟨_, rfl, ?_⟩
  have hz := SPL.below (hHeld.2.2.2.2.2.2.2.2.2.2.2.2) hb
  refine hK.out _ _ ⟨((six_cells (hz.get 0 rfl)).1), ((six_cells (hz.get 0 rfl)).2.1), ((six_cells (hz.get 0 rfl)).2.2.1), ((six_cells (hz.get 0 rfl)).2.2.2.1), ((six_cells (hz.get 0 rfl)).2.2.2.2.1), ((six_cells (hz.get 0 rfl)).2.2.2.2.2.1), ((six_cells (hz.get 1 rfl)).1), ((six_cells (hz.get 1 rfl)).2.1), ((six_cells (hz.get 1 rfl)).2.2.1), ((six_cells (hz.get 1 rfl)).2.2.2.1), ((six_cells (hz.get 1 rfl)).2.2.2.2.1), ((six_cells (hz.get 1 rfl)).2.2.2.2.2.1), hz⟩ (fun hHeld => ?_)
  clear hK K
  refine norm_ (a' := ?_) ?_ ?_
  rotate_left
  · show Act.put _ (some 33) _ = _
    simp only [Act.put, List.setIfInBounds_toArray, List.set_cons_zero, List.set_cons_succ, i64_w, i32_w]
    rfl
  refine one_ (i := 13) (N := some 34) #[true, true, true, true, true, true, true, true, true, true, true, true, true, true, false, false] rfl rfl (by kernel_rfl) (by decide) (fun K hK => ?_)
  refine goes_ Tryz.func18 (by kernel_rfl) rfl #[.agg #[.int .i64 3, .int .i64 0, .string ⟨#[]⟩, .slice none 0 0, .slice none 0 0, .slice none 0 0, .int .i64 0], .agg #[.int .i64 3, .int .i64 0, .string ⟨#[]⟩, .slice none 0 0, .slice none 0 0, .slice none 0 0]] (by rfl) rfl rfl (by simp only [List.map_toArray, List.map_cons, List.map_nil]; rfl) ?_
  with_reducible refine ((HG2.out _)).mono ?_
  rintro e w3 ⟨rfl, hb⟩
  refine ⟨_, rfl, ?_⟩
  have hz := SPL.below (hHeld.2.2.2.2.2.2.2.2.2.2.2.2) hb
  refine hK.out _ _ ⟨((six_cells (hz.get 0 rfl)).1), ((six_cells (hz.get 0 rfl)).2.1), ((six_cells (hz.get 0 rfl)).2.2.1), ((six_cells (hz.get 0 rfl)).2.2.2.1), ((six_cells (hz.get 0 rfl)).2.2.2.2.1), ((six_cells (hz.get 0 rfl)).2.2.2.2.2.1), ((six_cells (hz.get 1 rfl)).1), ((six_cells (hz.get 1 rfl)).2.1), ((six_cells (hz.get 1 rfl)).2.2.1), ((six_cells (hz.get 1 rfl)).2.2.2.1), ((six_cells (hz.get 1 rfl)).2.2.2.2.1), ((six_cells (hz.get 1 rfl)).2.2.2.2.2.1), hz⟩ (fun hHeld => ?_)
  clear hK K
  refine norm_ (a' := ?_) ?_ ?_
  rotate_left
  · show Act.put _ (some 34) _ = _
    simp only [Act.put, List.setIfInBounds_toArray, List.set_cons_zero, List.set_cons_succ, i64_w, i32_w]
    rfl
  refine pure_ (i := 14) (N := some 35) (v := ?_) (a' := ?_) #[true, true, true, true, true, true, true, true, true, true, true, true, true, true, true, false] rfl rfl (by kernel_rfl) (fun _ _ _ h => h) (Or.inl ⟨by rfl, ?_⟩) ?_ ?_
  rotate_left
  · intro w'
    go_simp
    with_reducible rfl
  rotate_left
  · simp only [Act.put, List.setIfInBounds_toArray, List.set_cons_zero, List.set_cons_succ, i64_w, i32_w]
    rfl
  refine pure_ (i := 15) (N := some 4) (v := ?_) (a' := ?_) #[true, true, true, true, true, true, true, true, true, true, true, true, true, true, true, true] rfl rfl (by kernel_rfl) (fun _ _ _ h => h) (Or.inl ⟨by rfl, ?_⟩) ?_ ?_
  rotate_left
  · intro w'
    go_simp
    with_reducible rfl
  rotate_left
  · simp only [Act.put, List.setIfInBounds_toArray, List.set_cons_zero, List.set_cons_succ, i64_w, i32_w]
    rfl
  refine done_ (by kernel_rfl) ?_
  go_wp2_with fail
  go_ret
  exact ⟨rfl, hz.1⟩
end Go.Proofs.YtdcgjfiknknjfaaGreatDoor.ValA
set_option linter.unusedSimpArgs false
set_option linter.unusedVariables false
namespace Go.Proofs.YtdcgjfiknknjfaaGreatDoor.ValA
open Go.RowKit Go.Lib Go.Proofs.YtdcgjfiknknjfaaGreatDoorW.PrintWords Go.Proofs.YtdcgjfiknknjfaaGreatDoorW.PrintLast Go.Proofs.YtdcgjfiknknjfaaGreatDoorW.PrintMore Go.Proofs.YtdcgjfiknknjfaaGreatDoor.PzzFits1 Go.Proofs.YtdcgjfiknknjfaaGreatDoor.NumA
attribute [local go_sem] run_val
/-- And no two blocks are one, and all are new. -/
def SPN (w : World) (L : List (Nat × Array Value × TypeId)) (w' : World) : Prop := SPL w L w' ∧ (L.map (·.1)).Nodup ∧ ∀ p ∈ L, w.heap.size ≤ p.1
theorem SPN.below {w w1 w2 : World} {L : List (Nat × Array Value × TypeId)} (h : SPN w L w1) (hb : Below w1.heap.size w1 w2) : SPN w L w2 := ⟨h.1.below hb, h.2⟩
theorem SPN.drew {w w1 : World} {L : List (Nat × Array Value × TypeId)} (h : SPN w L w1) : SPN w L w1.drew := ⟨h.1.drew, h.2⟩
theorem SPN.more {w w1 : World} {L : List (Nat × Array Value × TypeId)} (h : SPN w L w1) (c : Array Value) (t : TypeId) : SPN w (L ++ [(w1.heap.size, c, t)]) (w1.alloc (.cells c t)) := by
  refine ⟨h.1.more c t, ?_, ?_⟩
  · rw [List.map_append, List.nodup_append]
    refine ⟨h.2.1, by simp, ?_⟩
    intro a ha b hb
    obtain ⟨p, hp, rfl⟩ := List.mem_map.1 ha
    have := lt_of_heap (h.1.2 p hp)
    simp at hb
    omega
  · intro p hp
    rcases List.mem_append.1 hp with hp | hp
    · exact h.2.2 p hp
    · obtain rfl := List.mem_singleton.1 hp
      exact h.1.1.size
theorem SPN.pre3 {w w1 : World} {a b c : Nat × Array Value × TypeId} {L : List (Nat × Array Value × TypeId)} (h : SPN w (a :: b :: c :: L) w1) : SPN w [a, b, c] w1 := by
  have hs : ∀ p ∈ [a, b, c], p ∈ a :: b :: c :: L := fun p hp => by
    simp at hp ⊢
    rcases hp with h | h | h <;> simp [h]
  refine ⟨⟨h.1.1, fun p hp => h.1.2 p (hs p hp)⟩, ?_, fun p hp => h.2.2 p (hs p hp)⟩
  have := h.2.1
  simp at this ⊢
  exact ⟨⟨this.1.1, this.1.2.1⟩, this.2.1.1⟩
theorem SPN.swap {w w1 : World} {a b c x y : Nat × Array Value × TypeId} (h : SPN w [a, b, c, x, y] w1) : SPN w [a, b, c, y, x] w1 := by
  have hs : ∀ p ∈ [a, b, c, y, x], p ∈ [a, b, c, x, y] := fun p hp => by
    simp at hp ⊢
    rcases hp with h | h | h | h | h <;> simp [h]
  refine ⟨⟨h.1.1, fun p hp => h.1.2 p (hs p hp)⟩, ?_, fun p hp => h.2.2 p (hs p hp)⟩
  have := h.2.1
  simp at this ⊢
  omega
theorem SPN.put {w w1 : World} {L : List (Nat × Array Value × TypeId)} (h : SPN w L w1) (i : Nat) {R : Nat} {c0 c1 c2 c3 c4 c5 c6 : Value} {t : TypeId} (hi : L[i]? = some (R, #[c0, c1, c2, c3, c4, c5, c6], t)) (v0 v1 v2 v3 v4 v5 v6 : Value) :
    SPN w (L.set i (R, #[v0, v1, v2, v3, v4, v5, v6], t)) (((((((w1.setCell ⟨R, 0, none⟩ v0).setCell ⟨R, 1, none⟩ v1).setCell ⟨R, 2, none⟩ v2).setCell ⟨R, 3, none⟩ v3).setCell ⟨R, 4, none⟩ v4).setCell ⟨R, 5, none⟩ v5).setCell ⟨R, 6, none⟩ v6) := by
  have hm := List.mem_of_getElem? hi
  have hR := h.2.2 _ hm
  have hset := sev_set (h.1.2 _ hm) v0 v1 v2 v3 v4 v5 v6
  have hgr := sev_grown w1 R v0 v1 v2 v3 v4 v5 v6
  have hil : i < L.length := (List.getElem?_eq_some_iff.1 hi).1
  have hmap : (L.set i (R, #[v0, v1, v2, v3, v4, v5, v6], t)).map (·.1) = L.map (·.1) := by
    rw [List.map_set]
    apply List.ext_getElem?
    intro j
    rw [List.getElem?_set]
    split
    · rename_i he
      subst he
      rw [List.getElem?_map, hi]
      simp [hil]
    · rfl
  refine ⟨⟨h.1.1.grown hgr h.1.1.size (fun k hk => by cases hk; exact hR), ?_⟩, by rw [hmap]; exact h.2.1, ?_⟩
  · intro p hp
    obtain ⟨j, hj⟩ := List.getElem?_of_mem hp
    rw [List.getElem?_set] at hj
    split at hj
    · rename_i he
      simp [hil] at hj
      obtain rfl := hj
      exact hset
    · rename_i hne
      have hpL := List.mem_of_getElem? hj
      have hd : p.1 ≠ R := fun e => by
        have hl := (List.getElem?_eq_some_iff.1 hj).1
        have h1 : (L.map (·.1))[i]? = some R := by rw [List.getElem?_map, hi]; rfl
        have h2 : (L.map (·.1))[j]? = some R := by rw [List.getElem?_map, hj]; simp [e]
        exact hne ((List.getElem?_inj (by simpa using hil) h.2.1).1 (h1.trans h2.symm))
      exact (hgr.block _ (lt_of_heap (h.1.2 p hpL)) (fun e => hd (by cases e; rfl))).trans (h.1.2 p hpL)
  · intro p hp
    have : p.1 ∈ L.map (·.1) := by rw [← hmap]; exact List.mem_map_of_mem hp
    obtain ⟨q, hq, e⟩ := List.mem_map.1 this
    rw [← e]; exact h.2.2 q hq
section
variable {P : Program} {ops : Array Oper} {Q : Exit → Act → World → Prop}
/-- A new block. -/
theorem fresh_ {oi : Oper} {N : Option Tmp} {a : Act} {w w0 : World} {K : Act → World → Prop} {L : List (Nat × Array Value × TypeId)} {c : Array Value} {t : TypeId} (hL : SPN w0 L w) (hw : Region.wanted oi (yielded ops a.tmps) = true) (hN : oi.dst = N)
    (hrun : (execOp a.eval oi).run P w = .ok (.value (.pointer (some ⟨w.heap.size, 0, none⟩))) (w.alloc (.cells c t))) (h : ∀ R w1, SPN w0 (L ++ [(R, c, t)]) w1 → K (a.put N (.pointer (some ⟨R, 0, none⟩))) w1) :
    if Region.wanted oi (yielded ops a.tmps) = true then Oper.wp P oi a w K Q else K (a.put N undef) w := value_ hw hN hrun (h _ _ (hL.more c t))
/-- A result is stored. -/
theorem put7_ {oi : Oper} {a : Act} {w w0 : World} {K : Act → World → Prop} {L : List (Nat × Array Value × TypeId)} {R : Nat} {c0 c1 c2 c3 c4 c5 c6 v0 v1 v2 v3 v4 v5 v6 : Value} {t : TypeId} (hL : SPN w0 L w) (i : Nat) (hi : L[i]? = some (R, #[c0, c1, c2, c3, c4, c5, c6], t)) (hw : Region.wanted oi (yielded ops a.tmps) = true) (hN : oi.dst = none)
    (hrun : (execOp a.eval oi).run P w = .ok .skip (((((((w.setCell ⟨R, 0, none⟩ v0).setCell ⟨R, 1, none⟩ v1).setCell ⟨R, 2, none⟩ v2).setCell ⟨R, 3, none⟩ v3).setCell ⟨R, 4, none⟩ v4).setCell ⟨R, 5, none⟩ v5).setCell ⟨R, 6, none⟩ v6)) (h : ∀ w1, SPN w0 (L.set i (R, #[v0, v1, v2, v3, v4, v5, v6], t)) w1 → K a w1) :
    if Region.wanted oi (yielded ops a.tmps) = true then Oper.wp P oi a w K Q else K (a.put none undef) w := skip_ hw hN hrun (h _ (hL.put i hi v0 v1 v2 v3 v4 v5 v6))
end
set_option maxRecDepth 100000 in
set_option maxHeartbeats 20000000 in
theorem fnAddNumbers_any (w : World) (hE : Env w) (xa : V) (hza : Sz xa) (Ka Ha : Int) (sa : ByteArray) (A3a A4a A5a : Option Addr) (n3a c3a n4a c4a n5a c5a : Nat) (hKa : k26.K w xa [.int .i64 Ka, .int .i64 Ha, .string sa, .slice A3a n3a c3a, .slice A4a n4a c4a, .slice A5a n5a c5a]) (xb : V) (hzb : Sz xb) (Kb Hb : Int) (sb : ByteArray) (A3b A4b A5b : Option Addr) (n3b c3b n4b c4b n5b c5b : Nat) (hKb : k26.K w xb [.int .i64 Kb, .int .i64 Hb, .string sb, .slice A3b n3b c3b, .slice A4b n4b c4b, .slice A5b n5b c5b]) (xc : V) (hzc : Sz xc) (Kc Hc : Int) (sc : ByteArray) (A3c A4c A5c : Option Addr) (n3c c3c n4c c4c n5c c5c : Nat) (hKc : k26.K w xc [.int .i64 Kc, .int .i64 Hc, .string sc, .slice A3c n3c c3c, .slice A4c n4c c4c, .slice A5c n5c c5c]) :
    Calls Tryz.prog 3 #[.agg #[.int .i64 Ka, .int .i64 Ha, .string sa, .slice A3a n3a c3a, .slice A4a n4a c4a, .slice A5a n5a c5a], .agg #[.int .i64 Kb, .int .i64 Hb, .string sb, .slice A3b n3b c3b, .slice A4b n4b c4b, .slice A5b n5b c5b], .agg #[.int .i64 Kc, .int .i64 Hc, .string sc, .slice A3c n3c c3c, .slice A4c n4c c4c, .slice A5c n5c c5c]] w fun e w' => e = .returned (.bool true) ∧ Below w.heap.size w w' := by
  have HFa := Lib.hid (fun w1 hb => fits1_any w xa Ka Ha sa A3a A4a A5a n3a c3a n4a c4a n5a c5a hKa w1 hb)
  have HUa := Lib.hid (fun w1 hb => num_any w hE xa hza Ka Ha sa A3a A4a A5a n3a c3a n4a c4a n5a c5a hKa 1125899906842624 (by omega) (by omega) w1 hb)
  have HFb := Lib.hid (fun w1 hb => fits1_any w xb Kb Hb sb A3b A4b A5b n3b c3b n4b c4b n5b c5b hKb w1 hb)
  have HUb := Lib.hid (fun w1 hb => num_any w hE xb hzb Kb Hb sb A3b A4b A5b n3b c3b n4b c4b n5b c5b hKb 1125899906842624 (by omega) (by omega) w1 hb)
  have HFc := Lib.hid (fun w1 hb => fits1_any w xc Kc Hc sc A3c A4c A5c n3c c3c n4c c4c n5c c5c hKc w1 hb)
  have HUc := Lib.hid (fun w1 hb => num_any w hE xc hzc Kc Hc sc A3c A4c A5c n3c c3c n4c c4c n5c c5c hKc 1125899906842624 (by omega) (by omega) w1 hb)
  clear hE hza hKa hzb hKb hzc hKc
  go_enter Tryz.func3, Tryz.ntmps3
  go_wp2_with fail
  obtain ⟨A, hA⟩ : ∃ A, A = w.heap.size := ⟨_, rfl⟩
  obtain ⟨B, hB⟩ : ∃ B, B = w.heap.size + 1 := ⟨_, rfl⟩
  obtain ⟨C, hC⟩ : ∃ C, C = w.heap.size + 1 + 1 := ⟨_, rfl⟩
  obtain ⟨W0, hW0⟩ : ∃ W0, W0 = ((w.alloc (.cells #[.int .i64 Ka, .int .i64 Ha, .string sa, .slice A3a n3a c3a, .slice A4a n4a c4a, .slice A5a n5a c5a] 26)).alloc (.cells #[.int .i64 Kb, .int .i64 Hb, .string sb, .slice A3b n3b c3b, .slice A4b n4b c4b, .slice A5b n5b c5b] 26)).alloc (.cells #[.int .i64 Kc, .int .i64 Hc, .string sc, .slice A3c n3c c3c, .slice A4c n4c c4c, .slice A5c n5c c5c] 26) := ⟨_, rfl⟩
  have hd0 : A ≠ B ∧ A ≠ C ∧ B ≠ C ∧ w.heap.size ≤ A ∧ w.heap.size ≤ B ∧ w.heap.size ≤ C := by omega
  have h0 : SPL w [(A, #[.int .i64 Ka, .int .i64 Ha, .string sa, .slice A3a n3a c3a, .slice A4a n4a c4a, .slice A5a n5a c5a], 26), (B, #[.int .i64 Kb, .int .i64 Hb, .string sb, .slice A3b n3b c3b, .slice A4b n4b c4b, .slice A5b n5b c5b], 26), (C, #[.int .i64 Kc, .int .i64 Hc, .string sc, .slice A3c n3c c3c, .slice A4c n4c c4c, .slice A5c n5c c5c], 26)] W0 := by rw [hA, hB, hC, hW0]; exact SPL.three w _ _ _ _ _ _
  rw [← hW0, ← hC, ← hB, ← hA]
  have H0 := Lib.hid h0
  have HD := Lib.hid hd0
  clear h0 hW0 hA hB hC hd0
  have y := six_cells (H0.out.get 0 rfl)
  go_wp2_with fail
  refine (HFa.out W0 H0.out.1).mono ?_
  rintro e w1 ⟨r, rfl, _, hb⟩
  have H1 := Lib.hid (H0.out.below hb)
  clear hb H0 y HFa
  cases r with
  | false =>
    go_wp2_with fail
    go_ret
    exact ⟨rfl, H1.out.1⟩
  | true =>
  have y := six_cells (H1.out.get 1 rfl)
  go_wp2_with fail
  refine (HFb.out w1 H1.out.1).mono ?_
  rintro e w2 ⟨r, rfl, _, hb⟩
  have H2 := Lib.hid (H1.out.below hb)
  clear hb H1 y HFb
  cases r with
  | false =>
    go_wp2_with fail
    go_ret
    exact ⟨rfl, H2.out.1⟩
  | true =>
  have y := six_cells (H2.out.get 2 rfl)
  go_wp2_with fail
  refine (HFc.out w2 H2.out.1).mono ?_
  rintro e w3 ⟨r, rfl, _, hb⟩
  have H3 := Lib.hid (H2.out.below hb)
  clear hb H2 y HFc
  cases r with
  | false =>
    go_wp2_with fail
    go_ret
    exact ⟨rfl, H3.out.1⟩
  | true =>
  have y := six_cells (H3.out.get 0 rfl)
  go_wp2_with fail
  refine (HUa.out w3 H3.out.1).mono ?_
  rintro e w4 ⟨r, rfl, hr, hb⟩
  have H4 := Lib.hid (H3.out.below hb)
  clear hb H3 y HUa
  cases r with
  | false =>
    go_wp2_with fail
    go_ret
    exact ⟨rfl, H4.out.1⟩
  | true =>
  obtain ⟨_, rfl, l3, u3⟩ := hr rfl
  clear hr
  have y := six_cells (H4.out.get 1 rfl)
  go_wp2_with fail
  refine (HUb.out w4 H4.out.1).mono ?_
  rintro e w5 ⟨r, rfl, hr, hb⟩
  have H5 := Lib.hid (H4.out.below hb)
  clear hb H4 y HUb
  cases r with
  | false =>
    go_wp2_with fail
    go_ret
    exact ⟨rfl, H5.out.1⟩
  | true =>
  obtain ⟨_, rfl, l4, u4⟩ := hr rfl
  clear hr
  have y := six_cells (H5.out.get 2 rfl)
  go_wp2_with fail
  refine (HUc.out w5 H5.out.1).mono ?_
  rintro e w6 ⟨r, rfl, hr, hb⟩
  have H6 := Lib.hid (H5.out.below hb)
  clear hb H5 y HUc
  cases r with
  | false =>
    go_wp2_with fail
    go_ret
    exact ⟨rfl, H6.out.1⟩
  | true =>
  obtain ⟨_, rfl, l5, u5⟩ := hr rfl
  clear hr
  have HAB := Lib.hid (fun w => impl_add Ha Hb ⟨sa, A3a, n3a, c3a, A4a, n4a, c4a, A5a, n5a, c5a⟩ ⟨sb, A3b, n3b, c3b, A4b, n4b, c4b, A5b, n5b, c5b⟩ (by omega) (by omega) (by omega) (by omega) (by omega) (by omega) w)
  simp only [vl, rv, r0, eq_self_iff_true, decide_true] at HAB
  have HBC := Lib.hid (fun w => impl_add Hb Hc ⟨sb, A3b, n3b, c3b, A4b, n4b, c4b, A5b, n5b, c5b⟩ ⟨sc, A3c, n3c, c3c, A4c, n4c, c4c, A5c, n5c, c5c⟩ (by omega) (by omega) (by omega) (by omega) (by omega) (by omega) w)
  simp only [vl, rv, r0, eq_self_iff_true, decide_true] at HBC
  have HBA := Lib.hid (fun w => impl_add Hb Ha ⟨sb, A3b, n3b, c3b, A4b, n4b, c4b, A5b, n5b, c5b⟩ ⟨sa, A3a, n3a, c3a, A4a, n4a, c4a, A5a, n5a, c5a⟩ (by omega) (by omega) (by omega) (by omega) (by omega) (by omega) w)
  simp only [vl, rv, r0, eq_self_iff_true, decide_true] at HBA
  rw [Int.add_comm Hb Ha] at HBA
  have HX := Lib.hid (fun w => impl_add (Ha + Hb) Hc r0 ⟨sc, A3c, n3c, c3c, A4c, n4c, c4c, A5c, n5c, c5c⟩ (by omega) (by omega) (by omega) (by omega) (by omega) (by omega) w)
  simp only [vl, rv, r0, eq_self_iff_true, decide_true] at HX
  have HY := Lib.hid (fun w => impl_add Ha (Hb + Hc) ⟨sa, A3a, n3a, c3a, A4a, n4a, c4a, A5a, n5a, c5a⟩ r0 (by omega) (by omega) (by omega) (by omega) (by omega) (by omega) w)
  simp only [vl, rv, r0, eq_self_iff_true, decide_true] at HY
  rw [← Int.add_assoc] at HY
  have HG1 := Lib.hid (fun w => given_num (Ha + Hb) (Ha + Hb) r0 r0 w (by omega) (by omega) (by omega) (by omega))
  simp only [vl, rv, r0, eq_self_iff_true, decide_true] at HG1
  have HG2 := Lib.hid (fun w => given_num (Ha + Hb + Hc) (Ha + Hb + Hc) r0 r0 w (by omega) (by omega) (by omega) (by omega))
  simp only [vl, rv, r0, eq_self_iff_true, decide_true] at HG2
  have HZ : Hid (SPN w [(A, #[.int .i64 3, .int .i64 Ha, .string sa, .slice A3a n3a c3a, .slice A4a n4a c4a, .slice A5a n5a c5a], 26), (B, #[.int .i64 3, .int .i64 Hb, .string sb, .slice A3b n3b c3b, .slice A4b n4b c4b, .slice A5b n5b c5b], 26), (C, #[.int .i64 3, .int .i64 Hc, .string sc, .slice A3c n3c c3c, .slice A4c n4c c4c, .slice A5c n5c c5c], 26)] w6) := Lib.hid ⟨H6.out, by have := HD.out; simp [this.1, this.2.1, this.2.2.1], by have := HD.out; intro p hp; simp at hp; rcases hp with rfl | rfl | rfl <;> simp [this]⟩
  clear l3 u3 l4 u4 l5 u5 H6 HD
  go_wp2_with fail
  refine start_ (n := 10) (S := fun w' => w'.cell? ⟨A, 0, none⟩ = some (.int .i64 3) ∧ w'.cell? ⟨A, 1, none⟩ = some (.int .i64 Ha) ∧ w'.cell? ⟨A, 2, none⟩ = some (.string sa) ∧ w'.cell? ⟨A, 3, none⟩ = some (.slice A3a n3a c3a) ∧ w'.cell? ⟨A, 4, none⟩ = some (.slice A4a n4a c4a) ∧ w'.cell? ⟨A, 5, none⟩ = some (.slice A5a n5a c5a) ∧ w'.cell? ⟨B, 0, none⟩ = some (.int .i64 3) ∧ w'.cell? ⟨B, 1, none⟩ = some (.int .i64 Hb) ∧ w'.cell? ⟨B, 2, none⟩ = some (.string sb) ∧ w'.cell? ⟨B, 3, none⟩ = some (.slice A3b n3b c3b) ∧ w'.cell? ⟨B, 4, none⟩ = some (.slice A4b n4b c4b) ∧ w'.cell? ⟨B, 5, none⟩ = some (.slice A5b n5b c5b) ∧ w'.cell? ⟨C, 0, none⟩ = some (.int .i64 3) ∧ w'.cell? ⟨C, 1, none⟩ = some (.int .i64 Hc) ∧ w'.cell? ⟨C, 2, none⟩ = some (.string sc) ∧ w'.cell? ⟨C, 3, none⟩ = some (.slice A3c n3c c3c) ∧ w'.cell? ⟨C, 4, none⟩ = some (.slice A4c n4c c4c) ∧ w'.cell? ⟨C, 5, none⟩ = some (.slice A5c n5c c5c) ∧ SPN w [(A, #[.int .i64 3, .int .i64 Ha, .string sa, .slice A3a n3a c3a, .slice A4a n4a c4a, .slice A5a n5a c5a], 26), (B, #[.int .i64 3, .int .i64 Hb, .string sb, .slice A3b n3b c3b, .slice A4b n4b c4b, .slice A5b n5b c5b], 26), (C, #[.int .i64 3, .int .i64 Hc, .string sc, .slice A3c n3c c3c, .slice A4c n4c c4c, .slice A5c n5c c5c], 26)] w') (ds := []) #[false, false, false, false, false, false, false, false, false, false] (by kernel_rfl) rfl rfl ⟨((six_cells ((SPN.drew HZ.out).1.get 0 rfl)).1), ((six_cells ((SPN.drew HZ.out).1.get 0 rfl)).2.1), ((six_cells ((SPN.drew HZ.out).1.get 0 rfl)).2.2.1), ((six_cells ((SPN.drew HZ.out).1.get 0 rfl)).2.2.2.1), ((six_cells ((SPN.drew HZ.out).1.get 0 rfl)).2.2.2.2.1), ((six_cells ((SPN.drew HZ.out).1.get 0 rfl)).2.2.2.2.2.1), ((six_cells ((SPN.drew HZ.out).1.get 1 rfl)).1), ((six_cells ((SPN.drew HZ.out).1.get 1 rfl)).2.1), ((six_cells ((SPN.drew HZ.out).1.get 1 rfl)).2.2.1), ((six_cells ((SPN.drew HZ.out).1.get 1 rfl)).2.2.2.1), ((six_cells ((SPN.drew HZ.out).1.get 1 rfl)).2.2.2.2.1), ((six_cells ((SPN.drew HZ.out).1.get 1 rfl)).2.2.2.2.2.1), ((six_cells ((SPN.drew HZ.out).1.get 2 rfl)).1), ((six_cells ((SPN.drew HZ.out).1.get 2 rfl)).2.1), ((six_cells ((SPN.drew HZ.out).1.get 2 rfl)).2.2.1), ((six_cells ((SPN.drew HZ.out).1.get 2 rfl)).2.2.2.1), ((six_cells ((SPN.drew HZ.out).1.get 2 rfl)).2.2.2.2.1), ((six_cells ((SPN.drew HZ.out).1.get 2 rfl)).2.2.2.2.2.1), (SPN.drew HZ.out)⟩ (fun hHeld => ?_)
  refine take_ (i := 0) (N := some 35) (v := ?_) (a' := ?_) #[true, false, false, false, false, false, false, false, false, false] rfl rfl (by kernel_rfl) (fun _ _ _ h => h) (Or.inl ⟨by rfl, ?_⟩) hHeld ?_ ?_
  rotate_left
  · rintro w' ⟨s0, s1, s2, s3, s4, s5, s6, s7, s8, s9, s10, s11, s12, s13, s14, s15, s16, s17, s18⟩
    go_simp
    with_reducible rfl
  rotate_left
  · simp only [Act.put, List.setIfInBounds_toArray, List.set_cons_zero, List.set_cons_succ, i64_w, i32_w]
    rfl
  refine take_ (i := 1) (N := some 36) (v := ?_) (a' := ?_) #[true, true, false, false, false, false, false, false, false, false] rfl rfl (by kernel_rfl) (fun _ _ _ h => h) (Or.inl ⟨by rfl, ?_⟩) hHeld ?_ ?_
  rotate_left
  · rintro w' ⟨s0, s1, s2, s3, s4, s5, s6, s7, s8, s9, s10, s11, s12, s13, s14, s15, s16, s17, s18⟩
    go_simp
    with_reducible rfl
  rotate_left
  · simp only [Act.put, List.setIfInBounds_toArray, List.set_cons_zero, List.set_cons_succ, i64_w, i32_w]
    rfl
  refine take_ (i := 3) (N := some 38) (v := ?_) (a' := ?_) #[true, true, false, true, false, false, false, false, false, false] rfl rfl (by kernel_rfl) (fun _ _ _ h => h) (Or.inl ⟨by rfl, ?_⟩) hHeld ?_ ?_
  rotate_left
  · rintro w' ⟨s0, s1, s2, s3, s4, s5, s6, s7, s8, s9, s10, s11, s12, s13, s14, s15, s16, s17, s18⟩
    go_simp
    with_reducible rfl
  rotate_left
  · simp only [Act.put, List.setIfInBounds_toArray, List.set_cons_zero, List.set_cons_succ, i64_w, i32_w]
    rfl
  refine take_ (i := 4) (N := some 39) (v := ?_) (a' := ?_) #[true, true, false, true, true, false, false, false, false, false] rfl rfl (by kernel_rfl) (fun _ _ _ h => h) (Or.inl ⟨by rfl, ?_⟩) hHeld ?_ ?_
  rotate_left
  · rintro w' ⟨s0, s1, s2, s3, s4, s5, s6, s7, s8, s9, s10, s11, s12, s13, s14, s15, s16, s17, s18⟩
    go_simp
    with_reducible rfl
  rotate_left
  · simp only [Act.put, List.setIfInBounds_toArray, List.set_cons_zero, List.set_cons_succ, i64_w, i32_w]
    rfl
  refine join_ (σ := Nat × Nat) 2 #[true, true, true, true, true, true, true, true, false, false] (fun s => [(37, .agg #[.int .i64 3, .int .i64 (Ha + Hb), .string ⟨#[]⟩, .slice none 0 0, .slice none 0 0, .slice none 0 0, .int .i64 0]), (40, .agg #[.int .i64 3, .int .i64 (Hb + Hc), .string ⟨#[]⟩, .slice none 0 0, .slice none 0 0, .slice none 0 0, .int .i64 0]), (7, .pointer (some ⟨s.1, 0, none⟩)), (8, .pointer (some ⟨s.2, 0, none⟩))]) (fun s w' => SPN w [(A, #[.int .i64 3, .int .i64 Ha, .string sa, .slice A3a n3a c3a, .slice A4a n4a c4a, .slice A5a n5a c5a], 26), (B, #[.int .i64 3, .int .i64 Hb, .string sb, .slice A3b n3b c3b, .slice A4b n4b c4b, .slice A5b n5b c5b], 26), (C, #[.int .i64 3, .int .i64 Hc, .string sc, .slice A3c n3c c3c, .slice A4c n4c c4c, .slice A5c n5c c5c], 26), (s.1, #[.int .i64 0, .int .i64 0, .string ⟨#[]⟩, .slice none 0 0, .slice none 0 0, .slice none 0 0, .int .i64 0], 30), (s.2, #[.int .i64 0, .int .i64 0, .string ⟨#[]⟩, .slice none 0 0, .slice none 0 0, .slice none 0 0, .int .i64 0], 30)] w') ?_ ?_
  rotate_left
  · intro hCont
    refine three_ (i := 2) (j := 6) (k := 7) (Ni := some 37) (Nj := some 7) (Nk := some 8) #[true, true, true, true, true, false, false, false, false, false] #[true, true, false, true, true, false, true, false, false, false] #[true, true, false, true, true, false, false, true, false, false] rfl rfl rfl rfl rfl rfl (by kernel_rfl) (by decide) (by decide) (by decide) (fun K hK => ?_) (fun K hK => ?_) (fun K hK => ?_)
    · skip
      refine goes_ Tryz.func17 (by kernel_rfl) rfl #[.agg #[.int .i64 3, .int .i64 Ha, .string sa, .slice A3a n3a c3a, .slice A4a n4a c4a, .slice A5a n5a c5a], .agg #[.int .i64 3, .int .i64 Hb, .string sb, .slice A3b n3b c3b, .slice A4b n4b c4b, .slice A5b n5b c5b]] (by rfl) rfl rfl (by simp only [List.map_toArray, List.map_cons, List.map_nil]; rfl) ?_
      with_reducible refine ((HAB.out _)).mono ?_
      rintro e w11 ⟨rfl, hb⟩
      refine ⟨_, rfl, ?_⟩
      have hz1 := SPN.below (hHeld.2.2.2.2.2.2.2.2.2.2.2.2.2.2.2.2.2.2) hb
      clear hb
      refine hK.out _ _ ⟨((six_cells ((SPN.pre3 hz1).1.get 0 rfl)).1), ((six_cells ((SPN.pre3 hz1).1.get 0 rfl)).2.1), ((six_cells ((SPN.pre3 hz1).1.get 0 rfl)).2.2.1), ((six_cells ((SPN.pre3 hz1).1.get 0 rfl)).2.2.2.1), ((six_cells ((SPN.pre3 hz1).1.get 0 rfl)).2.2.2.2.1), ((six_cells ((SPN.pre3 hz1).1.get 0 rfl)).2.2.2.2.2.1), ((six_cells ((SPN.pre3 hz1).1.get 1 rfl)).1), ((six_cells ((SPN.pre3 hz1).1.get 1 rfl)).2.1), ((six_cells ((SPN.pre3 hz1).1.get 1 rfl)).2.2.1), ((six_cells ((SPN.pre3 hz1).1.get 1 rfl)).2.2.2.1), ((six_cells ((SPN.pre3 hz1).1.get 1 rfl)).2.2.2.2.1), ((six_cells ((SPN.pre3 hz1).1.get 1 rfl)).2.2.2.2.2.1), ((six_cells ((SPN.pre3 hz1).1.get 2 rfl)).1), ((six_cells ((SPN.pre3 hz1).1.get 2 rfl)).2.1), ((six_cells ((SPN.pre3 hz1).1.get 2 rfl)).2.2.1), ((six_cells ((SPN.pre3 hz1).1.get 2 rfl)).2.2.2.1), ((six_cells ((SPN.pre3 hz1).1.get 2 rfl)).2.2.2.2.1), ((six_cells ((SPN.pre3 hz1).1.get 2 rfl)).2.2.2.2.2.1), (SPN.pre3 hz1)⟩ (fun hHeld => ?_)
      clear hK K
      refine norm_ (a' := ?_) ?_ ?_
      rotate_left
      · show Act.put _ (some 37) _ = _
        simp only [Act.put, List.setIfInBounds_toArray, List.set_cons_zero, List.set_cons_succ, i64_w, i32_w]
        rfl
      refine three_ (i := 5) (j := 6) (k := 7) (Ni := some 40) (Nj := some 7) (Nk := some 8) #[true, true, true, true, true, true, false, false, false, false] #[true, true, true, true, true, false, true, false, false, false] #[true, true, true, true, true, false, false, true, false, false] rfl rfl rfl rfl rfl rfl (by kernel_rfl) (by decide) (by decide) (by decide) (fun K hK => ?_) (fun K hK => ?_) (fun K hK => ?_)
      · skip
        refine goes_ Tryz.func17 (by kernel_rfl) rfl #[.agg #[.int .i64 3, .int .i64 Hb, .string sb, .slice A3b n3b c3b, .slice A4b n4b c4b, .slice A5b n5b c5b], .agg #[.int .i64 3, .int .i64 Hc, .string sc, .slice A3c n3c c3c, .slice A4c n4c c4c, .slice A5c n5c c5c]] (by rfl) rfl rfl (by simp only [List.map_toArray, List.map_cons, List.map_nil]; rfl) ?_
        with_reducible refine ((HBC.out _)).mono ?_
        rintro e w12 ⟨rfl, hb⟩
        refine ⟨_, rfl, ?_⟩
        have hz2 := SPN.below (hz1) hb
        clear hb
        refine hK.out _ _ ⟨((six_cells ((SPN.pre3 hz2).1.get 0 rfl)).1), ((six_cells ((SPN.pre3 hz2).1.get 0 rfl)).2.1), ((six_cells ((SPN.pre3 hz2).1.get 0 rfl)).2.2.1), ((six_cells ((SPN.pre3 hz2).1.get 0 rfl)).2.2.2.1), ((six_cells ((SPN.pre3 hz2).1.get 0 rfl)).2.2.2.2.1), ((six_cells ((SPN.pre3 hz2).1.get 0 rfl)).2.2.2.2.2.1), ((six_cells ((SPN.pre3 hz2).1.get 1 rfl)).1), ((six_cells ((SPN.pre3 hz2).1.get 1 rfl)).2.1), ((six_cells ((SPN.pre3 hz2).1.get 1 rfl)).2.2.1), ((six_cells ((SPN.pre3 hz2).1.get 1 rfl)).2.2.2.1), ((six_cells ((SPN.pre3 hz2).1.get 1 rfl)).2.2.2.2.1), ((six_cells ((SPN.pre3 hz2).1.get 1 rfl)).2.2.2.2.2.1), ((six_cells ((SPN.pre3 hz2).1.get 2 rfl)).1), ((six_cells ((SPN.pre3 hz2).1.get 2 rfl)).2.1), ((six_cells ((SPN.pre3 hz2).1.get 2 rfl)).2.2.1), ((six_cells ((SPN.pre3 hz2).1.get 2 rfl)).2.2.2.1), ((six_cells ((SPN.pre3 hz2).1.get 2 rfl)).2.2.2.2.1), ((six_cells ((SPN.pre3 hz2).1.get 2 rfl)).2.2.2.2.2.1), (SPN.pre3 hz2)⟩ (fun hHeld => ?_)
        clear hK K
        refine norm_ (a' := ?_) ?_ ?_
        rotate_left
        · show Act.put _ (some 40) _ = _
          simp only [Act.put, List.setIfInBounds_toArray, List.set_cons_zero, List.set_cons_succ, i64_w, i32_w]
          rfl
        refine two_ (i := 6) (j := 7) (Ni := some 7) (Nj := some 8) #[true, true, true, true, true, true, true, false, false, false] #[true, true, true, true, true, true, false, true, false, false] rfl rfl rfl rfl (by kernel_rfl) (by decide) (by decide) (fun K hK => ?_) (fun K hK => ?_)
        · skip
          refine fresh_ (c := #[.int .i64 0, .int .i64 0, .string ⟨#[]⟩, .slice none 0 0, .slice none 0 0, .slice none 0 0, .int .i64 0]) (t := 30) (hz2) (by rfl) rfl ?_ ?_
          · first | (go_simp; done) | (go_simp; rfl)
          intro R6 w13 hz3
          refine hK.out _ _ ⟨((six_cells ((SPN.pre3 hz3).1.get 0 rfl)).1), ((six_cells ((SPN.pre3 hz3).1.get 0 rfl)).2.1), ((six_cells ((SPN.pre3 hz3).1.get 0 rfl)).2.2.1), ((six_cells ((SPN.pre3 hz3).1.get 0 rfl)).2.2.2.1), ((six_cells ((SPN.pre3 hz3).1.get 0 rfl)).2.2.2.2.1), ((six_cells ((SPN.pre3 hz3).1.get 0 rfl)).2.2.2.2.2.1), ((six_cells ((SPN.pre3 hz3).1.get 1 rfl)).1), ((six_cells ((SPN.pre3 hz3).1.get 1 rfl)).2.1), ((six_cells ((SPN.pre3 hz3).1.get 1 rfl)).2.2.1), ((six_cells ((SPN.pre3 hz3).1.get 1 rfl)).2.2.2.1), ((six_cells ((SPN.pre3 hz3).1.get 1 rfl)).2.2.2.2.1), ((six_cells ((SPN.pre3 hz3).1.get 1 rfl)).2.2.2.2.2.1), ((six_cells ((SPN.pre3 hz3).1.get 2 rfl)).1), ((six_cells ((SPN.pre3 hz3).1.get 2 rfl)).2.1), ((six_cells ((SPN.pre3 hz3).1.get 2 rfl)).2.2.1), ((six_cells ((SPN.pre3 hz3).1.get 2 rfl)).2.2.2.1), ((six_cells ((SPN.pre3 hz3).1.get 2 rfl)).2.2.2.2.1), ((six_cells ((SPN.pre3 hz3).1.get 2 rfl)).2.2.2.2.2.1), (SPN.pre3 hz3)⟩ (fun hHeld => ?_)
          clear hK K
          refine norm_ (a' := ?_) ?_ ?_
          rotate_left
          · show Act.put _ (some 7) _ = _
            simp only [Act.put, List.setIfInBounds_toArray, List.set_cons_zero, List.set_cons_succ, i64_w, i32_w]
            rfl
          refine one_ (i := 7) (N := some 8) #[true, true, true, true, true, true, true, true, false, false] rfl rfl (by kernel_rfl) (by decide) (fun K hK => ?_)
          refine fresh_ (c := #[.int .i64 0, .int .i64 0, .string ⟨#[]⟩, .slice none 0 0, .slice none 0 0, .slice none 0 0, .int .i64 0]) (t := 30) (hz3) (by rfl) rfl ?_ ?_
          · first | (go_simp; done) | (go_simp; rfl)
          intro R7 w14 hz4
          refine hK.out _ _ ⟨((six_cells ((SPN.pre3 hz4).1.get 0 rfl)).1), ((six_cells ((SPN.pre3 hz4).1.get 0 rfl)).2.1), ((six_cells ((SPN.pre3 hz4).1.get 0 rfl)).2.2.1), ((six_cells ((SPN.pre3 hz4).1.get 0 rfl)).2.2.2.1), ((six_cells ((SPN.pre3 hz4).1.get 0 rfl)).2.2.2.2.1), ((six_cells ((SPN.pre3 hz4).1.get 0 rfl)).2.2.2.2.2.1), ((six_cells ((SPN.pre3 hz4).1.get 1 rfl)).1), ((six_cells ((SPN.pre3 hz4).1.get 1 rfl)).2.1), ((six_cells ((SPN.pre3 hz4).1.get 1 rfl)).2.2.1), ((six_cells ((SPN.pre3 hz4).1.get 1 rfl)).2.2.2.1), ((six_cells ((SPN.pre3 hz4).1.get 1 rfl)).2.2.2.2.1), ((six_cells ((SPN.pre3 hz4).1.get 1 rfl)).2.2.2.2.2.1), ((six_cells ((SPN.pre3 hz4).1.get 2 rfl)).1), ((six_cells ((SPN.pre3 hz4).1.get 2 rfl)).2.1), ((six_cells ((SPN.pre3 hz4).1.get 2 rfl)).2.2.1), ((six_cells ((SPN.pre3 hz4).1.get 2 rfl)).2.2.2.1), ((six_cells ((SPN.pre3 hz4).1.get 2 rfl)).2.2.2.2.1), ((six_cells ((SPN.pre3 hz4).1.get 2 rfl)).2.2.2.2.2.1), (SPN.pre3 hz4)⟩ (fun hHeld => ?_)
          clear hK K
          refine norm_ (a' := ?_) ?_ ?_
          rotate_left
          · show Act.put _ (some 8) _ = _
            simp only [Act.put, List.setIfInBounds_toArray, List.set_cons_zero, List.set_cons_succ, i64_w, i32_w]
            rfl
          exact norm_ (by first | (simp only [putAll, Act.put, List.setIfInBounds_toArray, List.set_cons_zero, List.set_cons_succ]; done) | (simp only [putAll, Act.put, List.setIfInBounds_toArray, List.set_cons_zero, List.set_cons_succ, World.size_alloc]; done) | (simp only [putAll, Act.put, List.setIfInBounds_toArray, List.set_cons_zero, List.set_cons_succ, World.size_alloc]; rfl)) (hCont (R6, R7) _ hz4)
        · skip
          refine fresh_ (c := #[.int .i64 0, .int .i64 0, .string ⟨#[]⟩, .slice none 0 0, .slice none 0 0, .slice none 0 0, .int .i64 0]) (t := 30) (hz2) (by rfl) rfl ?_ ?_
          · first | (go_simp; done) | (go_simp; rfl)
          intro R7 w13 hz3
          refine hK.out _ _ ⟨((six_cells ((SPN.pre3 hz3).1.get 0 rfl)).1), ((six_cells ((SPN.pre3 hz3).1.get 0 rfl)).2.1), ((six_cells ((SPN.pre3 hz3).1.get 0 rfl)).2.2.1), ((six_cells ((SPN.pre3 hz3).1.get 0 rfl)).2.2.2.1), ((six_cells ((SPN.pre3 hz3).1.get 0 rfl)).2.2.2.2.1), ((six_cells ((SPN.pre3 hz3).1.get 0 rfl)).2.2.2.2.2.1), ((six_cells ((SPN.pre3 hz3).1.get 1 rfl)).1), ((six_cells ((SPN.pre3 hz3).1.get 1 rfl)).2.1), ((six_cells ((SPN.pre3 hz3).1.get 1 rfl)).2.2.1), ((six_cells ((SPN.pre3 hz3).1.get 1 rfl)).2.2.2.1), ((six_cells ((SPN.pre3 hz3).1.get 1 rfl)).2.2.2.2.1), ((six_cells ((SPN.pre3 hz3).1.get 1 rfl)).2.2.2.2.2.1), ((six_cells ((SPN.pre3 hz3).1.get 2 rfl)).1), ((six_cells ((SPN.pre3 hz3).1.get 2 rfl)).2.1), ((six_cells ((SPN.pre3 hz3).1.get 2 rfl)).2.2.1), ((six_cells ((SPN.pre3 hz3).1.get 2 rfl)).2.2.2.1), ((six_cells ((SPN.pre3 hz3).1.get 2 rfl)).2.2.2.2.1), ((six_cells ((SPN.pre3 hz3).1.get 2 rfl)).2.2.2.2.2.1), (SPN.pre3 hz3)⟩ (fun hHeld => ?_)
          clear hK K
          refine norm_ (a' := ?_) ?_ ?_
          rotate_left
          · show Act.put _ (some 8) _ = _
            simp only [Act.put, List.setIfInBounds_toArray, List.set_cons_zero, List.set_cons_succ, i64_w, i32_w]
            rfl
          refine one_ (i := 6) (N := some 7) #[true, true, true, true, true, true, true, true, false, false] rfl rfl (by kernel_rfl) (by decide) (fun K hK => ?_)
          refine fresh_ (c := #[.int .i64 0, .int .i64 0, .string ⟨#[]⟩, .slice none 0 0, .slice none 0 0, .slice none 0 0, .int .i64 0]) (t := 30) (hz3) (by rfl) rfl ?_ ?_
          · first | (go_simp; done) | (go_simp; rfl)
          intro R6 w14 hz4
          refine hK.out _ _ ⟨((six_cells ((SPN.pre3 hz4).1.get 0 rfl)).1), ((six_cells ((SPN.pre3 hz4).1.get 0 rfl)).2.1), ((six_cells ((SPN.pre3 hz4).1.get 0 rfl)).2.2.1), ((six_cells ((SPN.pre3 hz4).1.get 0 rfl)).2.2.2.1), ((six_cells ((SPN.pre3 hz4).1.get 0 rfl)).2.2.2.2.1), ((six_cells ((SPN.pre3 hz4).1.get 0 rfl)).2.2.2.2.2.1), ((six_cells ((SPN.pre3 hz4).1.get 1 rfl)).1), ((six_cells ((SPN.pre3 hz4).1.get 1 rfl)).2.1), ((six_cells ((SPN.pre3 hz4).1.get 1 rfl)).2.2.1), ((six_cells ((SPN.pre3 hz4).1.get 1 rfl)).2.2.2.1), ((six_cells ((SPN.pre3 hz4).1.get 1 rfl)).2.2.2.2.1), ((six_cells ((SPN.pre3 hz4).1.get 1 rfl)).2.2.2.2.2.1), ((six_cells ((SPN.pre3 hz4).1.get 2 rfl)).1), ((six_cells ((SPN.pre3 hz4).1.get 2 rfl)).2.1), ((six_cells ((SPN.pre3 hz4).1.get 2 rfl)).2.2.1), ((six_cells ((SPN.pre3 hz4).1.get 2 rfl)).2.2.2.1), ((six_cells ((SPN.pre3 hz4).1.get 2 rfl)).2.2.2.2.1), ((six_cells ((SPN.pre3 hz4).1.get 2 rfl)).2.2.2.2.2.1), (SPN.pre3 hz4)⟩ (fun hHeld => ?_)
          clear hK K
          refine norm_ (a' := ?_) ?_ ?_
          rotate_left
          · show Act.put _ (some 7) _ = _
            simp only [Act.put, List.setIfInBounds_toArray, List.set_cons_zero, List.set_cons_succ, i64_w, i32_w]
            rfl
          exact norm_ (by first | (simp only [putAll, Act.put, List.setIfInBounds_toArray, List.set_cons_zero, List.set_cons_succ]; done) | (simp only [putAll, Act.put, List.setIfInBounds_toArray, List.set_cons_zero, List.set_cons_succ, World.size_alloc]; done) | (simp only [putAll, Act.put, List.setIfInBounds_toArray, List.set_cons_zero, List.set_cons_succ, World.size_alloc]; rfl)) (hCont (R6, R7) _ (SPN.swap hz4))
      · skip
        refine fresh_ (c := #[.int .i64 0, .int .i64 0, .string ⟨#[]⟩, .slice none 0 0, .slice none 0 0, .slice none 0 0, .int .i64 0]) (t := 30) (hz1) (by rfl) rfl ?_ ?_
        · first | (go_simp; done) | (go_simp; rfl)
        intro R6 w12 hz2
        refine hK.out _ _ ⟨((six_cells ((SPN.pre3 hz2).1.get 0 rfl)).1), ((six_cells ((SPN.pre3 hz2).1.get 0 rfl)).2.1), ((six_cells ((SPN.pre3 hz2).1.get 0 rfl)).2.2.1), ((six_cells ((SPN.pre3 hz2).1.get 0 rfl)).2.2.2.1), ((six_cells ((SPN.pre3 hz2).1.get 0 rfl)).2.2.2.2.1), ((six_cells ((SPN.pre3 hz2).1.get 0 rfl)).2.2.2.2.2.1), ((six_cells ((SPN.pre3 hz2).1.get 1 rfl)).1), ((six_cells ((SPN.pre3 hz2).1.get 1 rfl)).2.1), ((six_cells ((SPN.pre3 hz2).1.get 1 rfl)).2.2.1), ((six_cells ((SPN.pre3 hz2).1.get 1 rfl)).2.2.2.1), ((six_cells ((SPN.pre3 hz2).1.get 1 rfl)).2.2.2.2.1), ((six_cells ((SPN.pre3 hz2).1.get 1 rfl)).2.2.2.2.2.1), ((six_cells ((SPN.pre3 hz2).1.get 2 rfl)).1), ((six_cells ((SPN.pre3 hz2).1.get 2 rfl)).2.1), ((six_cells ((SPN.pre3 hz2).1.get 2 rfl)).2.2.1), ((six_cells ((SPN.pre3 hz2).1.get 2 rfl)).2.2.2.1), ((six_cells ((SPN.pre3 hz2).1.get 2 rfl)).2.2.2.2.1), ((six_cells ((SPN.pre3 hz2).1.get 2 rfl)).2.2.2.2.2.1), (SPN.pre3 hz2)⟩ (fun hHeld => ?_)
        clear hK K
        refine norm_ (a' := ?_) ?_ ?_
        rotate_left
        · show Act.put _ (some 7) _ = _
          simp only [Act.put, List.setIfInBounds_toArray, List.set_cons_zero, List.set_cons_succ, i64_w, i32_w]
          rfl
        refine two_ (i := 5) (j := 7) (Ni := some 40) (Nj := some 8) #[true, true, true, true, true, true, true, false, false, false] #[true, true, true, true, true, false, true, true, false, false] rfl rfl rfl rfl (by kernel_rfl) (by decide) (by decide) (fun K hK => ?_) (fun K hK => ?_)
        · skip
          refine goes_ Tryz.func17 (by kernel_rfl) rfl #[.agg #[.int .i64 3, .int .i64 Hb, .string sb, .slice A3b n3b c3b, .slice A4b n4b c4b, .slice A5b n5b c5b], .agg #[.int .i64 3, .int .i64 Hc, .string sc, .slice A3c n3c c3c, .slice A4c n4c c4c, .slice A5c n5c c5c]] (by rfl) rfl rfl (by simp only [List.map_toArray, List.map_cons, List.map_nil]; rfl) ?_
          with_reducible refine ((HBC.out _)).mono ?_
          rintro e w13 ⟨rfl, hb⟩
          refine ⟨_, rfl, ?_⟩
          have hz3 := SPN.below (hz2) hb
          clear hb
          refine hK.out _ _ ⟨((six_cells ((SPN.pre3 hz3).1.get 0 rfl)).1), ((six_cells ((SPN.pre3 hz3).1.get 0 rfl)).2.1), ((six_cells ((SPN.pre3 hz3).1.get 0 rfl)).2.2.1), ((six_cells ((SPN.pre3 hz3).1.get 0 rfl)).2.2.2.1), ((six_cells ((SPN.pre3 hz3).1.get 0 rfl)).2.2.2.2.1), ((six_cells ((SPN.pre3 hz3).1.get 0 rfl)).2.2.2.2.2.1), ((six_cells ((SPN.pre3 hz3).1.get 1 rfl)).1), ((six_cells ((SPN.pre3 hz3).1.get 1 rfl)).2.1), ((six_cells ((SPN.pre3 hz3).1.get 1 rfl)).2.2.1), ((six_cells ((SPN.pre3 hz3).1.get 1 rfl)).2.2.2.1), ((six_cells ((SPN.pre3 hz3).1.get 1 rfl)).2.2.2.2.1), ((six_cells ((SPN.pre3 hz3).1.get 1 rfl)).2.2.2.2.2.1), ((six_cells ((SPN.pre3 hz3).1.get 2 rfl)).1), ((six_cells ((SPN.pre3 hz3).1.get 2 rfl)).2.1), ((six_cells ((SPN.pre3 hz3).1.get 2 rfl)).2.2.1), ((six_cells ((SPN.pre3 hz3).1.get 2 rfl)).2.2.2.1), ((six_cells ((SPN.pre3 hz3).1.get 2 rfl)).2.2.2.2.1), ((six_cells ((SPN.pre3 hz3).1.get 2 rfl)).2.2.2.2.2.1), (SPN.pre3 hz3)⟩ (fun hHeld => ?_)
          clear hK K
          refine norm_ (a' := ?_) ?_ ?_
          rotate_left
          · show Act.put _ (some 40) _ = _
            simp only [Act.put, List.setIfInBounds_toArray, List.set_cons_zero, List.set_cons_succ, i64_w, i32_w]
            rfl
          refine one_ (i := 7) (N := some 8) #[true, true, true, true, true, true, true, true, false, false] rfl rfl (by kernel_rfl) (by decide) (fun K hK => ?_)
          refine fresh_ (c := #[.int .i64 0, .int .i64 0, .string ⟨#[]⟩, .slice none 0 0, .slice none 0 0, .slice none 0 0, .int .i64 0]) (t := 30) (hz3) (by rfl) rfl ?_ ?_
          · first | (go_simp; done) | (go_simp; rfl)
          intro R7 w14 hz4
          refine hK.out _ _ ⟨((six_cells ((SPN.pre3 hz4).1.get 0 rfl)).1), ((six_cells ((SPN.pre3 hz4).1.get 0 rfl)).2.1), ((six_cells ((SPN.pre3 hz4).1.get 0 rfl)).2.2.1), ((six_cells ((SPN.pre3 hz4).1.get 0 rfl)).2.2.2.1), ((six_cells ((SPN.pre3 hz4).1.get 0 rfl)).2.2.2.2.1), ((six_cells ((SPN.pre3 hz4).1.get 0 rfl)).2.2.2.2.2.1), ((six_cells ((SPN.pre3 hz4).1.get 1 rfl)).1), ((six_cells ((SPN.pre3 hz4).1.get 1 rfl)).2.1), ((six_cells ((SPN.pre3 hz4).1.get 1 rfl)).2.2.1), ((six_cells ((SPN.pre3 hz4).1.get 1 rfl)).2.2.2.1), ((six_cells ((SPN.pre3 hz4).1.get 1 rfl)).2.2.2.2.1), ((six_cells ((SPN.pre3 hz4).1.get 1 rfl)).2.2.2.2.2.1), ((six_cells ((SPN.pre3 hz4).1.get 2 rfl)).1), ((six_cells ((SPN.pre3 hz4).1.get 2 rfl)).2.1), ((six_cells ((SPN.pre3 hz4).1.get 2 rfl)).2.2.1), ((six_cells ((SPN.pre3 hz4).1.get 2 rfl)).2.2.2.1), ((six_cells ((SPN.pre3 hz4).1.get 2 rfl)).2.2.2.2.1), ((six_cells ((SPN.pre3 hz4).1.get 2 rfl)).2.2.2.2.2.1), (SPN.pre3 hz4)⟩ (fun hHeld => ?_)
          clear hK K
          refine norm_ (a' := ?_) ?_ ?_
          rotate_left
          · show Act.put _ (some 8) _ = _
            simp only [Act.put, List.setIfInBounds_toArray, List.set_cons_zero, List.set_cons_succ, i64_w, i32_w]
            rfl
          exact norm_ (by first | (simp only [putAll, Act.put, List.setIfInBounds_toArray, List.set_cons_zero, List.set_cons_succ]; done) | (simp only [putAll, Act.put, List.setIfInBounds_toArray, List.set_cons_zero, List.set_cons_succ, World.size_alloc]; done) | (simp only [putAll, Act.put, List.setIfInBounds_toArray, List.set_cons_zero, List.set_cons_succ, World.size_alloc]; rfl)) (hCont (R6, R7) _ hz4)
        · skip
          refine fresh_ (c := #[.int .i64 0, .int .i64 0, .string ⟨#[]⟩, .slice none 0 0, .slice none 0 0, .slice none 0 0, .int .i64 0]) (t := 30) (hz2) (by rfl) rfl ?_ ?_
          · first | (go_simp; done) | (go_simp; rfl)
          intro R7 w13 hz3
          refine hK.out _ _ ⟨((six_cells ((SPN.pre3 hz3).1.get 0 rfl)).1), ((six_cells ((SPN.pre3 hz3).1.get 0 rfl)).2.1), ((six_cells ((SPN.pre3 hz3).1.get 0 rfl)).2.2.1), ((six_cells ((SPN.pre3 hz3).1.get 0 rfl)).2.2.2.1), ((six_cells ((SPN.pre3 hz3).1.get 0 rfl)).2.2.2.2.1), ((six_cells ((SPN.pre3 hz3).1.get 0 rfl)).2.2.2.2.2.1), ((six_cells ((SPN.pre3 hz3).1.get 1 rfl)).1), ((six_cells ((SPN.pre3 hz3).1.get 1 rfl)).2.1), ((six_cells ((SPN.pre3 hz3).1.get 1 rfl)).2.2.1), ((six_cells ((SPN.pre3 hz3).1.get 1 rfl)).2.2.2.1), ((six_cells ((SPN.pre3 hz3).1.get 1 rfl)).2.2.2.2.1), ((six_cells ((SPN.pre3 hz3).1.get 1 rfl)).2.2.2.2.2.1), ((six_cells ((SPN.pre3 hz3).1.get 2 rfl)).1), ((six_cells ((SPN.pre3 hz3).1.get 2 rfl)).2.1), ((six_cells ((SPN.pre3 hz3).1.get 2 rfl)).2.2.1), ((six_cells ((SPN.pre3 hz3).1.get 2 rfl)).2.2.2.1), ((six_cells ((SPN.pre3 hz3).1.get 2 rfl)).2.2.2.2.1), ((six_cells ((SPN.pre3 hz3).1.get 2 rfl)).2.2.2.2.2.1), (SPN.pre3 hz3)⟩ (fun hHeld => ?_)
          clear hK K
          refine norm_ (a' := ?_) ?_ ?_
          rotate_left
          · show Act.put _ (some 8) _ = _
            simp only [Act.put, List.setIfInBounds_toArray, List.set_cons_zero, List.set_cons_succ, i64_w, i32_w]
            rfl
          refine one_ (i := 5) (N := some 40) #[true, true, true, true, true, true, true, true, false, false] rfl rfl (by kernel_rfl) (by decide) (fun K hK => ?_)
          refine goes_ Tryz.func17 (by kernel_rfl) rfl #[.agg #[.int .i64 3, .int .i64 Hb, .string sb, .slice A3b n3b c3b, .slice A4b n4b c4b, .slice A5b n5b c5b], .agg #[.int .i64 3, .int .i64 Hc, .string sc, .slice A3c n3c c3c, .slice A4c n4c c4c, .slice A5c n5c c5c]] (by rfl) rfl rfl (by simp only [List.map_toArray, List.map_cons, List.map_nil]; rfl) ?_
          with_reducible refine ((HBC.out _)).mono ?_
          rintro e w14 ⟨rfl, hb⟩
          refine ⟨_, rfl, ?_⟩
          have hz4 := SPN.below (hz3) hb
          clear hb
          refine hK.out _ _ ⟨((six_cells ((SPN.pre3 hz4).1.get 0 rfl)).1), ((six_cells ((SPN.pre3 hz4).1.get 0 rfl)).2.1), ((six_cells ((SPN.pre3 hz4).1.get 0 rfl)).2.2.1), ((six_cells ((SPN.pre3 hz4).1.get 0 rfl)).2.2.2.1), ((six_cells ((SPN.pre3 hz4).1.get 0 rfl)).2.2.2.2.1), ((six_cells ((SPN.pre3 hz4).1.get 0 rfl)).2.2.2.2.2.1), ((six_cells ((SPN.pre3 hz4).1.get 1 rfl)).1), ((six_cells ((SPN.pre3 hz4).1.get 1 rfl)).2.1), ((six_cells ((SPN.pre3 hz4).1.get 1 rfl)).2.2.1), ((six_cells ((SPN.pre3 hz4).1.get 1 rfl)).2.2.2.1), ((six_cells ((SPN.pre3 hz4).1.get 1 rfl)).2.2.2.2.1), ((six_cells ((SPN.pre3 hz4).1.get 1 rfl)).2.2.2.2.2.1), ((six_cells ((SPN.pre3 hz4).1.get 2 rfl)).1), ((six_cells ((SPN.pre3 hz4).1.get 2 rfl)).2.1), ((six_cells ((SPN.pre3 hz4).1.get 2 rfl)).2.2.1), ((six_cells ((SPN.pre3 hz4).1.get 2 rfl)).2.2.2.1), ((six_cells ((SPN.pre3 hz4).1.get 2 rfl)).2.2.2.2.1), ((six_cells ((SPN.pre3 hz4).1.get 2 rfl)).2.2.2.2.2.1), (SPN.pre3 hz4)⟩ (fun hHeld => ?_)
          clear hK K
          refine norm_ (a' := ?_) ?_ ?_
          rotate_left
          · show Act.put _ (some 40) _ = _
            simp only [Act.put, List.setIfInBounds_toArray, List.set_cons_zero, List.set_cons_succ, i64_w, i32_w]
            rfl
          exact norm_ (by first | (simp only [putAll, Act.put, List.setIfInBounds_toArray, List.set_cons_zero, List.set_cons_succ]; done) | (simp only [putAll, Act.put, List.setIfInBounds_toArray, List.set_cons_zero, List.set_cons_succ, World.size_alloc]; done) | (simp only [putAll, Act.put, List.setIfInBounds_toArray, List.set_cons_zero, List.set_cons_succ, World.size_alloc]; rfl)) (hCont (R6, R7) _ hz4)
      · skip
        refine fresh_ (c := #[.int .i64 0, .int .i64 0, .string ⟨#[]⟩, .slice none 0 0, .slice none 0 0, .slice none 0 0, .int .i64 0]) (t := 30) (hz1) (by rfl) rfl ?_ ?_
        · first | (go_simp; done) | (go_simp; rfl)
        intro R7 w12 hz2
        refine hK.out _ _ ⟨((six_cells ((SPN.pre3 hz2).1.get 0 rfl)).1), ((six_cells ((SPN.pre3 hz2).1.get 0 rfl)).2.1), ((six_cells ((SPN.pre3 hz2).1.get 0 rfl)).2.2.1), ((six_cells ((SPN.pre3 hz2).1.get 0 rfl)).2.2.2.1), ((six_cells ((SPN.pre3 hz2).1.get 0 rfl)).2.2.2.2.1), ((six_cells ((SPN.pre3 hz2).1.get 0 rfl)).2.2.2.2.2.1), ((six_cells ((SPN.pre3 hz2).1.get 1 rfl)).1), ((six_cells ((SPN.pre3 hz2).1.get 1 rfl)).2.1), ((six_cells ((SPN.pre3 hz2).1.get 1 rfl)).2.2.1), ((six_cells ((SPN.pre3 hz2).1.get 1 rfl)).2.2.2.1), ((six_cells ((SPN.pre3 hz2).1.get 1 rfl)).2.2.2.2.1), ((six_cells ((SPN.pre3 hz2).1.get 1 rfl)).2.2.2.2.2.1), ((six_cells ((SPN.pre3 hz2).1.get 2 rfl)).1), ((six_cells ((SPN.pre3 hz2).1.get 2 rfl)).2.1), ((six_cells ((SPN.pre3 hz2).1.get 2 rfl)).2.2.1), ((six_cells ((SPN.pre3 hz2).1.get 2 rfl)).2.2.2.1), ((six_cells ((SPN.pre3 hz2).1.get 2 rfl)).2.2.2.2.1), ((six_cells ((SPN.pre3 hz2).1.get 2 rfl)).2.2.2.2.2.1), (SPN.pre3 hz2)⟩ (fun hHeld => ?_)
        clear hK K
        refine norm_ (a' := ?_) ?_ ?_
        rotate_left
        · show Act.put _ (some 8) _ = _
          simp only [Act.put, List.setIfInBounds_toArray, List.set_cons_zero, List.set_cons_succ, i64_w, i32_w]
          rfl
        refine two_ (i := 5) (j := 6) (Ni := some 40) (Nj := some 7) #[true, true, true, true, true, true, false, true, false, false] #[true, true, true, true, true, false, true, true, false, false] rfl rfl rfl rfl (by kernel_rfl) (by decide) (by decide) (fun K hK => ?_) (fun K hK => ?_)
        · skip
          refine goes_ Tryz.func17 (by kernel_rfl) rfl #[.agg #[.int .i64 3, .int .i64 Hb, .string sb, .slice A3b n3b c3b, .slice A4b n4b c4b, .slice A5b n5b c5b], .agg #[.int .i64 3, .int .i64 Hc, .string sc, .slice A3c n3c c3c, .slice A4c n4c c4c, .slice A5c n5c c5c]] (by rfl) rfl rfl (by simp only [List.map_toArray, List.map_cons, List.map_nil]; rfl) ?_
          with_reducible refine ((HBC.out _)).mono ?_
          rintro e w13 ⟨rfl, hb⟩
          refine ⟨_, rfl, ?_⟩
          have hz3 := SPN.below (hz2) hb
          clear hb
          refine hK.out _ _ ⟨((six_cells ((SPN.pre3 hz3).1.get 0 rfl)).1), ((six_cells ((SPN.pre3 hz3).1.get 0 rfl)).2.1), ((six_cells ((SPN.pre3 hz3).1.get 0 rfl)).2.2.1), ((six_cells ((SPN.pre3 hz3).1.get 0 rfl)).2.2.2.1), ((six_cells ((SPN.pre3 hz3).1.get 0 rfl)).2.2.2.2.1), ((six_cells ((SPN.pre3 hz3).1.get 0 rfl)).2.2.2.2.2.1), ((six_cells ((SPN.pre3 hz3).1.get 1 rfl)).1), ((six_cells ((SPN.pre3 hz3).1.get 1 rfl)).2.1), ((six_cells ((SPN.pre3 hz3).1.get 1 rfl)).2.2.1), ((six_cells ((SPN.pre3 hz3).1.get 1 rfl)).2.2.2.1), ((six_cells ((SPN.pre3 hz3).1.get 1 rfl)).2.2.2.2.1), ((six_cells ((SPN.pre3 hz3).1.get 1 rfl)).2.2.2.2.2.1), ((six_cells ((SPN.pre3 hz3).1.get 2 rfl)).1), ((six_cells ((SPN.pre3 hz3).1.get 2 rfl)).2.1), ((six_cells ((SPN.pre3 hz3).1.get 2 rfl)).2.2.1), ((six_cells ((SPN.pre3 hz3).1.get 2 rfl)).2.2.2.1), ((six_cells ((SPN.pre3 hz3).1.get 2 rfl)).2.2.2.2.1), ((six_cells ((SPN.pre3 hz3).1.get 2 rfl)).2.2.2.2.2.1), (SPN.pre3 hz3)⟩ (fun hHeld => ?_)
          clear hK K
          refine norm_ (a' := ?_) ?_ ?_
          rotate_left
          · show Act.put _ (some 40) _ = _
            simp only [Act.put, List.setIfInBounds_toArray, List.set_cons_zero, List.set_cons_succ, i64_w, i32_w]
            rfl
          refine one_ (i := 6) (N := some 7) #[true, true, true, true, true, true, true, true, false, false] rfl rfl (by kernel_rfl) (by decide) (fun K hK => ?_)
          refine fresh_ (c := #[.int .i64 0, .int .i64 0, .string ⟨#[]⟩, .slice none 0 0, .slice none 0 0, .slice none 0 0, .int .i64 0]) (t := 30) (hz3) (by rfl) rfl ?_ ?_
          · first | (go_simp; done) | (go_simp; rfl)
          intro R6 w14 hz4
          refine hK.out _ _ ⟨((six_cells ((SPN.pre3 hz4).1.get 0 rfl)).1), ((six_cells ((SPN.pre3 hz4).1.get 0 rfl)).2.1), ((six_cells ((SPN.pre3 hz4).1.get 0 rfl)).2.2.1), ((six_cells ((SPN.pre3 hz4).1.get 0 rfl)).2.2.2.1), ((six_cells ((SPN.pre3 hz4).1.get 0 rfl)).2.2.2.2.1), ((six_cells ((SPN.pre3 hz4).1.get 0 rfl)).2.2.2.2.2.1), ((six_cells ((SPN.pre3 hz4).1.get 1 rfl)).1), ((six_cells ((SPN.pre3 hz4).1.get 1 rfl)).2.1), ((six_cells ((SPN.pre3 hz4).1.get 1 rfl)).2.2.1), ((six_cells ((SPN.pre3 hz4).1.get 1 rfl)).2.2.2.1), ((six_cells ((SPN.pre3 hz4).1.get 1 rfl)).2.2.2.2.1), ((six_cells ((SPN.pre3 hz4).1.get 1 rfl)).2.2.2.2.2.1), ((six_cells ((SPN.pre3 hz4).1.get 2 rfl)).1), ((six_cells ((SPN.pre3 hz4).1.get 2 rfl)).2.1), ((six_cells ((SPN.pre3 hz4).1.get 2 rfl)).2.2.1), ((six_cells ((SPN.pre3 hz4).1.get 2 rfl)).2.2.2.1), ((six_cells ((SPN.pre3 hz4).1.get 2 rfl)).2.2.2.2.1), ((six_cells ((SPN.pre3 hz4).1.get 2 rfl)).2.2.2.2.2.1), (SPN.pre3 hz4)⟩ (fun hHeld => ?_)
          clear hK K
          refine norm_ (a' := ?_) ?_ ?_
          rotate_left
          · show Act.put _ (some 7) _ = _
            simp only [Act.put, List.setIfInBounds_toArray, List.set_cons_zero, List.set_cons_succ, i64_w, i32_w]
            rfl
          exact norm_ (by first | (simp only [putAll, Act.put, List.setIfInBounds_toArray, List.set_cons_zero, List.set_cons_succ]; done) | (simp only [putAll, Act.put, List.setIfInBounds_toArray, List.set_cons_zero, List.set_cons_succ, World.size_alloc]; done) | (simp only [putAll, Act.put, List.setIfInBounds_toArray, List.set_cons_zero, List.set_cons_succ, World.size_alloc]; rfl)) (hCont (R6, R7) _ (SPN.swap hz4))
        · skip
          refine fresh_ (c := #[.int .i64 0, .int .i64 0, .string ⟨#[]⟩, .slice none 0 0, .slice none 0 0, .slice none 0 0, .int .i64 0]) (t := 30) (hz2) (by rfl) rfl ?_ ?_
          · first | (go_simp; done) | (go_simp; rfl)
          intro R6 w13 hz3
          refine hK.out _ _ ⟨((six_cells ((SPN.pre3 hz3).1.get 0 rfl)).1), ((six_cells ((SPN.pre3 hz3).1.get 0 rfl)).2.1), ((six_cells ((SPN.pre3 hz3).1.get 0 rfl)).2.2.1), ((six_cells ((SPN.pre3 hz3).1.get 0 rfl)).2.2.2.1), ((six_cells ((SPN.pre3 hz3).1.get 0 rfl)).2.2.2.2.1), ((six_cells ((SPN.pre3 hz3).1.get 0 rfl)).2.2.2.2.2.1), ((six_cells ((SPN.pre3 hz3).1.get 1 rfl)).1), ((six_cells ((SPN.pre3 hz3).1.get 1 rfl)).2.1), ((six_cells ((SPN.pre3 hz3).1.get 1 rfl)).2.2.1), ((six_cells ((SPN.pre3 hz3).1.get 1 rfl)).2.2.2.1), ((six_cells ((SPN.pre3 hz3).1.get 1 rfl)).2.2.2.2.1), ((six_cells ((SPN.pre3 hz3).1.get 1 rfl)).2.2.2.2.2.1), ((six_cells ((SPN.pre3 hz3).1.get 2 rfl)).1), ((six_cells ((SPN.pre3 hz3).1.get 2 rfl)).2.1), ((six_cells ((SPN.pre3 hz3).1.get 2 rfl)).2.2.1), ((six_cells ((SPN.pre3 hz3).1.get 2 rfl)).2.2.2.1), ((six_cells ((SPN.pre3 hz3).1.get 2 rfl)).2.2.2.2.1), ((six_cells ((SPN.pre3 hz3).1.get 2 rfl)).2.2.2.2.2.1), (SPN.pre3 hz3)⟩ (fun hHeld => ?_)
          clear hK K
          refine norm_ (a' := ?_) ?_ ?_
          rotate_left
          · show Act.put _ (some 7) _ = _
            simp only [Act.put, List.setIfInBounds_toArray, List.set_cons_zero, List.set_cons_succ, i64_w, i32_w]
            rfl
          refine one_ (i := 5) (N := some 40) #[true, true, true, true, true, true, true, true, false, false] rfl rfl (by kernel_rfl) (by decide) (fun K hK => ?_)
          refine goes_ Tryz.func17 (by kernel_rfl) rfl #[.agg #[.int .i64 3, .int .i64 Hb, .string sb, .slice A3b n3b c3b, .slice A4b n4b c4b, .slice A5b n5b c5b], .agg #[.int .i64 3, .int .i64 Hc, .string sc, .slice A3c n3c c3c, .slice A4c n4c c4c, .slice A5c n5c c5c]] (by rfl) rfl rfl (by simp only [List.map_toArray, List.map_cons, List.map_nil]; rfl) ?_
          with_reducible refine ((HBC.out _)).mono ?_
          rintro e w14 ⟨rfl, hb⟩
          refine ⟨_, rfl, ?_⟩
          have hz4 := SPN.below (hz3) hb
          clear hb
          refine hK.out _ _ ⟨((six_cells ((SPN.pre3 hz4).1.get 0 rfl)).1), ((six_cells ((SPN.pre3 hz4).1.get 0 rfl)).2.1), ((six_cells ((SPN.pre3 hz4).1.get 0 rfl)).2.2.1), ((six_cells ((SPN.pre3 hz4).1.get 0 rfl)).2.2.2.1), ((six_cells ((SPN.pre3 hz4).1.get 0 rfl)).2.2.2.2.1), ((six_cells ((SPN.pre3 hz4).1.get 0 rfl)).2.2.2.2.2.1), ((six_cells ((SPN.pre3 hz4).1.get 1 rfl)).1), ((six_cells ((SPN.pre3 hz4).1.get 1 rfl)).2.1), ((six_cells ((SPN.pre3 hz4).1.get 1 rfl)).2.2.1), ((six_cells ((SPN.pre3 hz4).1.get 1 rfl)).2.2.2.1), ((six_cells ((SPN.pre3 hz4).1.get 1 rfl)).2.2.2.2.1), ((six_cells ((SPN.pre3 hz4).1.get 1 rfl)).2.2.2.2.2.1), ((six_cells ((SPN.pre3 hz4).1.get 2 rfl)).1), ((six_cells ((SPN.pre3 hz4).1.get 2 rfl)).2.1), ((six_cells ((SPN.pre3 hz4).1.get 2 rfl)).2.2.1), ((six_cells ((SPN.pre3 hz4).1.get 2 rfl)).2.2.2.1), ((six_cells ((SPN.pre3 hz4).1.get 2 rfl)).2.2.2.2.1), ((six_cells ((SPN.pre3 hz4).1.get 2 rfl)).2.2.2.2.2.1), (SPN.pre3 hz4)⟩ (fun hHeld => ?_)
          clear hK K
          refine norm_ (a' := ?_) ?_ ?_
          rotate_left
          · show Act.put _ (some 40) _ = _
            simp only [Act.put, List.setIfInBounds_toArray, List.set_cons_zero, List.set_cons_succ, i64_w, i32_w]
            rfl
          exact norm_ (by first | (simp only [putAll, Act.put, List.setIfInBounds_toArray, List.set_cons_zero, List.set_cons_succ]; done) | (simp only [putAll, Act.put, List.setIfInBounds_toArray, List.set_cons_zero, List.set_cons_succ, World.size_alloc]; done) | (simp only [putAll, Act.put, List.setIfInBounds_toArray, List.set_cons_zero, List.set_cons_succ, World.size_alloc]; rfl)) (hCont (R6, R7) _ (SPN.swap hz4))
    · skip
      refine fresh_ (c := #[.int .i64 0, .int .i64 0, .string ⟨#[]⟩, .slice none 0 0, .slice none 0 0, .slice none 0 0, .int .i64 0]) (t := 30) (hHeld.2.2.2.2.2.2.2.2.2.2.2.2.2.2.2.2.2.2) (by rfl) rfl ?_ ?_
      · first | (go_simp; done) | (go_simp; rfl)
      intro R6 w11 hz1
      refine hK.out _ _ ⟨((six_cells ((SPN.pre3 hz1).1.get 0 rfl)).1), ((six_cells ((SPN.pre3 hz1).1.get 0 rfl)).2.1), ((six_cells ((SPN.pre3 hz1).1.get 0 rfl)).2.2.1), ((six_cells ((SPN.pre3 hz1).1.get 0 rfl)).2.2.2.1), ((six_cells ((SPN.pre3 hz1).1.get 0 rfl)).2.2.2.2.1), ((six_cells ((SPN.pre3 hz1).1.get 0 rfl)).2.2.2.2.2.1), ((six_cells ((SPN.pre3 hz1).1.get 1 rfl)).1), ((six_cells ((SPN.pre3 hz1).1.get 1 rfl)).2.1), ((six_cells ((SPN.pre3 hz1).1.get 1 rfl)).2.2.1), ((six_cells ((SPN.pre3 hz1).1.get 1 rfl)).2.2.2.1), ((six_cells ((SPN.pre3 hz1).1.get 1 rfl)).2.2.2.2.1), ((six_cells ((SPN.pre3 hz1).1.get 1 rfl)).2.2.2.2.2.1), ((six_cells ((SPN.pre3 hz1).1.get 2 rfl)).1), ((six_cells ((SPN.pre3 hz1).1.get 2 rfl)).2.1), ((six_cells ((SPN.pre3 hz1).1.get 2 rfl)).2.2.1), ((six_cells ((SPN.pre3 hz1).1.get 2 rfl)).2.2.2.1), ((six_cells ((SPN.pre3 hz1).1.get 2 rfl)).2.2.2.2.1), ((six_cells ((SPN.pre3 hz1).1.get 2 rfl)).2.2.2.2.2.1), (SPN.pre3 hz1)⟩ (fun hHeld => ?_)
      clear hK K
      refine norm_ (a' := ?_) ?_ ?_
      rotate_left
      · show Act.put _ (some 7) _ = _
        simp only [Act.put, List.setIfInBounds_toArray, List.set_cons_zero, List.set_cons_succ, i64_w, i32_w]
        rfl
      refine two_ (i := 2) (j := 7) (Ni := some 37) (Nj := some 8) #[true, true, true, true, true, false, true, false, false, false] #[true, true, false, true, true, false, true, true, false, false] rfl rfl rfl rfl (by kernel_rfl) (by decide) (by decide) (fun K hK => ?_) (fun K hK => ?_)
      · skip
        refine goes_ Tryz.func17 (by kernel_rfl) rfl #[.agg #[.int .i64 3, .int .i64 Ha, .string sa, .slice A3a n3a c3a, .slice A4a n4a c4a, .slice A5a n5a c5a], .agg #[.int .i64 3, .int .i64 Hb, .string sb, .slice A3b n3b c3b, .slice A4b n4b c4b, .slice A5b n5b c5b]] (by rfl) rfl rfl (by simp only [List.map_toArray, List.map_cons, List.map_nil]; rfl) ?_
        with_reducible refine ((HAB.out _)).mono ?_
        rintro e w12 ⟨rfl, hb⟩
        refine ⟨_, rfl, ?_⟩
        have hz2 := SPN.below (hz1) hb
        clear hb
        refine hK.out _ _ ⟨((six_cells ((SPN.pre3 hz2).1.get 0 rfl)).1), ((six_cells ((SPN.pre3 hz2).1.get 0 rfl)).2.1), ((six_cells ((SPN.pre3 hz2).1.get 0 rfl)).2.2.1), ((six_cells ((SPN.pre3 hz2).1.get 0 rfl)).2.2.2.1), ((six_cells ((SPN.pre3 hz2).1.get 0 rfl)).2.2.2.2.1), ((six_cells ((SPN.pre3 hz2).1.get 0 rfl)).2.2.2.2.2.1), ((six_cells ((SPN.pre3 hz2).1.get 1 rfl)).1), ((six_cells ((SPN.pre3 hz2).1.get 1 rfl)).2.1), ((six_cells ((SPN.pre3 hz2).1.get 1 rfl)).2.2.1), ((six_cells ((SPN.pre3 hz2).1.get 1 rfl)).2.2.2.1), ((six_cells ((SPN.pre3 hz2).1.get 1 rfl)).2.2.2.2.1), ((six_cells ((SPN.pre3 hz2).1.get 1 rfl)).2.2.2.2.2.1), ((six_cells ((SPN.pre3 hz2).1.get 2 rfl)).1), ((six_cells ((SPN.pre3 hz2).1.get 2 rfl)).2.1), ((six_cells ((SPN.pre3 hz2).1.get 2 rfl)).2.2.1), ((six_cells ((SPN.pre3 hz2).1.get 2 rfl)).2.2.2.1), ((six_cells ((SPN.pre3 hz2).1.get 2 rfl)).2.2.2.2.1), ((six_cells ((SPN.pre3 hz2).1.get 2 rfl)).2.2.2.2.2.1), (SPN.pre3 hz2)⟩ (fun hHeld => ?_)
        clear hK K
        refine norm_ (a' := ?_) ?_ ?_
        rotate_left
        · show Act.put _ (some 37) _ = _
          simp only [Act.put, List.setIfInBounds_toArray, List.set_cons_zero, List.set_cons_succ, i64_w, i32_w]
          rfl
        refine two_ (i := 5) (j := 7) (Ni := some 40) (Nj := some 8) #[true, true, true, true, true, true, true, false, false, false] #[true, true, true, true, true, false, true, true, false, false] rfl rfl rfl rfl (by kernel_rfl) (by decide) (by decide) (fun K hK => ?_) (fun K hK => ?_)
        · skip
          refine goes_ Tryz.func17 (by kernel_rfl) rfl #[.agg #[.int .i64 3, .int .i64 Hb, .string sb, .slice A3b n3b c3b, .slice A4b n4b c4b, .slice A5b n5b c5b], .agg #[.int .i64 3, .int .i64 Hc, .string sc, .slice A3c n3c c3c, .slice A4c n4c c4c, .slice A5c n5c c5c]] (by rfl) rfl rfl (by simp only [List.map_toArray, List.map_cons, List.map_nil]; rfl) ?_
          with_reducible refine ((HBC.out _)).mono ?_
          rintro e w13 ⟨rfl, hb⟩
          refine ⟨_, rfl, ?_⟩
          have hz3 := SPN.below (hz2) hb
          clear hb
          refine hK.out _ _ ⟨((six_cells ((SPN.pre3 hz3).1.get 0 rfl)).1), ((six_cells ((SPN.pre3 hz3).1.get 0 rfl)).2.1), ((six_cells ((SPN.pre3 hz3).1.get 0 rfl)).2.2.1), ((six_cells ((SPN.pre3 hz3).1.get 0 rfl)).2.2.2.1), ((six_cells ((SPN.pre3 hz3).1.get 0 rfl)).2.2.2.2.1), ((six_cells ((SPN.pre3 hz3).1.get 0 rfl)).2.2.2.2.2.1), ((six_cells ((SPN.pre3 hz3).1.get 1 rfl)).1), ((six_cells ((SPN.pre3 hz3).1.get 1 rfl)).2.1), ((six_cells ((SPN.pre3 hz3).1.get 1 rfl)).2.2.1), ((six_cells ((SPN.pre3 hz3).1.get 1 rfl)).2.2.2.1), ((six_cells ((SPN.pre3 hz3).1.get 1 rfl)).2.2.2.2.1), ((six_cells ((SPN.pre3 hz3).1.get 1 rfl)).2.2.2.2.2.1), ((six_cells ((SPN.pre3 hz3).1.get 2 rfl)).1), ((six_cells ((SPN.pre3 hz3).1.get 2 rfl)).2.1), ((six_cells ((SPN.pre3 hz3).1.get 2 rfl)).2.2.1), ((six_cells ((SPN.pre3 hz3).1.get 2 rfl)).2.2.2.1), ((six_cells ((SPN.pre3 hz3).1.get 2 rfl)).2.2.2.2.1), ((six_cells ((SPN.pre3 hz3).1.get 2 rfl)).2.2.2.2.2.1), (SPN.pre3 hz3)⟩ (fun hHeld => ?_)
          clear hK K
          refine norm_ (a' := ?_) ?_ ?_
          rotate_left
          · show Act.put _ (some 40) _ = _
            simp only [Act.put, List.setIfInBounds_toArray, List.set_cons_zero, List.set_cons_succ, i64_w, i32_w]
            rfl
          refine one_ (i := 7) (N := some 8) #[true, true, true, true, true, true, true, true, false, false] rfl rfl (by kernel_rfl) (by decide) (fun K hK => ?_)
          refine fresh_ (c := #[.int .i64 0, .int .i64 0, .string ⟨#[]⟩, .slice none 0 0, .slice none 0 0, .slice none 0 0, .int .i64 0]) (t := 30) (hz3) (by rfl) rfl ?_ ?_
          · first | (go_simp; done) | (go_simp; rfl)
          intro R7 w14 hz4
          refine hK.out _ _ ⟨((six_cells ((SPN.pre3 hz4).1.get 0 rfl)).1), ((six_cells ((SPN.pre3 hz4).1.get 0 rfl)).2.1), ((six_cells ((SPN.pre3 hz4).1.get 0 rfl)).2.2.1), ((six_cells ((SPN.pre3 hz4).1.get 0 rfl)).2.2.2.1), ((six_cells ((SPN.pre3 hz4).1.get 0 rfl)).2.2.2.2.1), ((six_cells ((SPN.pre3 hz4).1.get 0 rfl)).2.2.2.2.2.1), ((six_cells ((SPN.pre3 hz4).1.get 1 rfl)).1), ((six_cells ((SPN.pre3 hz4).1.get 1 rfl)).2.1), ((six_cells ((SPN.pre3 hz4).1.get 1 rfl)).2.2.1), ((six_cells ((SPN.pre3 hz4).1.get 1 rfl)).2.2.2.1), ((six_cells ((SPN.pre3 hz4).1.get 1 rfl)).2.2.2.2.1), ((six_cells ((SPN.pre3 hz4).1.get 1 rfl)).2.2.2.2.2.1), ((six_cells ((SPN.pre3 hz4).1.get 2 rfl)).1), ((six_cells ((SPN.pre3 hz4).1.get 2 rfl)).2.1), ((six_cells ((SPN.pre3 hz4).1.get 2 rfl)).2.2.1), ((six_cells ((SPN.pre3 hz4).1.get 2 rfl)).2.2.2.1), ((six_cells ((SPN.pre3 hz4).1.get 2 rfl)).2.2.2.2.1), ((six_cells ((SPN.pre3 hz4).1.get 2 rfl)).2.2.2.2.2.1), (SPN.pre3 hz4)⟩ (fun hHeld => ?_)
          clear hK K
          refine norm_ (a' := ?_) ?_ ?_
          rotate_left
          · show Act.put _ (some 8) _ = _
            simp only [Act.put, List.setIfInBounds_toArray, List.set_cons_zero, List.set_cons_succ, i64_w, i32_w]
            rfl
          exact norm_ (by first | (simp only [putAll, Act.put, List.setIfInBounds_toArray, List.set_cons_zero, List.set_cons_succ]; done) | (simp only [putAll, Act.put, List.setIfInBounds_toArray, List.set_cons_zero, List.set_cons_succ, World.size_alloc]; done) | (simp only [putAll, Act.put, List.setIfInBounds_toArray, List.set_cons_zero, List.set_cons_succ, World.size_alloc]; rfl)) (hCont (R6, R7) _ hz4)
        · skip
          refine fresh_ (c := #[.int .i64 0, .int .i64 0, .string ⟨#[]⟩, .slice none 0 0, .slice none 0 0, .slice none 0 0, .int .i64 0]) (t := 30) (hz2) (by rfl) rfl ?_ ?_
          · first | (go_simp; done) | (go_simp; rfl)
          intro R7 w13 hz3
          refine hK.out _ _ ⟨((six_cells ((SPN.pre3 hz3).1.get 0 rfl)).1), ((six_cells ((SPN.pre3 hz3).1.get 0 rfl)).2.1), ((six_cells ((SPN.pre3 hz3).1.get 0 rfl)).2.2.1), ((six_cells ((SPN.pre3 hz3).1.get 0 rfl)).2.2.2.1), ((six_cells ((SPN.pre3 hz3).1.get 0 rfl)).2.2.2.2.1), ((six_cells ((SPN.pre3 hz3).1.get 0 rfl)).2.2.2.2.2.1), ((six_cells ((SPN.pre3 hz3).1.get 1 rfl)).1), ((six_cells ((SPN.pre3 hz3).1.get 1 rfl)).2.1), ((six_cells ((SPN.pre3 hz3).1.get 1 rfl)).2.2.1), ((six_cells ((SPN.pre3 hz3).1.get 1 rfl)).2.2.2.1), ((six_cells ((SPN.pre3 hz3).1.get 1 rfl)).2.2.2.2.1), ((six_cells ((SPN.pre3 hz3).1.get 1 rfl)).2.2.2.2.2.1), ((six_cells ((SPN.pre3 hz3).1.get 2 rfl)).1), ((six_cells ((SPN.pre3 hz3).1.get 2 rfl)).2.1), ((six_cells ((SPN.pre3 hz3).1.get 2 rfl)).2.2.1), ((six_cells ((SPN.pre3 hz3).1.get 2 rfl)).2.2.2.1), ((six_cells ((SPN.pre3 hz3).1.get 2 rfl)).2.2.2.2.1), ((six_cells ((SPN.pre3 hz3).1.get 2 rfl)).2.2.2.2.2.1), (SPN.pre3 hz3)⟩ (fun hHeld => ?_)
          clear hK K
          refine norm_ (a' := ?_) ?_ ?_
          rotate_left
          · show Act.put _ (some 8) _ = _
            simp only [Act.put, List.setIfInBounds_toArray, List.set_cons_zero, List.set_cons_succ, i64_w, i32_w]
            rfl
          refine one_ (i := 5) (N := some 40) #[true, true, true, true, true, true, true, true, false, false] rfl rfl (by kernel_rfl) (by decide) (fun K hK => ?_)
          refine goes_ Tryz.func17 (by kernel_rfl) rfl #[.agg #[.int .i64 3, .int .i64 Hb, .string sb, .slice A3b n3b c3b, .slice A4b n4b c4b, .slice A5b n5b c5b], .agg #[.int .i64 3, .int .i64 Hc, .string sc, .slice A3c n3c c3c, .slice A4c n4c c4c, .slice A5c n5c c5c]] (by rfl) rfl rfl (by simp only [List.map_toArray, List.map_cons, List.map_nil]; rfl) ?_
          with_reducible refine ((HBC.out _)).mono ?_
          rintro e w14 ⟨rfl, hb⟩
          refine ⟨_, rfl, ?_⟩
          have hz4 := SPN.below (hz3) hb
          clear hb
          refine hK.out _ _ ⟨((six_cells ((SPN.pre3 hz4).1.get 0 rfl)).1), ((six_cells ((SPN.pre3 hz4).1.get 0 rfl)).2.1), ((six_cells ((SPN.pre3 hz4).1.get 0 rfl)).2.2.1), ((six_cells ((SPN.pre3 hz4).1.get 0 rfl)).2.2.2.1), ((six_cells ((SPN.pre3 hz4).1.get 0 rfl)).2.2.2.2.1), ((six_cells ((SPN.pre3 hz4).1.get 0 rfl)).2.2.2.2.2.1), ((six_cells ((SPN.pre3 hz4).1.get 1 rfl)).1), ((six_cells ((SPN.pre3 hz4).1.get 1 rfl)).2.1), ((six_cells ((SPN.pre3 hz4).1.get 1 rfl)).2.2.1), ((six_cells ((SPN.pre3 hz4).1.get 1 rfl)).2.2.2.1), ((six_cells ((SPN.pre3 hz4).1.get 1 rfl)).2.2.2.2.1), ((six_cells ((SPN.pre3 hz4).1.get 1 rfl)).2.2.2.2.2.1), ((six_cells ((SPN.pre3 hz4).1.get 2 rfl)).1), ((six_cells ((SPN.pre3 hz4).1.get 2 rfl)).2.1), ((six_cells ((SPN.pre3 hz4).1.get 2 rfl)).2.2.1), ((six_cells ((SPN.pre3 hz4).1.get 2 rfl)).2.2.2.1), ((six_cells ((SPN.pre3 hz4).1.get 2 rfl)).2.2.2.2.1), ((six_cells ((SPN.pre3 hz4).1.get 2 rfl)).2.2.2.2.2.1), (SPN.pre3 hz4)⟩ (fun hHeld => ?_)
          clear hK K
          refine norm_ (a' := ?_) ?_ ?_
          rotate_left
          · show Act.put _ (some 40) _ = _
            simp only [Act.put, List.setIfInBounds_toArray, List.set_cons_zero, List.set_cons_succ, i64_w, i32_w]
            rfl
          exact norm_ (by first | (simp only [putAll, Act.put, List.setIfInBounds_toArray, List.set_cons_zero, List.set_cons_succ]; done) | (simp only [putAll, Act.put, List.setIfInBounds_toArray, List.set_cons_zero, List.set_cons_succ, World.size_alloc]; done) | (simp only [putAll, Act.put, List.setIfInBounds_toArray, List.set_cons_zero, List.set_cons_succ, World.size_alloc]; rfl)) (hCont (R6, R7) _ hz4)
      · skip
        refine fresh_ (c := #[.int .i64 0, .int .i64 0, .string ⟨#[]⟩, .slice none 0 0, .slice none 0 0, .slice none 0 0, .int .i64 0]) (t := 30) (hz1) (by rfl) rfl ?_ ?_
        · first | (go_simp; done) | (go_simp; rfl)
        intro R7 w12 hz2
        refine hK.out _ _ ⟨((six_cells ((SPN.pre3 hz2).1.get 0 rfl)).1), ((six_cells ((SPN.pre3 hz2).1.get 0 rfl)).2.1), ((six_cells ((SPN.pre3 hz2).1.get 0 rfl)).2.2.1), ((six_cells ((SPN.pre3 hz2).1.get 0 rfl)).2.2.2.1), ((six_cells ((SPN.pre3 hz2).1.get 0 rfl)).2.2.2.2.1), ((six_cells ((SPN.pre3 hz2).1.get 0 rfl)).2.2.2.2.2.1), ((six_cells ((SPN.pre3 hz2).1.get 1 rfl)).1), ((six_cells ((SPN.pre3 hz2).1.get 1 rfl)).2.1), ((six_cells ((SPN.pre3 hz2).1.get 1 rfl)).2.2.1), ((six_cells ((SPN.pre3 hz2).1.get 1 rfl)).2.2.2.1), ((six_cells ((SPN.pre3 hz2).1.get 1 rfl)).2.2.2.2.1), ((six_cells ((SPN.pre3 hz2).1.get 1 rfl)).2.2.2.2.2.1), ((six_cells ((SPN.pre3 hz2).1.get 2 rfl)).1), ((six_cells ((SPN.pre3 hz2).1.get 2 rfl)).2.1), ((six_cells ((SPN.pre3 hz2).1.get 2 rfl)).2.2.1), ((six_cells ((SPN.pre3 hz2).1.get 2 rfl)).2.2.2.1), ((six_cells ((SPN.pre3 hz2).1.get 2 rfl)).2.2.2.2.1), ((six_cells ((SPN.pre3 hz2).1.get 2 rfl)).2.2.2.2.2.1), (SPN.pre3 hz2)⟩ (fun hHeld => ?_)
        clear hK K
        refine norm_ (a' := ?_) ?_ ?_
        rotate_left
        · show Act.put _ (some 8) _ = _
          simp only [Act.put, List.setIfInBounds_toArray, List.set_cons_zero, List.set_cons_succ, i64_w, i32_w]
          rfl
        refine one_ (i := 2) (N := some 37) #[true, true, true, true, true, false, true, true, false, false] rfl rfl (by kernel_rfl) (by decide) (fun K hK => ?_)
        refine goes_ Tryz.func17 (by kernel_rfl) rfl #[.agg #[.int .i64 3, .int .i64 Ha, .string sa, .slice A3a n3a c3a, .slice A4a n4a c4a, .slice A5a n5a c5a], .agg #[.int .i64 3, .int .i64 Hb, .string sb, .slice A3b n3b c3b, .slice A4b n4b c4b, .slice A5b n5b c5b]] (by rfl) rfl rfl (by simp only [List.map_toArray, List.map_cons, List.map_nil]; rfl) ?_
        with_reducible refine ((HAB.out _)).mono ?_
        rintro e w13 ⟨rfl, hb⟩
        refine ⟨_, rfl, ?_⟩
        have hz3 := SPN.below (hz2) hb
        clear hb
        refine hK.out _ _ ⟨((six_cells ((SPN.pre3 hz3).1.get 0 rfl)).1), ((six_cells ((SPN.pre3 hz3).1.get 0 rfl)).2.1), ((six_cells ((SPN.pre3 hz3).1.get 0 rfl)).2.2.1), ((six_cells ((SPN.pre3 hz3).1.get 0 rfl)).2.2.2.1), ((six_cells ((SPN.pre3 hz3).1.get 0 rfl)).2.2.2.2.1), ((six_cells ((SPN.pre3 hz3).1.get 0 rfl)).2.2.2.2.2.1), ((six_cells ((SPN.pre3 hz3).1.get 1 rfl)).1), ((six_cells ((SPN.pre3 hz3).1.get 1 rfl)).2.1), ((six_cells ((SPN.pre3 hz3).1.get 1 rfl)).2.2.1), ((six_cells ((SPN.pre3 hz3).1.get 1 rfl)).2.2.2.1), ((six_cells ((SPN.pre3 hz3).1.get 1 rfl)).2.2.2.2.1), ((six_cells ((SPN.pre3 hz3).1.get 1 rfl)).2.2.2.2.2.1), ((six_cells ((SPN.pre3 hz3).1.get 2 rfl)).1), ((six_cells ((SPN.pre3 hz3).1.get 2 rfl)).2.1), ((six_cells ((SPN.pre3 hz3).1.get 2 rfl)).2.2.1), ((six_cells ((SPN.pre3 hz3).1.get 2 rfl)).2.2.2.1), ((six_cells ((SPN.pre3 hz3).1.get 2 rfl)).2.2.2.2.1), ((six_cells ((SPN.pre3 hz3).1.get 2 rfl)).2.2.2.2.2.1), (SPN.pre3 hz3)⟩ (fun hHeld => ?_)
        clear hK K
        refine norm_ (a' := ?_) ?_ ?_
        rotate_left
        · show Act.put _ (some 37) _ = _
          simp only [Act.put, List.setIfInBounds_toArray, List.set_cons_zero, List.set_cons_succ, i64_w, i32_w]
          rfl
        refine one_ (i := 5) (N := some 40) #[true, true, true, true, true, true, true, true, false, false] rfl rfl (by kernel_rfl) (by decide) (fun K hK => ?_)
        refine goes_ Tryz.func17 (by kernel_rfl) rfl #[.agg #[.int .i64 3, .int .i64 Hb, .string sb, .slice A3b n3b c3b, .slice A4b n4b c4b, .slice A5b n5b c5b], .agg #[.int .i64 3, .int .i64 Hc, .string sc, .slice A3c n3c c3c, .slice A4c n4c c4c, .slice A5c n5c c5c]] (by rfl) rfl rfl (by simp only [List.map_toArray, List.map_cons, List.map_nil]; rfl) ?_
        with_reducible refine ((HBC.out _)).mono ?_
        rintro e w14 ⟨rfl, hb⟩
        refine ⟨_, rfl, ?_⟩
        have hz4 := SPN.below (hz3) hb
        clear hb
        refine hK.out _ _ ⟨((six_cells ((SPN.pre3 hz4).1.get 0 rfl)).1), ((six_cells ((SPN.pre3 hz4).1.get 0 rfl)).2.1), ((six_cells ((SPN.pre3 hz4).1.get 0 rfl)).2.2.1), ((six_cells ((SPN.pre3 hz4).1.get 0 rfl)).2.2.2.1), ((six_cells ((SPN.pre3 hz4).1.get 0 rfl)).2.2.2.2.1), ((six_cells ((SPN.pre3 hz4).1.get 0 rfl)).2.2.2.2.2.1), ((six_cells ((SPN.pre3 hz4).1.get 1 rfl)).1), ((six_cells ((SPN.pre3 hz4).1.get 1 rfl)).2.1), ((six_cells ((SPN.pre3 hz4).1.get 1 rfl)).2.2.1), ((six_cells ((SPN.pre3 hz4).1.get 1 rfl)).2.2.2.1), ((six_cells ((SPN.pre3 hz4).1.get 1 rfl)).2.2.2.2.1), ((six_cells ((SPN.pre3 hz4).1.get 1 rfl)).2.2.2.2.2.1), ((six_cells ((SPN.pre3 hz4).1.get 2 rfl)).1), ((six_cells ((SPN.pre3 hz4).1.get 2 rfl)).2.1), ((six_cells ((SPN.pre3 hz4).1.get 2 rfl)).2.2.1), ((six_cells ((SPN.pre3 hz4).1.get 2 rfl)).2.2.2.1), ((six_cells ((SPN.pre3 hz4).1.get 2 rfl)).2.2.2.2.1), ((six_cells ((SPN.pre3 hz4).1.get 2 rfl)).2.2.2.2.2.1), (SPN.pre3 hz4)⟩ (fun hHeld => ?_)
        clear hK K
        refine norm_ (a' := ?_) ?_ ?_
        rotate_left
        · show Act.put _ (some 40) _ = _
          simp only [Act.put, List.setIfInBounds_toArray, List.set_cons_zero, List.set_cons_succ, i64_w, i32_w]
          rfl
        exact norm_ (by first | (simp only [putAll, Act.put, List.setIfInBounds_toArray, List.set_cons_zero, List.set_cons_succ]; done) | (simp only [putAll, Act.put, List.setIfInBounds_toArray, List.set_cons_zero, List.set_cons_succ, World.size_alloc]; done) | (simp only [putAll, Act.put, List.setIfInBounds_toArray, List.set_cons_zero, List.set_cons_succ, World.size_alloc]; rfl)) (hCont (R6, R7) _ hz4)
    · skip
      refine fresh_ (c := #[.int .i64 0, .int .i64 0, .string ⟨#[]⟩, .slice none 0 0, .slice none 0 0, .slice none 0 0, .int .i64 0]) (t := 30) (hHeld.2.2.2.2.2.2.2.2.2.2.2.2.2.2.2.2.2.2) (by rfl) rfl ?_ ?_
      · first | (go_simp; done) | (go_simp; rfl)
      intro R7 w11 hz1
      refine hK.out _ _ ⟨((six_cells ((SPN.pre3 hz1).1.get 0 rfl)).1), ((six_cells ((SPN.pre3 hz1).1.get 0 rfl)).2.1), ((six_cells ((SPN.pre3 hz1).1.get 0 rfl)).2.2.1), ((six_cells ((SPN.pre3 hz1).1.get 0 rfl)).2.2.2.1), ((six_cells ((SPN.pre3 hz1).1.get 0 rfl)).2.2.2.2.1), ((six_cells ((SPN.pre3 hz1).1.get 0 rfl)).2.2.2.2.2.1), ((six_cells ((SPN.pre3 hz1).1.get 1 rfl)).1), ((six_cells ((SPN.pre3 hz1).1.get 1 rfl)).2.1), ((six_cells ((SPN.pre3 hz1).1.get 1 rfl)).2.2.1), ((six_cells ((SPN.pre3 hz1).1.get 1 rfl)).2.2.2.1), ((six_cells ((SPN.pre3 hz1).1.get 1 rfl)).2.2.2.2.1), ((six_cells ((SPN.pre3 hz1).1.get 1 rfl)).2.2.2.2.2.1), ((six_cells ((SPN.pre3 hz1).1.get 2 rfl)).1), ((six_cells ((SPN.pre3 hz1).1.get 2 rfl)).2.1), ((six_cells ((SPN.pre3 hz1).1.get 2 rfl)).2.2.1), ((six_cells ((SPN.pre3 hz1).1.get 2 rfl)).2.2.2.1), ((six_cells ((SPN.pre3 hz1).1.get 2 rfl)).2.2.2.2.1), ((six_cells ((SPN.pre3 hz1).1.get 2 rfl)).2.2.2.2.2.1), (SPN.pre3 hz1)⟩ (fun hHeld => ?_)
      clear hK K
      refine norm_ (a' := ?_) ?_ ?_
      rotate_left
      · show Act.put _ (some 8) _ = _
        simp only [Act.put, List.setIfInBounds_toArray, List.set_cons_zero, List.set_cons_succ, i64_w, i32_w]
        rfl
      refine two_ (i := 2) (j := 6) (Ni := some 37) (Nj := some 7) #[true, true, true, true, true, false, false, true, false, false] #[true, true, false, true, true, false, true, true, false, false] rfl rfl rfl rfl (by kernel_rfl) (by decide) (by decide) (fun K hK => ?_) (fun K hK => ?_)
      · skip
        refine goes_ Tryz.func17 (by kernel_rfl) rfl #[.agg #[.int .i64 3, .int .i64 Ha, .string sa, .slice A3a n3a c3a, .slice A4a n4a c4a, .slice A5a n5a c5a], .agg #[.int .i64 3, .int .i64 Hb, .string sb, .slice A3b n3b c3b, .slice A4b n4b c4b, .slice A5b n5b c5b]] (by rfl) rfl rfl (by simp only [List.map_toArray, List.map_cons, List.map_nil]; rfl) ?_
        with_reducible refine ((HAB.out _)).mono ?_
        rintro e w12 ⟨rfl, hb⟩
        refine ⟨_, rfl, ?_⟩
        have hz2 := SPN.below (hz1) hb
        clear hb
        refine hK.out _ _ ⟨((six_cells ((SPN.pre3 hz2).1.get 0 rfl)).1), ((six_cells ((SPN.pre3 hz2).1.get 0 rfl)).2.1), ((six_cells ((SPN.pre3 hz2).1.get 0 rfl)).2.2.1), ((six_cells ((SPN.pre3 hz2).1.get 0 rfl)).2.2.2.1), ((six_cells ((SPN.pre3 hz2).1.get 0 rfl)).2.2.2.2.1), ((six_cells ((SPN.pre3 hz2).1.get 0 rfl)).2.2.2.2.2.1), ((six_cells ((SPN.pre3 hz2).1.get 1 rfl)).1), ((six_cells ((SPN.pre3 hz2).1.get 1 rfl)).2.1), ((six_cells ((SPN.pre3 hz2).1.get 1 rfl)).2.2.1), ((six_cells ((SPN.pre3 hz2).1.get 1 rfl)).2.2.2.1), ((six_cells ((SPN.pre3 hz2).1.get 1 rfl)).2.2.2.2.1), ((six_cells ((SPN.pre3 hz2).1.get 1 rfl)).2.2.2.2.2.1), ((six_cells ((SPN.pre3 hz2).1.get 2 rfl)).1), ((six_cells ((SPN.pre3 hz2).1.get 2 rfl)).2.1), ((six_cells ((SPN.pre3 hz2).1.get 2 rfl)).2.2.1), ((six_cells ((SPN.pre3 hz2).1.get 2 rfl)).2.2.2.1), ((six_cells ((SPN.pre3 hz2).1.get 2 rfl)).2.2.2.2.1), ((six_cells ((SPN.pre3 hz2).1.get 2 rfl)).2.2.2.2.2.1), (SPN.pre3 hz2)⟩ (fun hHeld => ?_)
        clear hK K
        refine norm_ (a' := ?_) ?_ ?_
        rotate_left
        · show Act.put _ (some 37) _ = _
          simp only [Act.put, List.setIfInBounds_toArray, List.set_cons_zero, List.set_cons_succ, i64_w, i32_w]
          rfl
        refine two_ (i := 5) (j := 6) (Ni := some 40) (Nj := some 7) #[true, true, true, true, true, true, false, true, false, false] #[true, true, true, true, true, false, true, true, false, false] rfl rfl rfl rfl (by kernel_rfl) (by decide) (by decide) (fun K hK => ?_) (fun K hK => ?_)
        · skip
          refine goes_ Tryz.func17 (by kernel_rfl) rfl #[.agg #[.int .i64 3, .int .i64 Hb, .string sb, .slice A3b n3b c3b, .slice A4b n4b c4b, .slice A5b n5b c5b], .agg #[.int .i64 3, .int .i64 Hc, .string sc, .slice A3c n3c c3c, .slice A4c n4c c4c, .slice A5c n5c c5c]] (by rfl) rfl rfl (by simp only [List.map_toArray, List.map_cons, List.map_nil]; rfl) ?_
          with_reducible refine ((HBC.out _)).mono ?_
          rintro e w13 ⟨rfl, hb⟩
          refine ⟨_, rfl, ?_⟩
          have hz3 := SPN.below (hz2) hb
          clear hb
          refine hK.out _ _ ⟨((six_cells ((SPN.pre3 hz3).1.get 0 rfl)).1), ((six_cells ((SPN.pre3 hz3).1.get 0 rfl)).2.1), ((six_cells ((SPN.pre3 hz3).1.get 0 rfl)).2.2.1), ((six_cells ((SPN.pre3 hz3).1.get 0 rfl)).2.2.2.1), ((six_cells ((SPN.pre3 hz3).1.get 0 rfl)).2.2.2.2.1), ((six_cells ((SPN.pre3 hz3).1.get 0 rfl)).2.2.2.2.2.1), ((six_cells ((SPN.pre3 hz3).1.get 1 rfl)).1), ((six_cells ((SPN.pre3 hz3).1.get 1 rfl)).2.1), ((six_cells ((SPN.pre3 hz3).1.get 1 rfl)).2.2.1), ((six_cells ((SPN.pre3 hz3).1.get 1 rfl)).2.2.2.1), ((six_cells ((SPN.pre3 hz3).1.get 1 rfl)).2.2.2.2.1), ((six_cells ((SPN.pre3 hz3).1.get 1 rfl)).2.2.2.2.2.1), ((six_cells ((SPN.pre3 hz3).1.get 2 rfl)).1), ((six_cells ((SPN.pre3 hz3).1.get 2 rfl)).2.1), ((six_cells ((SPN.pre3 hz3).1.get 2 rfl)).2.2.1), ((six_cells ((SPN.pre3 hz3).1.get 2 rfl)).2.2.2.1), ((six_cells ((SPN.pre3 hz3).1.get 2 rfl)).2.2.2.2.1), ((six_cells ((SPN.pre3 hz3).1.get 2 rfl)).2.2.2.2.2.1), (SPN.pre3 hz3)⟩ (fun hHeld => ?_)
          clear hK K
          refine norm_ (a' := ?_) ?_ ?_
          rotate_left
          · show Act.put _ (some 40) _ = _
            simp only [Act.put, List.setIfInBounds_toArray, List.set_cons_zero, List.set_cons_succ, i64_w, i32_w]
            rfl
          refine one_ (i := 6) (N := some 7) #[true, true, true, true, true, true, true, true, false, false] rfl rfl (by kernel_rfl) (by decide) (fun K hK => ?_)
          refine fresh_ (c := #[.int .i64 0, .int .i64 0, .string ⟨#[]⟩, .slice none 0 0, .slice none 0 0, .slice none 0 0, .int .i64 0]) (t := 30) (hz3) (by rfl) rfl ?_ ?_
          · first | (go_simp; done) | (go_simp; rfl)
          intro R6 w14 hz4
          refine hK.out _ _ ⟨((six_cells ((SPN.pre3 hz4).1.get 0 rfl)).1), ((six_cells ((SPN.pre3 hz4).1.get 0 rfl)).2.1), ((six_cells ((SPN.pre3 hz4).1.get 0 rfl)).2.2.1), ((six_cells ((SPN.pre3 hz4).1.get 0 rfl)).2.2.2.1), ((six_cells ((SPN.pre3 hz4).1.get 0 rfl)).2.2.2.2.1), ((six_cells ((SPN.pre3 hz4).1.get 0 rfl)).2.2.2.2.2.1), ((six_cells ((SPN.pre3 hz4).1.get 1 rfl)).1), ((six_cells ((SPN.pre3 hz4).1.get 1 rfl)).2.1), ((six_cells ((SPN.pre3 hz4).1.get 1 rfl)).2.2.1), ((six_cells ((SPN.pre3 hz4).1.get 1 rfl)).2.2.2.1), ((six_cells ((SPN.pre3 hz4).1.get 1 rfl)).2.2.2.2.1), ((six_cells ((SPN.pre3 hz4).1.get 1 rfl)).2.2.2.2.2.1), ((six_cells ((SPN.pre3 hz4).1.get 2 rfl)).1), ((six_cells ((SPN.pre3 hz4).1.get 2 rfl)).2.1), ((six_cells ((SPN.pre3 hz4).1.get 2 rfl)).2.2.1), ((six_cells ((SPN.pre3 hz4).1.get 2 rfl)).2.2.2.1), ((six_cells ((SPN.pre3 hz4).1.get 2 rfl)).2.2.2.2.1), ((six_cells ((SPN.pre3 hz4).1.get 2 rfl)).2.2.2.2.2.1), (SPN.pre3 hz4)⟩ (fun hHeld => ?_)
          clear hK K
          refine norm_ (a' := ?_) ?_ ?_
          rotate_left
          · show Act.put _ (some 7) _ = _
            simp only [Act.put, List.setIfInBounds_toArray, List.set_cons_zero, List.set_cons_succ, i64_w, i32_w]
            rfl
          exact norm_ (by first | (simp only [putAll, Act.put, List.setIfInBounds_toArray, List.set_cons_zero, List.set_cons_succ]; done) | (simp only [putAll, Act.put, List.setIfInBounds_toArray, List.set_cons_zero, List.set_cons_succ, World.size_alloc]; done) | (simp only [putAll, Act.put, List.setIfInBounds_toArray, List.set_cons_zero, List.set_cons_succ, World.size_alloc]; rfl)) (hCont (R6, R7) _ (SPN.swap hz4))
        · skip
          refine fresh_ (c := #[.int .i64 0, .int .i64 0, .string ⟨#[]⟩, .slice none 0 0, .slice none 0 0, .slice none 0 0, .int .i64 0]) (t := 30) (hz2) (by rfl) rfl ?_ ?_
          · first | (go_simp; done) | (go_simp; rfl)
          intro R6 w13 hz3
          refine hK.out _ _ ⟨((six_cells ((SPN.pre3 hz3).1.get 0 rfl)).1), ((six_cells ((SPN.pre3 hz3).1.get 0 rfl)).2.1), ((six_cells ((SPN.pre3 hz3).1.get 0 rfl)).2.2.1), ((six_cells ((SPN.pre3 hz3).1.get 0 rfl)).2.2.2.1), ((six_cells ((SPN.pre3 hz3).1.get 0 rfl)).2.2.2.2.1), ((six_cells ((SPN.pre3 hz3).1.get 0 rfl)).2.2.2.2.2.1), ((six_cells ((SPN.pre3 hz3).1.get 1 rfl)).1), ((six_cells ((SPN.pre3 hz3).1.get 1 rfl)).2.1), ((six_cells ((SPN.pre3 hz3).1.get 1 rfl)).2.2.1), ((six_cells ((SPN.pre3 hz3).1.get 1 rfl)).2.2.2.1), ((six_cells ((SPN.pre3 hz3).1.get 1 rfl)).2.2.2.2.1), ((six_cells ((SPN.pre3 hz3).1.get 1 rfl)).2.2.2.2.2.1), ((six_cells ((SPN.pre3 hz3).1.get 2 rfl)).1), ((six_cells ((SPN.pre3 hz3).1.get 2 rfl)).2.1), ((six_cells ((SPN.pre3 hz3).1.get 2 rfl)).2.2.1), ((six_cells ((SPN.pre3 hz3).1.get 2 rfl)).2.2.2.1), ((six_cells ((SPN.pre3 hz3).1.get 2 rfl)).2.2.2.2.1), ((six_cells ((SPN.pre3 hz3).1.get 2 rfl)).2.2.2.2.2.1), (SPN.pre3 hz3)⟩ (fun hHeld => ?_)
          clear hK K
          refine norm_ (a' := ?_) ?_ ?_
          rotate_left
          · show Act.put _ (some 7) _ = _
            simp only [Act.put, List.setIfInBounds_toArray, List.set_cons_zero, List.set_cons_succ, i64_w, i32_w]
            rfl
          refine one_ (i := 5) (N := some 40) #[true, true, true, true, true, true, true, true, false, false] rfl rfl (by kernel_rfl) (by decide) (fun K hK => ?_)
          refine goes_ Tryz.func17 (by kernel_rfl) rfl #[.agg #[.int .i64 3, .int .i64 Hb, .string sb, .slice A3b n3b c3b, .slice A4b n4b c4b, .slice A5b n5b c5b], .agg #[.int .i64 3, .int .i64 Hc, .string sc, .slice A3c n3c c3c, .slice A4c n4c c4c, .slice A5c n5c c5c]] (by rfl) rfl rfl (by simp only [List.map_toArray, List.map_cons, List.map_nil]; rfl) ?_
          with_reducible refine ((HBC.out _)).mono ?_
          rintro e w14 ⟨rfl, hb⟩
          refine ⟨_, rfl, ?_⟩
          have hz4 := SPN.below (hz3) hb
          clear hb
          refine hK.out _ _ ⟨((six_cells ((SPN.pre3 hz4).1.get 0 rfl)).1), ((six_cells ((SPN.pre3 hz4).1.get 0 rfl)).2.1), ((six_cells ((SPN.pre3 hz4).1.get 0 rfl)).2.2.1), ((six_cells ((SPN.pre3 hz4).1.get 0 rfl)).2.2.2.1), ((six_cells ((SPN.pre3 hz4).1.get 0 rfl)).2.2.2.2.1), ((six_cells ((SPN.pre3 hz4).1.get 0 rfl)).2.2.2.2.2.1), ((six_cells ((SPN.pre3 hz4).1.get 1 rfl)).1), ((six_cells ((SPN.pre3 hz4).1.get 1 rfl)).2.1), ((six_cells ((SPN.pre3 hz4).1.get 1 rfl)).2.2.1), ((six_cells ((SPN.pre3 hz4).1.get 1 rfl)).2.2.2.1), ((six_cells ((SPN.pre3 hz4).1.get 1 rfl)).2.2.2.2.1), ((six_cells ((SPN.pre3 hz4).1.get 1 rfl)).2.2.2.2.2.1), ((six_cells ((SPN.pre3 hz4).1.get 2 rfl)).1), ((six_cells ((SPN.pre3 hz4).1.get 2 rfl)).2.1), ((six_cells ((SPN.pre3 hz4).1.get 2 rfl)).2.2.1), ((six_cells ((SPN.pre3 hz4).1.get 2 rfl)).2.2.2.1), ((six_cells ((SPN.pre3 hz4).1.get 2 rfl)).2.2.2.2.1), ((six_cells ((SPN.pre3 hz4).1.get 2 rfl)).2.2.2.2.2.1), (SPN.pre3 hz4)⟩ (fun hHeld => ?_)
          clear hK K
          refine norm_ (a' := ?_) ?_ ?_
          rotate_left
          · show Act.put _ (some 40) _ = _
            simp only [Act.put, List.setIfInBounds_toArray, List.set_cons_zero, List.set_cons_succ, i64_w, i32_w]
            rfl
          exact norm_ (by first | (simp only [putAll, Act.put, List.setIfInBounds_toArray, List.set_cons_zero, List.set_cons_succ]; done) | (simp only [putAll, Act.put, List.setIfInBounds_toArray, List.set_cons_zero, List.set_cons_succ, World.size_alloc]; done) | (simp only [putAll, Act.put, List.setIfInBounds_toArray, List.set_cons_zero, List.set_cons_succ, World.size_alloc]; rfl)) (hCont (R6, R7) _ (SPN.swap hz4))
      · skip
        refine fresh_ (c := #[.int .i64 0, .int .i64 0, .string ⟨#[]⟩, .slice none 0 0, .slice none 0 0, .slice none 0 0, .int .i64 0]) (t := 30) (hz1) (by rfl) rfl ?_ ?_
        · first | (go_simp; done) | (go_simp; rfl)
        intro R6 w12 hz2
        refine hK.out _ _ ⟨((six_cells ((SPN.pre3 hz2).1.get 0 rfl)).1), ((six_cells ((SPN.pre3 hz2).1.get 0 rfl)).2.1), ((six_cells ((SPN.pre3 hz2).1.get 0 rfl)).2.2.1), ((six_cells ((SPN.pre3 hz2).1.get 0 rfl)).2.2.2.1), ((six_cells ((SPN.pre3 hz2).1.get 0 rfl)).2.2.2.2.1), ((six_cells ((SPN.pre3 hz2).1.get 0 rfl)).2.2.2.2.2.1), ((six_cells ((SPN.pre3 hz2).1.get 1 rfl)).1), ((six_cells ((SPN.pre3 hz2).1.get 1 rfl)).2.1), ((six_cells ((SPN.pre3 hz2).1.get 1 rfl)).2.2.1), ((six_cells ((SPN.pre3 hz2).1.get 1 rfl)).2.2.2.1), ((six_cells ((SPN.pre3 hz2).1.get 1 rfl)).2.2.2.2.1), ((six_cells ((SPN.pre3 hz2).1.get 1 rfl)).2.2.2.2.2.1), ((six_cells ((SPN.pre3 hz2).1.get 2 rfl)).1), ((six_cells ((SPN.pre3 hz2).1.get 2 rfl)).2.1), ((six_cells ((SPN.pre3 hz2).1.get 2 rfl)).2.2.1), ((six_cells ((SPN.pre3 hz2).1.get 2 rfl)).2.2.2.1), ((six_cells ((SPN.pre3 hz2).1.get 2 rfl)).2.2.2.2.1), ((six_cells ((SPN.pre3 hz2).1.get 2 rfl)).2.2.2.2.2.1), (SPN.pre3 hz2)⟩ (fun hHeld => ?_)
        clear hK K
        refine norm_ (a' := ?_) ?_ ?_
        rotate_left
        · show Act.put _ (some 7) _ = _
          simp only [Act.put, List.setIfInBounds_toArray, List.set_cons_zero, List.set_cons_succ, i64_w, i32_w]
          rfl
        refine one_ (i := 2) (N := some 37) #[true, true, true, true, true, false, true, true, false, false] rfl rfl (by kernel_rfl) (by decide) (fun K hK => ?_)
        refine goes_ Tryz.func17 (by kernel_rfl) rfl #[.agg #[.int .i64 3, .int .i64 Ha, .string sa, .slice A3a n3a c3a, .slice A4a n4a c4a, .slice A5a n5a c5a], .agg #[.int .i64 3, .int .i64 Hb, .string sb, .slice A3b n3b c3b, .slice A4b n4b c4b, .slice A5b n5b c5b]] (by rfl) rfl rfl (by simp only [List.map_toArray, List.map_cons, List.map_nil]; rfl) ?_
        with_reducible refine ((HAB.out _)).mono ?_
        rintro e w13 ⟨rfl, hb⟩
        refine ⟨_, rfl, ?_⟩
        have hz3 := SPN.below (hz2) hb
        clear hb
        refine hK.out _ _ ⟨((six_cells ((SPN.pre3 hz3).1.get 0 rfl)).1), ((six_cells ((SPN.pre3 hz3).1.get 0 rfl)).2.1), ((six_cells ((SPN.pre3 hz3).1.get 0 rfl)).2.2.1), ((six_cells ((SPN.pre3 hz3).1.get 0 rfl)).2.2.2.1), ((six_cells ((SPN.pre3 hz3).1.get 0 rfl)).2.2.2.2.1), ((six_cells ((SPN.pre3 hz3).1.get 0 rfl)).2.2.2.2.2.1), ((six_cells ((SPN.pre3 hz3).1.get 1 rfl)).1), ((six_cells ((SPN.pre3 hz3).1.get 1 rfl)).2.1), ((six_cells ((SPN.pre3 hz3).1.get 1 rfl)).2.2.1), ((six_cells ((SPN.pre3 hz3).1.get 1 rfl)).2.2.2.1), ((six_cells ((SPN.pre3 hz3).1.get 1 rfl)).2.2.2.2.1), ((six_cells ((SPN.pre3 hz3).1.get 1 rfl)).2.2.2.2.2.1), ((six_cells ((SPN.pre3 hz3).1.get 2 rfl)).1), ((six_cells ((SPN.pre3 hz3).1.get 2 rfl)).2.1), ((six_cells ((SPN.pre3 hz3).1.get 2 rfl)).2.2.1), ((six_cells ((SPN.pre3 hz3).1.get 2 rfl)).2.2.2.1), ((six_cells ((SPN.pre3 hz3).1.get 2 rfl)).2.2.2.2.1), ((six_cells ((SPN.pre3 hz3).1.get 2 rfl)).2.2.2.2.2.1), (SPN.pre3 hz3)⟩ (fun hHeld => ?_)
        clear hK K
        refine norm_ (a' := ?_) ?_ ?_
        rotate_left
        · show Act.put _ (some 37) _ = _
          simp only [Act.put, List.setIfInBounds_toArray, List.set_cons_zero, List.set_cons_succ, i64_w, i32_w]
          rfl
        refine one_ (i := 5) (N := some 40) #[true, true, true, true, true, true, true, true, false, false] rfl rfl (by kernel_rfl) (by decide) (fun K hK => ?_)
        refine goes_ Tryz.func17 (by kernel_rfl) rfl #[.agg #[.int .i64 3, .int .i64 Hb, .string sb, .slice A3b n3b c3b, .slice A4b n4b c4b, .slice A5b n5b c5b], .agg #[.int .i64 3, .int .i64 Hc, .string sc, .slice A3c n3c c3c, .slice A4c n4c c4c, .slice A5c n5c c5c]] (by rfl) rfl rfl (by simp only [List.map_toArray, List.map_cons, List.map_nil]; rfl) ?_
        with_reducible refine ((HBC.out _)).mono ?_
        rintro e w14 ⟨rfl, hb⟩
        refine ⟨_, rfl, ?_⟩
        have hz4 := SPN.below (hz3) hb
        clear hb
        refine hK.out _ _ ⟨((six_cells ((SPN.pre3 hz4).1.get 0 rfl)).1), ((six_cells ((SPN.pre3 hz4).1.get 0 rfl)).2.1), ((six_cells ((SPN.pre3 hz4).1.get 0 rfl)).2.2.1), ((six_cells ((SPN.pre3 hz4).1.get 0 rfl)).2.2.2.1), ((six_cells ((SPN.pre3 hz4).1.get 0 rfl)).2.2.2.2.1), ((six_cells ((SPN.pre3 hz4).1.get 0 rfl)).2.2.2.2.2.1), ((six_cells ((SPN.pre3 hz4).1.get 1 rfl)).1), ((six_cells ((SPN.pre3 hz4).1.get 1 rfl)).2.1), ((six_cells ((SPN.pre3 hz4).1.get 1 rfl)).2.2.1), ((six_cells ((SPN.pre3 hz4).1.get 1 rfl)).2.2.2.1), ((six_cells ((SPN.pre3 hz4).1.get 1 rfl)).2.2.2.2.1), ((six_cells ((SPN.pre3 hz4).1.get 1 rfl)).2.2.2.2.2.1), ((six_cells ((SPN.pre3 hz4).1.get 2 rfl)).1), ((six_cells ((SPN.pre3 hz4).1.get 2 rfl)).2.1), ((six_cells ((SPN.pre3 hz4).1.get 2 rfl)).2.2.1), ((six_cells ((SPN.pre3 hz4).1.get 2 rfl)).2.2.2.1), ((six_cells ((SPN.pre3 hz4).1.get 2 rfl)).2.2.2.2.1), ((six_cells ((SPN.pre3 hz4).1.get 2 rfl)).2.2.2.2.2.1), (SPN.pre3 hz4)⟩ (fun hHeld => ?_)
        clear hK K
        refine norm_ (a' := ?_) ?_ ?_
        rotate_left
        · show Act.put _ (some 40) _ = _
          simp only [Act.put, List.setIfInBounds_toArray, List.set_cons_zero, List.set_cons_succ, i64_w, i32_w]
          rfl
        exact norm_ (by first | (simp only [putAll, Act.put, List.setIfInBounds_toArray, List.set_cons_zero, List.set_cons_succ]; done) | (simp only [putAll, Act.put, List.setIfInBounds_toArray, List.set_cons_zero, List.set_cons_succ, World.size_alloc]; done) | (simp only [putAll, Act.put, List.setIfInBounds_toArray, List.set_cons_zero, List.set_cons_succ, World.size_alloc]; rfl)) (hCont (R6, R7) _ (SPN.swap hz4))
  rintro ⟨R, T⟩ w' hF
  change SPN w [(A, #[.int .i64 3, .int .i64 Ha, .string sa, .slice A3a n3a c3a, .slice A4a n4a c4a, .slice A5a n5a c5a], 26), (B, #[.int .i64 3, .int .i64 Hb, .string sb, .slice A3b n3b c3b, .slice A4b n4b c4b, .slice A5b n5b c5b], 26), (C, #[.int .i64 3, .int .i64 Hc, .string sc, .slice A3c n3c c3c, .slice A4c n4c c4c, .slice A5c n5c c5c], 26), (R, #[.int .i64 0, .int .i64 0, .string ⟨#[]⟩, .slice none 0 0, .slice none 0 0, .slice none 0 0, .int .i64 0], 30), (T, #[.int .i64 0, .int .i64 0, .string ⟨#[]⟩, .slice none 0 0, .slice none 0 0, .slice none 0 0, .int .i64 0], 30)] w' at hF
  have hHeld : w'.cell? ⟨A, 0, none⟩ = some (.int .i64 3) ∧ w'.cell? ⟨A, 1, none⟩ = some (.int .i64 Ha) ∧ w'.cell? ⟨A, 2, none⟩ = some (.string sa) ∧ w'.cell? ⟨A, 3, none⟩ = some (.slice A3a n3a c3a) ∧ w'.cell? ⟨A, 4, none⟩ = some (.slice A4a n4a c4a) ∧ w'.cell? ⟨A, 5, none⟩ = some (.slice A5a n5a c5a) ∧ w'.cell? ⟨B, 0, none⟩ = some (.int .i64 3) ∧ w'.cell? ⟨B, 1, none⟩ = some (.int .i64 Hb) ∧ w'.cell? ⟨B, 2, none⟩ = some (.string sb) ∧ w'.cell? ⟨B, 3, none⟩ = some (.slice A3b n3b c3b) ∧ w'.cell? ⟨B, 4, none⟩ = some (.slice A4b n4b c4b) ∧ w'.cell? ⟨B, 5, none⟩ = some (.slice A5b n5b c5b) ∧ w'.cell? ⟨C, 0, none⟩ = some (.int .i64 3) ∧ w'.cell? ⟨C, 1, none⟩ = some (.int .i64 Hc) ∧ w'.cell? ⟨C, 2, none⟩ = some (.string sc) ∧ w'.cell? ⟨C, 3, none⟩ = some (.slice A3c n3c c3c) ∧ w'.cell? ⟨C, 4, none⟩ = some (.slice A4c n4c c4c) ∧ w'.cell? ⟨C, 5, none⟩ = some (.slice A5c n5c c5c) ∧ SPN w [(A, #[.int .i64 3, .int .i64 Ha, .string sa, .slice A3a n3a c3a, .slice A4a n4a c4a, .slice A5a n5a c5a], 26), (B, #[.int .i64 3, .int .i64 Hb, .string sb, .slice A3b n3b c3b, .slice A4b n4b c4b, .slice A5b n5b c5b], 26), (C, #[.int .i64 3, .int .i64 Hc, .string sc, .slice A3c n3c c3c, .slice A4c n4c c4c, .slice A5c n5c c5c], 26)] w' := ⟨((six_cells ((SPN.pre3 hF).1.get 0 rfl)).1), ((six_cells ((SPN.pre3 hF).1.get 0 rfl)).2.1), ((six_cells ((SPN.pre3 hF).1.get 0 rfl)).2.2.1), ((six_cells ((SPN.pre3 hF).1.get 0 rfl)).2.2.2.1), ((six_cells ((SPN.pre3 hF).1.get 0 rfl)).2.2.2.2.1), ((six_cells ((SPN.pre3 hF).1.get 0 rfl)).2.2.2.2.2.1), ((six_cells ((SPN.pre3 hF).1.get 1 rfl)).1), ((six_cells ((SPN.pre3 hF).1.get 1 rfl)).2.1), ((six_cells ((SPN.pre3 hF).1.get 1 rfl)).2.2.1), ((six_cells ((SPN.pre3 hF).1.get 1 rfl)).2.2.2.1), ((six_cells ((SPN.pre3 hF).1.get 1 rfl)).2.2.2.2.1), ((six_cells ((SPN.pre3 hF).1.get 1 rfl)).2.2.2.2.2.1), ((six_cells ((SPN.pre3 hF).1.get 2 rfl)).1), ((six_cells ((SPN.pre3 hF).1.get 2 rfl)).2.1), ((six_cells ((SPN.pre3 hF).1.get 2 rfl)).2.2.1), ((six_cells ((SPN.pre3 hF).1.get 2 rfl)).2.2.2.1), ((six_cells ((SPN.pre3 hF).1.get 2 rfl)).2.2.2.2.1), ((six_cells ((SPN.pre3 hF).1.get 2 rfl)).2.2.2.2.2.1), (SPN.pre3 hF)⟩
  refine norm_ (a' := ?_) ?_ ?_
  rotate_left
  · simp only [putAll, Act.put, List.setIfInBounds_toArray, List.set_cons_zero, List.set_cons_succ]
    rfl
  refine one_ (i := 8) (N := none) #[true, true, true, true, true, true, true, true, true, false] rfl rfl (by kernel_rfl) (by decide) (fun K hK => ?_)
  obtain ⟨y0, y1, y2, y3, y4, y5, y6, f0, f1, f2, f3, f4, f5, f6⟩ := sev_cells (hF.1.get 3 rfl)
  refine put7_  (v0 := .int .i64 3) (v1 := .int .i64 (Ha + Hb)) (v2 := .string ⟨#[]⟩) (v3 := .slice none 0 0) (v4 := .slice none 0 0) (v5 := .slice none 0 0) (v6 := .int .i64 0) (hF) 3 rfl (by rfl) rfl ?_ ?_
  · first | (go_simp; done) | (go_simp; rfl)
  clear y0 y1 y2 y3 y4 y5 y6 f0 f1 f2 f3 f4 f5 f6
  intro w23 hz8
  change SPN w [(A, #[.int .i64 3, .int .i64 Ha, .string sa, .slice A3a n3a c3a, .slice A4a n4a c4a, .slice A5a n5a c5a], 26), (B, #[.int .i64 3, .int .i64 Hb, .string sb, .slice A3b n3b c3b, .slice A4b n4b c4b, .slice A5b n5b c5b], 26), (C, #[.int .i64 3, .int .i64 Hc, .string sc, .slice A3c n3c c3c, .slice A4c n4c c4c, .slice A5c n5c c5c], 26), (R, #[.int .i64 3, .int .i64 (Ha + Hb), .string ⟨#[]⟩, .slice none 0 0, .slice none 0 0, .slice none 0 0, .int .i64 0], 30), (T, #[.int .i64 0, .int .i64 0, .string ⟨#[]⟩, .slice none 0 0, .slice none 0 0, .slice none 0 0, .int .i64 0], 30)] w23 at hz8
  refine hK.out _ _ ⟨((six_cells ((SPN.pre3 hz8).1.get 0 rfl)).1), ((six_cells ((SPN.pre3 hz8).1.get 0 rfl)).2.1), ((six_cells ((SPN.pre3 hz8).1.get 0 rfl)).2.2.1), ((six_cells ((SPN.pre3 hz8).1.get 0 rfl)).2.2.2.1), ((six_cells ((SPN.pre3 hz8).1.get 0 rfl)).2.2.2.2.1), ((six_cells ((SPN.pre3 hz8).1.get 0 rfl)).2.2.2.2.2.1), ((six_cells ((SPN.pre3 hz8).1.get 1 rfl)).1), ((six_cells ((SPN.pre3 hz8).1.get 1 rfl)).2.1), ((six_cells ((SPN.pre3 hz8).1.get 1 rfl)).2.2.1), ((six_cells ((SPN.pre3 hz8).1.get 1 rfl)).2.2.2.1), ((six_cells ((SPN.pre3 hz8).1.get 1 rfl)).2.2.2.2.1), ((six_cells ((SPN.pre3 hz8).1.get 1 rfl)).2.2.2.2.2.1), ((six_cells ((SPN.pre3 hz8).1.get 2 rfl)).1), ((six_cells ((SPN.pre3 hz8).1.get 2 rfl)).2.1), ((six_cells ((SPN.pre3 hz8).1.get 2 rfl)).2.2.1), ((six_cells ((SPN.pre3 hz8).1.get 2 rfl)).2.2.2.1), ((six_cells ((SPN.pre3 hz8).1.get 2 rfl)).2.2.2.2.1), ((six_cells ((SPN.pre3 hz8).1.get 2 rfl)).2.2.2.2.2.1), (SPN.pre3 hz8)⟩ (fun hHeld => ?_)
  clear hK K
  refine one_ (i := 9) (N := none) #[true, true, true, true, true, true, true, true, true, true] rfl rfl (by kernel_rfl) (by decide) (fun K hK => ?_)
  obtain ⟨y0, y1, y2, y3, y4, y5, y6, f0, f1, f2, f3, f4, f5, f6⟩ := sev_cells (hz8.1.get 4 rfl)
  refine put7_  (v0 := .int .i64 3) (v1 := .int .i64 (Hb + Hc)) (v2 := .string ⟨#[]⟩) (v3 := .slice none 0 0) (v4 := .slice none 0 0) (v5 := .slice none 0 0) (v6 := .int .i64 0) (hz8) 4 rfl (by rfl) rfl ?_ ?_
  · first | (go_simp; done) | (go_simp; rfl)
  clear y0 y1 y2 y3 y4 y5 y6 f0 f1 f2 f3 f4 f5 f6
  intro w24 hz9
  change SPN w [(A, #[.int .i64 3, .int .i64 Ha, .string sa, .slice A3a n3a c3a, .slice A4a n4a c4a, .slice A5a n5a c5a], 26), (B, #[.int .i64 3, .int .i64 Hb, .string sb, .slice A3b n3b c3b, .slice A4b n4b c4b, .slice A5b n5b c5b], 26), (C, #[.int .i64 3, .int .i64 Hc, .string sc, .slice A3c n3c c3c, .slice A4c n4c c4c, .slice A5c n5c c5c], 26), (R, #[.int .i64 3, .int .i64 (Ha + Hb), .string ⟨#[]⟩, .slice none 0 0, .slice none 0 0, .slice none 0 0, .int .i64 0], 30), (T, #[.int .i64 3, .int .i64 (Hb + Hc), .string ⟨#[]⟩, .slice none 0 0, .slice none 0 0, .slice none 0 0, .int .i64 0], 30)] w24 at hz9
  refine hK.out _ _ ⟨((six_cells ((SPN.pre3 hz9).1.get 0 rfl)).1), ((six_cells ((SPN.pre3 hz9).1.get 0 rfl)).2.1), ((six_cells ((SPN.pre3 hz9).1.get 0 rfl)).2.2.1), ((six_cells ((SPN.pre3 hz9).1.get 0 rfl)).2.2.2.1), ((six_cells ((SPN.pre3 hz9).1.get 0 rfl)).2.2.2.2.1), ((six_cells ((SPN.pre3 hz9).1.get 0 rfl)).2.2.2.2.2.1), ((six_cells ((SPN.pre3 hz9).1.get 1 rfl)).1), ((six_cells ((SPN.pre3 hz9).1.get 1 rfl)).2.1), ((six_cells ((SPN.pre3 hz9).1.get 1 rfl)).2.2.1), ((six_cells ((SPN.pre3 hz9).1.get 1 rfl)).2.2.2.1), ((six_cells ((SPN.pre3 hz9).1.get 1 rfl)).2.2.2.2.1), ((six_cells ((SPN.pre3 hz9).1.get 1 rfl)).2.2.2.2.2.1), ((six_cells ((SPN.pre3 hz9).1.get 2 rfl)).1), ((six_cells ((SPN.pre3 hz9).1.get 2 rfl)).2.1), ((six_cells ((SPN.pre3 hz9).1.get 2 rfl)).2.2.1), ((six_cells ((SPN.pre3 hz9).1.get 2 rfl)).2.2.2.1), ((six_cells ((SPN.pre3 hz9).1.get 2 rfl)).2.2.2.2.1), ((six_cells ((SPN.pre3 hz9).1.get 2 rfl)).2.2.2.2.2.1), (SPN.pre3 hz9)⟩ (fun hHeld => ?_)
  clear hK K
  refine done_ (by kernel_rfl) ?_
  have HZ := Lib.hid hz9.1
  clear hz9 hz8 hF hHeld
  go_wp2_with fail
  refine start_ (n := 25) (S := fun w' => w'.cell? ⟨A, 0, none⟩ = some (.int .i64 3) ∧ w'.cell? ⟨A, 1, none⟩ = some (.int .i64 Ha) ∧ w'.cell? ⟨A, 2, none⟩ = some (.string sa) ∧ w'.cell? ⟨A, 3, none⟩ = some (.slice A3a n3a c3a) ∧ w'.cell? ⟨A, 4, none⟩ = some (.slice A4a n4a c4a) ∧ w'.cell? ⟨A, 5, none⟩ = some (.slice A5a n5a c5a) ∧ w'.cell? ⟨B, 0, none⟩ = some (.int .i64 3) ∧ w'.cell? ⟨B, 1, none⟩ = some (.int .i64 Hb) ∧ w'.cell? ⟨B, 2, none⟩ = some (.string sb) ∧ w'.cell? ⟨B, 3, none⟩ = some (.slice A3b n3b c3b) ∧ w'.cell? ⟨B, 4, none⟩ = some (.slice A4b n4b c4b) ∧ w'.cell? ⟨B, 5, none⟩ = some (.slice A5b n5b c5b) ∧ w'.cell? ⟨C, 0, none⟩ = some (.int .i64 3) ∧ w'.cell? ⟨C, 1, none⟩ = some (.int .i64 Hc) ∧ w'.cell? ⟨C, 2, none⟩ = some (.string sc) ∧ w'.cell? ⟨C, 3, none⟩ = some (.slice A3c n3c c3c) ∧ w'.cell? ⟨C, 4, none⟩ = some (.slice A4c n4c c4c) ∧ w'.cell? ⟨C, 5, none⟩ = some (.slice A5c n5c c5c) ∧ w'.cell? ⟨R, 0, none⟩ = some (.int .i64 3) ∧ w'.cell? ⟨R, 1, none⟩ = some (.int .i64 (Ha + Hb)) ∧ w'.cell? ⟨R, 2, none⟩ = some (.string ⟨#[]⟩) ∧ w'.cell? ⟨R, 3, none⟩ = some (.slice none 0 0) ∧ w'.cell? ⟨R, 4, none⟩ = some (.slice none 0 0) ∧ w'.cell? ⟨R, 5, none⟩ = some (.slice none 0 0) ∧ w'.cell? ⟨R, 6, none⟩ = some (.int .i64 0) ∧ w'.cell? ⟨T, 0, none⟩ = some (.int .i64 3) ∧ w'.cell? ⟨T, 1, none⟩ = some (.int .i64 (Hb + Hc)) ∧ w'.cell? ⟨T, 2, none⟩ = some (.string ⟨#[]⟩) ∧ w'.cell? ⟨T, 3, none⟩ = some (.slice none 0 0) ∧ w'.cell? ⟨T, 4, none⟩ = some (.slice none 0 0) ∧ w'.cell? ⟨T, 5, none⟩ = some (.slice none 0 0) ∧ w'.cell? ⟨T, 6, none⟩ = some (.int .i64 0) ∧ SPL w [(A, #[.int .i64 3, .int .i64 Ha, .string sa, .slice A3a n3a c3a, .slice A4a n4a c4a, .slice A5a n5a c5a], 26), (B, #[.int .i64 3, .int .i64 Hb, .string sb, .slice A3b n3b c3b, .slice A4b n4b c4b, .slice A5b n5b c5b], 26), (C, #[.int .i64 3, .int .i64 Hc, .string sc, .slice A3c n3c c3c, .slice A4c n4c c4c, .slice A5c n5c c5c], 26), (R, #[.int .i64 3, .int .i64 (Ha + Hb), .string ⟨#[]⟩, .slice none 0 0, .slice none 0 0, .slice none 0 0, .int .i64 0], 30), (T, #[.int .i64 3, .int .i64 (Hb + Hc), .string ⟨#[]⟩, .slice none 0 0, .slice none 0 0, .slice none 0 0, .int .i64 0], 30)] w') (ds := []) #[false, false, false, false, false, false, false, false, false, false, false, false, false, false, false, false, false, false, false, false, false, false, false, false, false] (by kernel_rfl) rfl rfl ⟨((six_cells ((SPL.drew HZ.out).get 0 rfl)).1), ((six_cells ((SPL.drew HZ.out).get 0 rfl)).2.1), ((six_cells ((SPL.drew HZ.out).get 0 rfl)).2.2.1), ((six_cells ((SPL.drew HZ.out).get 0 rfl)).2.2.2.1), ((six_cells ((SPL.drew HZ.out).get 0 rfl)).2.2.2.2.1), ((six_cells ((SPL.drew HZ.out).get 0 rfl)).2.2.2.2.2.1), ((six_cells ((SPL.drew HZ.out).get 1 rfl)).1), ((six_cells ((SPL.drew HZ.out).get 1 rfl)).2.1), ((six_cells ((SPL.drew HZ.out).get 1 rfl)).2.2.1), ((six_cells ((SPL.drew HZ.out).get 1 rfl)).2.2.2.1), ((six_cells ((SPL.drew HZ.out).get 1 rfl)).2.2.2.2.1), ((six_cells ((SPL.drew HZ.out).get 1 rfl)).2.2.2.2.2.1), ((six_cells ((SPL.drew HZ.out).get 2 rfl)).1), ((six_cells ((SPL.drew HZ.out).get 2 rfl)).2.1), ((six_cells ((SPL.drew HZ.out).get 2 rfl)).2.2.1), ((six_cells ((SPL.drew HZ.out).get 2 rfl)).2.2.2.1), ((six_cells ((SPL.drew HZ.out).get 2 rfl)).2.2.2.2.1), ((six_cells ((SPL.drew HZ.out).get 2 rfl)).2.2.2.2.2.1), ((sev_cells ((SPL.drew HZ.out).get 3 rfl)).1), ((sev_cells ((SPL.drew HZ.out).get 3 rfl)).2.1), ((sev_cells ((SPL.drew HZ.out).get 3 rfl)).2.2.1), ((sev_cells ((SPL.drew HZ.out).get 3 rfl)).2.2.2.1), ((sev_cells ((SPL.drew HZ.out).get 3 rfl)).2.2.2.2.1), ((sev_cells ((SPL.drew HZ.out).get 3 rfl)).2.2.2.2.2.1), ((sev_cells ((SPL.drew HZ.out).get 3 rfl)).2.2.2.2.2.2.1), ((sev_cells ((SPL.drew HZ.out).get 4 rfl)).1), ((sev_cells ((SPL.drew HZ.out).get 4 rfl)).2.1), ((sev_cells ((SPL.drew HZ.out).get 4 rfl)).2.2.1), ((sev_cells ((SPL.drew HZ.out).get 4 rfl)).2.2.2.1), ((sev_cells ((SPL.drew HZ.out).get 4 rfl)).2.2.2.2.1), ((sev_cells ((SPL.drew HZ.out).get 4 rfl)).2.2.2.2.2.1), ((sev_cells ((SPL.drew HZ.out).get 4 rfl)).2.2.2.2.2.2.1), (SPL.drew HZ.out)⟩ (fun hHeld => ?_)
  refine pure_ (i := 0) (N := some 41) (v := ?_) (a' := ?_) #[true, false, false, false, false, false, false, false, false, false, false, false, false, false, false, false, false, false, false, false, false, false, false, false, false] rfl rfl (by kernel_rfl) (fun _ _ _ h => h) (Or.inl ⟨by rfl, ?_⟩) ?_ ?_
  rotate_left
  · intro w'
    go_simp
    with_reducible rfl
  rotate_left
  · simp only [Act.put, List.setIfInBounds_toArray, List.set_cons_zero, List.set_cons_succ, i64_w, i32_w]
    rfl
  refine pure_ (i := 1) (N := some 42) (v := ?_) (a' := ?_) #[true, true, false, false, false, false, false, false, false, false, false, false, false, false, false, false, false, false, false, false, false, false, false, false, false] rfl rfl (by kernel_rfl) (fun _ _ _ h => h) (Or.inl ⟨by rfl, ?_⟩) ?_ ?_
  rotate_left
  · intro w'
    go_simp
    with_reducible rfl
  rotate_left
  · simp only [Act.put, List.setIfInBounds_toArray, List.set_cons_zero, List.set_cons_succ, i64_w, i32_w]
    rfl
  refine take_ (i := 2) (N := some 43) (v := ?_) (a' := ?_) #[true, true, true, false, false, false, false, false, false, false, false, false, false, false, false, false, false, false, false, false, false, false, false, false, false] rfl rfl (by kernel_rfl) (fun _ _ _ h => h) (Or.inl ⟨by rfl, ?_⟩) hHeld ?_ ?_
  rotate_left
  · rintro w' ⟨s0, s1, s2, s3, s4, s5, s6, s7, s8, s9, s10, s11, s12, s13, s14, s15, s16, s17, s18, s19, s20, s21, s22, s23, s24, s25, s26, s27, s28, s29, s30, s31, s32⟩
    go_simp
    with_reducible rfl
  rotate_left
  · simp only [Act.put, List.setIfInBounds_toArray, List.set_cons_zero, List.set_cons_succ, i64_w, i32_w]
    rfl
  refine pure_ (i := 3) (N := some 44) (v := ?_) (a' := ?_) #[true, true, true, true, false, false, false, false, false, false, false, false, false, false, false, false, false, false, false, false, false, false, false, false, false] rfl rfl (by kernel_rfl) (fun _ _ _ h => h) (Or.inl ⟨by rfl, ?_⟩) ?_ ?_
  rotate_left
  · intro w'
    go_simp
    with_reducible rfl
  rotate_left
  · simp only [Act.put, List.setIfInBounds_toArray, List.set_cons_zero, List.set_cons_succ, i64_w, i32_w]
    rfl
  refine pure_ (i := 4) (N := some 45) (v := ?_) (a' := ?_) #[true, true, true, true, true, false, false, false, false, false, false, false, false, false, false, false, false, false, false, false, false, false, false, false, false] rfl rfl (by kernel_rfl) (fun _ _ _ h => h) (Or.inl ⟨by rfl, ?_⟩) ?_ ?_
  rotate_left
  · intro w'
    go_simp
    with_reducible rfl
  rotate_left
  · simp only [Act.put, List.setIfInBounds_toArray, List.set_cons_zero, List.set_cons_succ, i64_w, i32_w]
    rfl
  refine take_ (i := 5) (N := some 46) (v := ?_) (a' := ?_) #[true, true, true, true, true, true, false, false, false, false, false, false, false, false, false, false, false, false, false, false, false, false, false, false, false] rfl rfl (by kernel_rfl) (fun _ _ _ h => h) (Or.inl ⟨by rfl, ?_⟩) hHeld ?_ ?_
  rotate_left
  · rintro w' ⟨s0, s1, s2, s3, s4, s5, s6, s7, s8, s9, s10, s11, s12, s13, s14, s15, s16, s17, s18, s19, s20, s21, s22, s23, s24, s25, s26, s27, s28, s29, s30, s31, s32⟩
    go_simp
    with_reducible rfl
  rotate_left
  · simp only [Act.put, List.setIfInBounds_toArray, List.set_cons_zero, List.set_cons_succ, i64_w, i32_w]
    rfl
  refine take_ (i := 6) (N := some 47) (v := ?_) (a' := ?_) #[true, true, true, true, true, true, true, false, false, false, false, false, false, false, false, false, false, false, false, false, false, false, false, false, false] rfl rfl (by kernel_rfl) (fun _ _ _ h => h) (Or.inl ⟨by rfl, ?_⟩) hHeld ?_ ?_
  rotate_left
  · rintro w' ⟨s0, s1, s2, s3, s4, s5, s6, s7, s8, s9, s10, s11, s12, s13, s14, s15, s16, s17, s18, s19, s20, s21, s22, s23, s24, s25, s26, s27, s28, s29, s30, s31, s32⟩
    go_simp
    with_reducible rfl
  rotate_left
  · simp only [Act.put, List.setIfInBounds_toArray, List.set_cons_zero, List.set_cons_succ, i64_w, i32_w]
    rfl
  refine take_ (i := 7) (N := some 48) (v := ?_) (a' := ?_) #[true, true, true, true, true, true, true, true, false, false, false, false, false, false, false, false, false, false, false, false, false, false, false, false, false] rfl rfl (by kernel_rfl) (fun _ _ _ h => h) (Or.inl ⟨by rfl, ?_⟩) hHeld ?_ ?_
  rotate_left
  · rintro w' ⟨s0, s1, s2, s3, s4, s5, s6, s7, s8, s9, s10, s11, s12, s13, s14, s15, s16, s17, s18, s19, s20, s21, s22, s23, s24, s25, s26, s27, s28, s29, s30, s31, s32⟩
    go_simp
    with_reducible rfl
  rotate_left
  · simp only [Act.put, List.setIfInBounds_toArray, List.set_cons_zero, List.set_cons_succ, i64_w, i32_w]
    rfl
  refine one_ (i := 8) (N := some 49) #[true, true, true, true, true, true, true, true, true, false, false, false, false, false, false, false, false, false, false, false, false, false, false, false, false] rfl rfl (by kernel_rfl) (by decide) (fun K hK => ?_)
  refine goes_ Tryz.func17 (by kernel_rfl) rfl #[.agg #[.int .i64 3, .int .i64 Hb, .string sb, .slice A3b n3b c3b, .slice A4b n4b c4b, .slice A5b n5b c5b], .agg #[.int .i64 3, .int .i64 Ha, .string sa, .slice A3a n3a c3a, .slice A4a n4a c4a, .slice A5a n5a c5a]] (by rfl) rfl rfl (by simp only [List.map_toArray, List.map_cons, List.map_nil]; rfl) ?_
  with_reducible refine ((HBA.out _)).mono ?_
  rintro e w3 ⟨rfl, hb⟩
  refine ⟨_, rfl, ?_⟩
  have hz := SPL.below (hHeld.2.2.2.2.2.2.2.2.2.2.2.2.2.2.2.2.2.2.2.2.2.2.2.2.2.2.2.2.2.2.2.2) hb
  refine hK.out _ _ ⟨((six_cells (hz.get 0 rfl)).1), ((six_cells (hz.get 0 rfl)).2.1), ((six_cells (hz.get 0 rfl)).2.2.1), ((six_cells (hz.get 0 rfl)).2.2.2.1), ((six_cells (hz.get 0 rfl)).2.2.2.2.1), ((six_cells (hz.get 0 rfl)).2.2.2.2.2.1), ((six_cells (hz.get 1 rfl)).1), ((six_cells (hz.get 1 rfl)).2.1), ((six_cells (hz.get 1 rfl)).2.2.1), ((six_cells (hz.get 1 rfl)).2.2.2.1), ((six_cells (hz.get 1 rfl)).2.2.2.2.1), ((six_cells (hz.get 1 rfl)).2.2.2.2.2.1), ((six_cells (hz.get 2 rfl)).1), ((six_cells (hz.get 2 rfl)).2.1), ((six_cells (hz.get 2 rfl)).2.2.1), ((six_cells (hz.get 2 rfl)).2.2.2.1), ((six_cells (hz.get 2 rfl)).2.2.2.2.1), ((six_cells (hz.get 2 rfl)).2.2.2.2.2.1), ((sev_cells (hz.get 3 rfl)).1), ((sev_cells (hz.get 3 rfl)).2.1), ((sev_cells (hz.get 3 rfl)).2.2.1), ((sev_cells (hz.get 3 rfl)).2.2.2.1), ((sev_cells (hz.get 3 rfl)).2.2.2.2.1), ((sev_cells (hz.get 3 rfl)).2.2.2.2.2.1), ((sev_cells (hz.get 3 rfl)).2.2.2.2.2.2.1), ((sev_cells (hz.get 4 rfl)).1), ((sev_cells (hz.get 4 rfl)).2.1), ((sev_cells (hz.get 4 rfl)).2.2.1), ((sev_cells (hz.get 4 rfl)).2.2.2.1), ((sev_cells (hz.get 4 rfl)).2.2.2.2.1), ((sev_cells (hz.get 4 rfl)).2.2.2.2.2.1), ((sev_cells (hz.get 4 rfl)).2.2.2.2.2.2.1), hz⟩ (fun hHeld => ?_)
  clear hK K
  refine norm_ (a' := ?_) ?_ ?_
  rotate_left
  · show Act.put _ (some 49) _ = _
    simp only [Act.put, List.setIfInBounds_toArray, List.set_cons_zero, List.set_cons_succ, i64_w, i32_w]
    rfl
  refine pure_ (i := 9) (N := some 50) (v := ?_) (a' := ?_) #[true, true, true, true, true, true, true, true, true, true, false, false, false, false, false, false, false, false, false, false, false, false, false, false, false] rfl rfl (by kernel_rfl) (fun _ _ _ h => h) (Or.inl ⟨by rfl, ?_⟩) ?_ ?_
  rotate_left
  · intro w'
    go_simp
    with_reducible rfl
  rotate_left
  · simp only [Act.put, List.setIfInBounds_toArray, List.set_cons_zero, List.set_cons_succ, i64_w, i32_w]
    rfl
  refine one_ (i := 10) (N := some 51) #[true, true, true, true, true, true, true, true, true, true, true, false, false, false, false, false, false, false, false, false, false, false, false, false, false] rfl rfl (by kernel_rfl) (by decide) (fun K hK => ?_)
  refine goes_ Tryz.func18 (by kernel_rfl) rfl #[.agg #[.int .i64 3, .int .i64 (Ha + Hb), .string ⟨#[]⟩, .slice none 0 0, .slice none 0 0, .slice none 0 0, .int .i64 0], .agg #[.int .i64 3, .int .i64 (Ha + Hb), .string ⟨#[]⟩, .slice none 0 0, .slice none 0 0, .slice none 0 0]] (by rfl) rfl rfl (by simp only [List.map_toArray, List.map_cons, List.map_nil]; rfl) ?_
  with_reducible refine ((HG1.out _)).mono ?_
  rintro e w3 ⟨rfl, hb⟩
  refine ⟨_, rfl, ?_⟩
  have hz := SPL.below (hHeld.2.2.2.2.2.2.2.2.2.2.2.2.2.2.2.2.2.2.2.2.2.2.2.2.2.2.2.2.2.2.2.2) hb
  refine hK.out _ _ ⟨((six_cells (hz.get 0 rfl)).1), ((six_cells (hz.get 0 rfl)).2.1), ((six_cells (hz.get 0 rfl)).2.2.1), ((six_cells (hz.get 0 rfl)).2.2.2.1), ((six_cells (hz.get 0 rfl)).2.2.2.2.1), ((six_cells (hz.get 0 rfl)).2.2.2.2.2.1), ((six_cells (hz.get 1 rfl)).1), ((six_cells (hz.get 1 rfl)).2.1), ((six_cells (hz.get 1 rfl)).2.2.1), ((six_cells (hz.get 1 rfl)).2.2.2.1), ((six_cells (hz.get 1 rfl)).2.2.2.2.1), ((six_cells (hz.get 1 rfl)).2.2.2.2.2.1), ((six_cells (hz.get 2 rfl)).1), ((six_cells (hz.get 2 rfl)).2.1), ((six_cells (hz.get 2 rfl)).2.2.1), ((six_cells (hz.get 2 rfl)).2.2.2.1), ((six_cells (hz.get 2 rfl)).2.2.2.2.1), ((six_cells (hz.get 2 rfl)).2.2.2.2.2.1), ((sev_cells (hz.get 3 rfl)).1), ((sev_cells (hz.get 3 rfl)).2.1), ((sev_cells (hz.get 3 rfl)).2.2.1), ((sev_cells (hz.get 3 rfl)).2.2.2.1), ((sev_cells (hz.get 3 rfl)).2.2.2.2.1), ((sev_cells (hz.get 3 rfl)).2.2.2.2.2.1), ((sev_cells (hz.get 3 rfl)).2.2.2.2.2.2.1), ((sev_cells (hz.get 4 rfl)).1), ((sev_cells (hz.get 4 rfl)).2.1), ((sev_cells (hz.get 4 rfl)).2.2.1), ((sev_cells (hz.get 4 rfl)).2.2.2.1), ((sev_cells (hz.get 4 rfl)).2.2.2.2.1), ((sev_cells (hz.get 4 rfl)).2.2.2.2.2.1), ((sev_cells (hz.get 4 rfl)).2.2.2.2.2.2.1), hz⟩ (fun hHeld => ?_)
  clear hK K
  refine norm_ (a' := ?_) ?_ ?_
  rotate_left
  · show Act.put _ (some 51) _ = _
    simp only [Act.put, List.setIfInBounds_toArray, List.set_cons_zero, List.set_cons_succ, i64_w, i32_w]
    rfl
  refine pure_ (i := 11) (N := some 52) (v := ?_) (a' := ?_) #[true, true, true, true, true, true, true, true, true, true, true, true, false, false, false, false, false, false, false, false, false, false, false, false, false] rfl rfl (by kernel_rfl) (fun _ _ _ h => h) (Or.inl ⟨by rfl, ?_⟩) ?_ ?_
  rotate_left
  · intro w'
    go_simp
    with_reducible rfl
  rotate_left
  · simp only [Act.put, List.setIfInBounds_toArray, List.set_cons_zero, List.set_cons_succ, i64_w, i32_w]
    rfl
  refine pure_ (i := 12) (N := some 53) (v := ?_) (a' := ?_) #[true, true, true, true, true, true, true, true, true, true, true, true, true, false, false, false, false, false, false, false, false, false, false, false, false] rfl rfl (by kernel_rfl) (fun _ _ _ h => h) (Or.inl ⟨by rfl, ?_⟩) ?_ ?_
  rotate_left
  · intro w'
    go_simp
    with_reducible rfl
  rotate_left
  · simp only [Act.put, List.setIfInBounds_toArray, List.set_cons_zero, List.set_cons_succ, i64_w, i32_w]
    rfl
  refine pure_ (i := 13) (N := some 54) (v := ?_) (a' := ?_) #[true, true, true, true, true, true, true, true, true, true, true, true, true, true, false, false, false, false, false, false, false, false, false, false, false] rfl rfl (by kernel_rfl) (fun _ _ _ h => h) (Or.inl ⟨by rfl, ?_⟩) ?_ ?_
  rotate_left
  · intro w'
    go_simp
    with_reducible rfl
  rotate_left
  · simp only [Act.put, List.setIfInBounds_toArray, List.set_cons_zero, List.set_cons_succ, i64_w, i32_w]
    rfl
  refine pure_ (i := 18) (N := some 59) (v := ?_) (a' := ?_) #[true, true, true, true, true, true, true, true, true, true, true, true, true, true, false, false, false, false, true, false, false, false, false, false, false] rfl rfl (by kernel_rfl) (fun _ _ _ h => h) (Or.inl ⟨by rfl, ?_⟩) ?_ ?_
  rotate_left
  · intro w'
    go_simp
    with_reducible rfl
  rotate_left
  · simp only [Act.put, List.setIfInBounds_toArray, List.set_cons_zero, List.set_cons_succ, i64_w, i32_w]
    rfl
  refine take_ (i := 14) (N := some 55) (v := ?_) (a' := ?_) #[true, true, true, true, true, true, true, true, true, true, true, true, true, true, true, false, false, false, true, false, false, false, false, false, false] rfl rfl (by kernel_rfl) (fun _ _ _ h => h) (Or.inl ⟨by rfl, ?_⟩) hHeld ?_ ?_
  rotate_left
  · rintro w' ⟨s0, s1, s2, s3, s4, s5, s6, s7, s8, s9, s10, s11, s12, s13, s14, s15, s16, s17, s18, s19, s20, s21, s22, s23, s24, s25, s26, s27, s28, s29, s30, s31, s32⟩
    go_simp
    with_reducible rfl
  rotate_left
  · simp only [Act.put, List.setIfInBounds_toArray, List.set_cons_zero, List.set_cons_succ, i64_w, i32_w]
    rfl
  refine take_ (i := 15) (N := some 56) (v := ?_) (a' := ?_) #[true, true, true, true, true, true, true, true, true, true, true, true, true, true, true, true, false, false, true, false, false, false, false, false, false] rfl rfl (by kernel_rfl) (fun _ _ _ h => h) (Or.inl ⟨by rfl, ?_⟩) hHeld ?_ ?_
  rotate_left
  · rintro w' ⟨s0, s1, s2, s3, s4, s5, s6, s7, s8, s9, s10, s11, s12, s13, s14, s15, s16, s17, s18, s19, s20, s21, s22, s23, s24, s25, s26, s27, s28, s29, s30, s31, s32⟩
    go_simp
    with_reducible rfl
  rotate_left
  · simp only [Act.put, List.setIfInBounds_toArray, List.set_cons_zero, List.set_cons_succ, i64_w, i32_w]
    rfl
  refine take_ (i := 17) (N := some 58) (v := ?_) (a' := ?_) #[true, true, true, true, true, true, true, true, true, true, true, true, true, true, true, true, false, true, true, false, false, false, false, false, false] rfl rfl (by kernel_rfl) (fun _ _ _ h => h) (Or.inl ⟨by rfl, ?_⟩) hHeld ?_ ?_
  rotate_left
  · rintro w' ⟨s0, s1, s2, s3, s4, s5, s6, s7, s8, s9, s10, s11, s12, s13, s14, s15, s16, s17, s18, s19, s20, s21, s22, s23, s24, s25, s26, s27, s28, s29, s30, s31, s32⟩
    go_simp
    with_reducible rfl
  rotate_left
  · simp only [Act.put, List.setIfInBounds_toArray, List.set_cons_zero, List.set_cons_succ, i64_w, i32_w]
    rfl
  refine take_ (i := 19) (N := some 60) (v := ?_) (a' := ?_) #[true, true, true, true, true, true, true, true, true, true, true, true, true, true, true, true, false, true, true, true, false, false, false, false, false] rfl rfl (by kernel_rfl) (fun _ _ _ h => h) (Or.inl ⟨by rfl, ?_⟩) hHeld ?_ ?_
  rotate_left
  · rintro w' ⟨s0, s1, s2, s3, s4, s5, s6, s7, s8, s9, s10, s11, s12, s13, s14, s15, s16, s17, s18, s19, s20, s21, s22, s23, s24, s25, s26, s27, s28, s29, s30, s31, s32⟩
    go_simp
    with_reducible rfl
  rotate_left
  · simp only [Act.put, List.setIfInBounds_toArray, List.set_cons_zero, List.set_cons_succ, i64_w, i32_w]
    rfl
  refine one_ (i := 16) (N := some 57) #[true, true, true, true, true, true, true, true, true, true, true, true, true, true, true, true, true, true, true, true, false, false, false, false, false] rfl rfl (by kernel_rfl) (by decide) (fun K hK => ?_)
  refine goes_ Tryz.func17 (by kernel_rfl) rfl #[.agg #[.int .i64 3, .int .i64 (Ha + Hb), .string ⟨#[]⟩, .slice none 0 0, .slice none 0 0, .slice none 0 0], .agg #[.int .i64 3, .int .i64 Hc, .string sc, .slice A3c n3c c3c, .slice A4c n4c c4c, .slice A5c n5c c5c]] (by rfl) rfl rfl (by simp only [List.map_toArray, List.map_cons, List.map_nil]; rfl) ?_
  with_reducible refine ((HX.out _)).mono ?_
  rintro e w3 ⟨rfl, hb⟩
  refine ⟨_, rfl, ?_⟩
  have hz := SPL.below (hHeld.2.2.2.2.2.2.2.2.2.2.2.2.2.2.2.2.2.2.2.2.2.2.2.2.2.2.2.2.2.2.2.2) hb
  refine hK.out _ _ ⟨((six_cells (hz.get 0 rfl)).1), ((six_cells (hz.get 0 rfl)).2.1), ((six_cells (hz.get 0 rfl)).2.2.1), ((six_cells (hz.get 0 rfl)).2.2.2.1), ((six_cells (hz.get 0 rfl)).2.2.2.2.1), ((six_cells (hz.get 0 rfl)).2.2.2.2.2.1), ((six_cells (hz.get 1 rfl)).1), ((six_cells (hz.get 1 rfl)).2.1), ((six_cells (hz.get 1 rfl)).2.2.1), ((six_cells (hz.get 1 rfl)).2.2.2.1), ((six_cells (hz.get 1 rfl)).2.2.2.2.1), ((six_cells (hz.get 1 rfl)).2.2.2.2.2.1), ((six_cells (hz.get 2 rfl)).1), ((six_cells (hz.get 2 rfl)).2.1), ((six_cells (hz.get 2 rfl)).2.2.1), ((six_cells (hz.get 2 rfl)).2.2.2.1), ((six_cells (hz.get 2 rfl)).2.2.2.2.1), ((six_cells (hz.get 2 rfl)).2.2.2.2.2.1), ((sev_cells (hz.get 3 rfl)).1), ((sev_cells (hz.get 3 rfl)).2.1), ((sev_cells (hz.get 3 rfl)).2.2.1), ((sev_cells (hz.get 3 rfl)).2.2.2.1), ((sev_cells (hz.get 3 rfl)).2.2.2.2.1), ((sev_cells (hz.get 3 rfl)).2.2.2.2.2.1), ((sev_cells (hz.get 3 rfl)).2.2.2.2.2.2.1), ((sev_cells (hz.get 4 rfl)).1), ((sev_cells (hz.get 4 rfl)).2.1), ((sev_cells (hz.get 4 rfl)).2.2.1), ((sev_cells (hz.get 4 rfl)).2.2.2.1), ((sev_cells (hz.get 4 rfl)).2.2.2.2.1), ((sev_cells (hz.get 4 rfl)).2.2.2.2.2.1), ((sev_cells (hz.get 4 rfl)).2.2.2.2.2.2.1), hz⟩ (fun hHeld => ?_)
  clear hK K
  refine norm_ (a' := ?_) ?_ ?_
  rotate_left
  · show Act.put _ (some 57) _ = _
    simp only [Act.put, List.setIfInBounds_toArray, List.set_cons_zero, List.set_cons_succ, i64_w, i32_w]
    rfl
  refine one_ (i := 20) (N := some 61) #[true, true, true, true, true, true, true, true, true, true, true, true, true, true, true, true, true, true, true, true, true, false, false, false, false] rfl rfl (by kernel_rfl) (by decide) (fun K hK => ?_)
  refine goes_ Tryz.func17 (by kernel_rfl) rfl #[.agg #[.int .i64 3, .int .i64 Ha, .string sa, .slice A3a n3a c3a, .slice A4a n4a c4a, .slice A5a n5a c5a], .agg #[.int .i64 3, .int .i64 (Hb + Hc), .string ⟨#[]⟩, .slice none 0 0, .slice none 0 0, .slice none 0 0]] (by rfl) rfl rfl (by simp only [List.map_toArray, List.map_cons, List.map_nil]; rfl) ?_
  with_reducible refine ((HY.out _)).mono ?_
  rintro e w3 ⟨rfl, hb⟩
  refine ⟨_, rfl, ?_⟩
  have hz := SPL.below (hHeld.2.2.2.2.2.2.2.2.2.2.2.2.2.2.2.2.2.2.2.2.2.2.2.2.2.2.2.2.2.2.2.2) hb
  refine hK.out _ _ ⟨((six_cells (hz.get 0 rfl)).1), ((six_cells (hz.get 0 rfl)).2.1), ((six_cells (hz.get 0 rfl)).2.2.1), ((six_cells (hz.get 0 rfl)).2.2.2.1), ((six_cells (hz.get 0 rfl)).2.2.2.2.1), ((six_cells (hz.get 0 rfl)).2.2.2.2.2.1), ((six_cells (hz.get 1 rfl)).1), ((six_cells (hz.get 1 rfl)).2.1), ((six_cells (hz.get 1 rfl)).2.2.1), ((six_cells (hz.get 1 rfl)).2.2.2.1), ((six_cells (hz.get 1 rfl)).2.2.2.2.1), ((six_cells (hz.get 1 rfl)).2.2.2.2.2.1), ((six_cells (hz.get 2 rfl)).1), ((six_cells (hz.get 2 rfl)).2.1), ((six_cells (hz.get 2 rfl)).2.2.1), ((six_cells (hz.get 2 rfl)).2.2.2.1), ((six_cells (hz.get 2 rfl)).2.2.2.2.1), ((six_cells (hz.get 2 rfl)).2.2.2.2.2.1), ((sev_cells (hz.get 3 rfl)).1), ((sev_cells (hz.get 3 rfl)).2.1), ((sev_cells (hz.get 3 rfl)).2.2.1), ((sev_cells (hz.get 3 rfl)).2.2.2.1), ((sev_cells (hz.get 3 rfl)).2.2.2.2.1), ((sev_cells (hz.get 3 rfl)).2.2.2.2.2.1), ((sev_cells (hz.get 3 rfl)).2.2.2.2.2.2.1), ((sev_cells (hz.get 4 rfl)).1), ((sev_cells (hz.get 4 rfl)).2.1), ((sev_cells (hz.get 4 rfl)).2.2.1), ((sev_cells (hz.get 4 rfl)).2.2.2.1), ((sev_cells (hz.get 4 rfl)).2.2.2.2.1), ((sev_cells (hz.get 4 rfl)).2.2.2.2.2.1), ((sev_cells (hz.get 4 rfl)).2.2.2.2.2.2.1), hz⟩ (fun hHeld => ?_)
  clear hK K
  refine norm_ (a' := ?_) ?_ ?_
  rotate_left
  · show Act.put _ (some 61) _ = _
    simp only [Act.put, List.setIfInBounds_toArray, List.set_cons_zero, List.set_cons_succ, i64_w, i32_w]
    rfl
  refine pure_ (i := 21) (N := some 62) (v := ?_) (a' := ?_) #[true, true, true, true, true, true, true, true, true, true, true, true, true, true, true, true, true, true, true, true, true, true, false, false, false] rfl rfl (by kernel_rfl) (fun _ _ _ h => h) (Or.inl ⟨by rfl, ?_⟩) ?_ ?_
  rotate_left
  · intro w'
    go_simp
    with_reducible rfl
  rotate_left
  · simp only [Act.put, List.setIfInBounds_toArray, List.set_cons_zero, List.set_cons_succ, i64_w, i32_w]
    rfl
  refine one_ (i := 22) (N := some 63) #[true, true, true, true, true, true, true, true, true, true, true, true, true, true, true, true, true, true, true, true, true, true, true, false, false] rfl rfl (by kernel_rfl) (by decide) (fun K hK => ?_)
  refine goes_ Tryz.func18 (by kernel_rfl) rfl #[.agg #[.int .i64 3, .int .i64 (Ha + Hb + Hc), .string ⟨#[]⟩, .slice none 0 0, .slice none 0 0, .slice none 0 0, .int .i64 0], .agg #[.int .i64 3, .int .i64 (Ha + Hb + Hc), .string ⟨#[]⟩, .slice none 0 0, .slice none 0 0, .slice none 0 0]] (by rfl) rfl rfl (by simp only [List.map_toArray, List.map_cons, List.map_nil]; rfl) ?_
  with_reducible refine ((HG2.out _)).mono ?_
  rintro e w3 ⟨rfl, hb⟩
  refine ⟨_, rfl, ?_⟩
  have hz := SPL.below (hHeld.2.2.2.2.2.2.2.2.2.2.2.2.2.2.2.2.2.2.2.2.2.2.2.2.2.2.2.2.2.2.2.2) hb
  refine hK.out _ _ ⟨((six_cells (hz.get 0 rfl)).1), ((six_cells (hz.get 0 rfl)).2.1), ((six_cells (hz.get 0 rfl)).2.2.1), ((six_cells (hz.get 0 rfl)).2.2.2.1), ((six_cells (hz.get 0 rfl)).2.2.2.2.1), ((six_cells (hz.get 0 rfl)).2.2.2.2.2.1), ((six_cells (hz.get 1 rfl)).1), ((six_cells (hz.get 1 rfl)).2.1), ((six_cells (hz.get 1 rfl)).2.2.1), ((six_cells (hz.get 1 rfl)).2.2.2.1), ((six_cells (hz.get 1 rfl)).2.2.2.2.1), ((six_cells (hz.get 1 rfl)).2.2.2.2.2.1), ((six_cells (hz.get 2 rfl)).1), ((six_cells (hz.get 2 rfl)).2.1), ((six_cells (hz.get 2 rfl)).2.2.1), ((six_cells (hz.get 2 rfl)).2.2.2.1), ((six_cells (hz.get 2 rfl)).2.2.2.2.1), ((six_cells (hz.get 2 rfl)).2.2.2.2.2.1), ((sev_cells (hz.get 3 rfl)).1), ((sev_cells (hz.get 3 rfl)).2.1), ((sev_cells (hz.get 3 rfl)).2.2.1), ((sev_cells (hz.get 3 rfl)).2.2.2.1), ((sev_cells (hz.get 3 rfl)).2.2.2.2.1), ((sev_cells (hz.get 3 rfl)).2.2.2.2.2.1), ((sev_cells (hz.get 3 rfl)).2.2.2.2.2.2.1), ((sev_cells (hz.get 4 rfl)).1), ((sev_cells (hz.get 4 rfl)).2.1), ((sev_cells (hz.get 4 rfl)).2.2.1), ((sev_cells (hz.get 4 rfl)).2.2.2.1), ((sev_cells (hz.get 4 rfl)).2.2.2.2.1), ((sev_cells (hz.get 4 rfl)).2.2.2.2.2.1), ((sev_cells (hz.get 4 rfl)).2.2.2.2.2.2.1), hz⟩ (fun hHeld => ?_)
  clear hK K
  refine norm_ (a' := ?_) ?_ ?_
  rotate_left
  · show Act.put _ (some 63) _ = _
    simp only [Act.put, List.setIfInBounds_toArray, List.set_cons_zero, List.set_cons_succ, i64_w, i32_w]
    rfl
  refine pure_ (i := 23) (N := some 64) (v := ?_) (a' := ?_) #[true, true, true, true, true, true, true, true, true, true, true, true, true, true, true, true, true, true, true, true, true, true, true, true, false] rfl rfl (by kernel_rfl) (fun _ _ _ h => h) (Or.inl ⟨by rfl, ?_⟩) ?_ ?_
  rotate_left
  · intro w'
    go_simp
    with_reducible rfl
  rotate_left
  · simp only [Act.put, List.setIfInBounds_toArray, List.set_cons_zero, List.set_cons_succ, i64_w, i32_w]
    rfl
  refine pure_ (i := 24) (N := some 6) (v := ?_) (a' := ?_) #[true, true, true, true, true, true, true, true, true, true, true, true, true, true, true, true, true, true, true, true, true, true, true, true, true] rfl rfl (by kernel_rfl) (fun _ _ _ h => h) (Or.inl ⟨by rfl, ?_⟩) ?_ ?_
  rotate_left
  · intro w'
    go_simp
    with_reducible rfl
  rotate_left
  · simp only [Act.put, List.setIfInBounds_toArray, List.set_cons_zero, List.set_cons_succ, i64_w, i32_w]
    rfl
  refine done_ (by kernel_rfl) ?_
  go_wp2_with fail
  go_ret
  exact ⟨rfl, hz.1⟩
end Go.Proofs.YtdcgjfiknknjfaaGreatDoor.ValA
