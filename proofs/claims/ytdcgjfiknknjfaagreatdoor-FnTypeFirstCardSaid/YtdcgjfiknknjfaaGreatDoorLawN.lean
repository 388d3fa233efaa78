/-
The laws of numbers: FnAddNumbers, FnSubBack, FnNegateSub.
-/
import Derived.Test.YtdcgjfiknknjfaaGreatDoorLookC
import Derived.Test.YtdcgjfiknknjfaaGreatDoorNumD
import Derived.Deep.RegionHeld3
set_option linter.unusedSimpArgs false
set_option linter.unusedVariables false
namespace Go.Proofs.YtdcgjfiknknjfaaGreatDoor.ValA
open Go.RowKit Go.Lib Go.Proofs.YtdcgjfiknknjfaaGreatDoorW.PrintWords Go.Proofs.YtdcgjfiknknjfaaGreatDoorW.PrintLast Go.Proofs.YtdcgjfiknknjfaaGreatDoorW.PrintMore Go.Proofs.YtdcgjfiknknjfaaGreatDoor.PzzFits1 Go.Proofs.YtdcgjfiknknjfaaGreatDoor.NumA
theorem fits2_ev (l : List ByteArray) (hl : l.length ≤ 9223372036854775807) : ∃ k r, laws_zzFits2.f k l = some r := by
  have loop : ∀ d (j : Nat), j + d = l.length → ∃ r, laws_zzFits2.l0 (d + 1) l l.length j = some r := by
    intro d
    induction d with
    | zero =>
      intro j hj
      exact ⟨true, by simp only [laws_zzFits2.l0]; rw [if_neg (by omega)]⟩
    | succ d ih =>
      intro j hj
      rw [laws_zzFits2.l0, if_pos (by omega), if_pos (by omega), if_pos (by omega)]
      by_cases c : ((rdOf ByteArray.empty l (j : Int)).size : Int) > 2147483647
      · exact ⟨false, by rw [if_pos c]⟩
      · rw [if_neg c]
        have hw : wrap64 ((j : Int) + 1) = ((j + 1 : Nat) : Int) := by unfold wrap64; omega
        rw [hw]
        exact ih (j + 1) (by omega)
  obtain ⟨r, hr⟩ := loop l.length 0 (by omega)
  by_cases c : (l.length : Int) > 2147483647
  · exact ⟨0, false, by unfold laws_zzFits2.f; rw [if_pos c]⟩
  · exact ⟨l.length + 1, r, by unfold laws_zzFits2.f; rw [if_neg c]; exact hr⟩
theorem fits1_any (w0 : World) (x : V) (K H : Int) (s : ByteArray) (A3 A4 A5 : Option Addr) (n3 c3 n4 c4 n5 c5 : Nat) (hK : k26.K w0 x [.int .i64 K, .int .i64 H, .string s, .slice A3 n3 c3, .slice A4 n4 c4, .slice A5 n5 c5]) (w : World) (hb : Below w0.heap.size w0 w) :
    Calls Tryz.prog 15 #[.agg #[.int .i64 K, .int .i64 H, .string s, .slice A3 n3 c3, .slice A4 n4 c4, .slice A5 n5 c5]] w (Says True w) := by
  obtain ⟨B3, e3, B4, e4, B5, e5, he, l3, g3, l4, g4, l5, g5⟩ := k26_open hK
  simp only [List.cons.injEq, Value.int.injEq, Value.string.injEq, Value.slice.injEq, true_and, and_true] at he
  obtain ⟨rfl, rfl, rfl, ⟨rfl, rfl, rfl⟩, ⟨rfl, rfl, rfl⟩, ⟨rfl, rfl, rfl⟩⟩ := he
  obtain ⟨k, r, hr⟩ := fits2_ev x.f4 g4.2.1
  have h1 : ∃ r1, laws_zzFits1.f k x.f0 x.f1 x.f2 x.f3 x.f4 x.f5 = some r1 := by
    unfold laws_zzFits1.f
    rw [hr]
    simp only [Option.bind_some]
    repeat (first | exact ⟨_, rfl⟩ | split)
  obtain ⟨r1, hr1⟩ := h1
  refine (laws_zzFits1.calls k x.f0 x.f1 x.f2 _ _ x.f3 _ _ x.f4 _ _ x.f5 r1 w (Kd.C_below g3 hb) l3 (Kd.C_below g4 hb) l4 (Kd.C_below g5 hb) l5 hr1).mono ?_
  rintro e w' ⟨rfl, hd⟩
  exact ⟨r1, rfl, fun _ => trivial, hd⟩
/-- What stands in memory: below as it was, and these blocks. -/
def SPL (w : World) (L : List (Nat × Array Value × TypeId)) (w' : World) : Prop := Below w.heap.size w w' ∧ ∀ p ∈ L, w'.heap[p.1]? = some (.cells p.2.1 p.2.2 (0, 0))
theorem SPL.below {w w1 w2 : World} {L : List (Nat × Array Value × TypeId)} (h : SPL w L w1) (hb : Below w1.heap.size w1 w2) : SPL w L w2 :=
  ⟨h.1.trans (hb.mono h.1.size), fun p hp => (hb.block p.1 (lt_of_heap (h.2 p hp))).trans (h.2 p hp)⟩
theorem SPL.drewN {w w1 : World} {L : List (Nat × Array Value × TypeId)} (h : SPL w L w1) (n : Nat) : SPL w L (w1.drewN n) := h.below (pw_below_drewN (Below.refl _ _) n)
theorem SPL.drew {w w1 : World} {L : List (Nat × Array Value × TypeId)} (h : SPL w L w1) : SPL w L w1.drew := h.drewN 1
theorem SPL.get {w w1 : World} {L : List (Nat × Array Value × TypeId)} (h : SPL w L w1) (i : Nat) {p : Nat × Array Value × TypeId} (hp : L[i]? = some p) : w1.heap[p.1]? = some (.cells p.2.1 p.2.2 (0, 0)) := h.2 p (List.mem_of_getElem? hp)
theorem SPL.nil (w : World) : SPL w [] w := ⟨Below.refl _ _, fun _ h => by cases h⟩
theorem SPL.more {w w1 : World} {L : List (Nat × Array Value × TypeId)} (h : SPL w L w1) (c : Array Value) (t : TypeId) : SPL w (L ++ [(w1.heap.size, c, t)]) (w1.alloc (.cells c t)) := by
  have hb : Below w1.heap.size w1 (w1.alloc (.cells c t)) := (Below.refl _ w1).alloc (Nat.le_refl _) _
  have h2 := h.below hb
  refine ⟨h2.1, fun p hp => ?_⟩
  rcases List.mem_append.1 hp with hp | hp
  · exact h2.2 p hp
  · obtain rfl := List.mem_singleton.1 hp
    exact heap_alloc_new w1 _
theorem SPL.box (w : World) (c : Array Value) (t : TypeId) : SPL w [(w.heap.size, c, t)] (w.alloc (.cells c t)) := (SPL.nil w).more c t
set_option maxRecDepth 100000 in
set_option maxHeartbeats 20000000 in
theorem fnNegateSub_any (w : World) (hE : Env w) (x : V) (hz : Sz x) (K H : Int) (s : ByteArray) (A3 A4 A5 : Option Addr) (n3 c3 n4 c4 n5 c5 : Nat) (hK : k26.K w x [.int .i64 K, .int .i64 H, .string s, .slice A3 n3 c3, .slice A4 n4 c4, .slice A5 n5 c5]) :
    Calls Tryz.prog 5 #[.agg #[.int .i64 K, .int .i64 H, .string s, .slice A3 n3 c3, .slice A4 n4 c4, .slice A5 n5 c5]] w fun e w' => e = .returned (.bool true) ∧ Below w.heap.size w w' := by
  have HF := Lib.hid (fun w1 hb => fits1_any w x K H s A3 A4 A5 n3 c3 n4 c4 n5 c5 hK w1 hb)
  have HU := Lib.hid (fun w1 hb => num_any w hE x hz K H s A3 A4 A5 n3 c3 n4 c4 n5 c5 hK 4503599627370496 (by omega) (by omega) w1 hb)
  clear hE hz hK
  go_enter Tryz.func5, Tryz.ntmps5
  go_wp2_with fail
  have h0 : SPL w [(w.heap.size, #[.int .i64 K, .int .i64 H, .string s, .slice A3 n3 c3, .slice A4 n4 c4, .slice A5 n5 c5], 26)] (w.alloc (.cells #[.int .i64 K, .int .i64 H, .string s, .slice A3 n3 c3, .slice A4 n4 c4, .slice A5 n5 c5] 26)) := SPL.box w _ _
  obtain ⟨W0, hW0⟩ : ∃ W0, W0 = w.alloc (.cells #[.int .i64 K, .int .i64 H, .string s, .slice A3 n3 c3, .slice A4 n4 c4, .slice A5 n5 c5] 26) := ⟨_, rfl⟩
  rw [← hW0] at h0 ⊢
  have H0 := Lib.hid h0
  clear h0 hW0
  refine (HF.out W0 H0.out.1).mono ?_
  rintro e w1 ⟨r, rfl, _, hb⟩
  have H1 := Lib.hid (H0.out.below hb)
  clear hb H0
  cases r with
  | false =>
    go_wp2_with fail
    go_ret
    exact ⟨rfl, H1.out.1⟩
  | true =>
    have y := six_cells (H1.out.get 0 rfl)
    go_wp2_with fail
    refine (HU.out w1 H1.out.1).mono ?_
    rintro e w2 ⟨r, rfl, hr, hb⟩
    have H2 := Lib.hid (H1.out.below hb)
    clear hb H1 y
    cases r with
    | false =>
      go_wp2_with fail
      go_ret
      exact ⟨rfl, H2.out.1⟩
    | true =>
      obtain ⟨_, rfl, h1, h2⟩ := hr rfl
      clear hr HF HU
      have g1 : -9007199254740992 ≤ H := by omega
      have g2 : H ≤ 9007199254740992 := by omega
      have HN0 := Lib.hid (fun w => spec_Num0 w)
      simp only [vl, rv, r0, eq_self_iff_true, decide_true] at HN0
      have HNE := Lib.hid (fun w => impl_neg H ⟨s, A3, n3, c3, A4, n4, c4, A5, n5, c5⟩ g1 g2 w)
      simp only [vl, rv, r0, eq_self_iff_true, decide_true] at HNE
      have HSU := Lib.hid (fun w => impl_sub 0 H r0 ⟨s, A3, n3, c3, A4, n4, c4, A5, n5, c5⟩ (by omega) (by omega) g1 g2 (by omega) (by omega) w)
      simp only [vl, rv, r0, eq_self_iff_true, decide_true] at HSU
      rw [Int.zero_sub] at HSU
      have HAD := Lib.hid (fun w => impl_add H (-H) ⟨s, A3, n3, c3, A4, n4, c4, A5, n5, c5⟩ r0 g1 g2 (by omega) (by omega) (by omega) (by omega) w)
      simp only [vl, rv, r0, eq_self_iff_true, decide_true] at HAD
      rw [Int.add_right_neg] at HAD
      have HG1 := Lib.hid (fun w => given_num (-H) (-H) r0 r0 w (by omega) (by omega) (by omega) (by omega))
      simp only [vl, rv, r0, eq_self_iff_true, decide_true] at HG1
      have HG2 := Lib.hid (fun w => given_num 0 0 r0 r0 w (by omega) (by omega) (by omega) (by omega))
      simp only [vl, rv, r0, eq_self_iff_true, decide_true] at HG2
      clear h1 h2 g1 g2
      have y := six_cells (H2.out.get 0 rfl)
      go_wp2_with fail
      refine (HNE.out _).mono ?_
      rintro e w3 ⟨rfl, hb⟩
      have H3 := Lib.hid (H2.out.below hb)
      clear hb H2 y
      go_wp2_with fail
      obtain ⟨B, hB⟩ : ∃ B, B = w.heap.size := ⟨_, rfl⟩
      obtain ⟨R, hR⟩ : ∃ R, R = w3.heap.size := ⟨_, rfl⟩
      obtain ⟨W4, hW4⟩ : ∃ W4, W4 = w3.alloc (.cells #[.int .i64 3, .int .i64 (-H), .string ⟨#[]⟩, .slice none 0 0, .slice none 0 0, .slice none 0 0, .int .i64 0] 30) := ⟨_, rfl⟩
      have HZ : Hid (SPL w [(B, #[.int .i64 3, .int .i64 H, .string s, .slice A3 n3 c3, .slice A4 n4 c4, .slice A5 n5 c5], 26), (R, #[.int .i64 3, .int .i64 (-H), .string ⟨#[]⟩, .slice none 0 0, .slice none 0 0, .slice none 0 0, .int .i64 0], 30)] W4) := Lib.hid (by rw [hW4, hB, hR]; exact H3.out.more _ _)
      rw [← hW4, ← hB, ← hR]
      clear hW4 hR H3 hB
      refine start_ (n := 21) (S := fun w' => w'.cell? ⟨B, 0, none⟩ = some (.int .i64 3) ∧ w'.cell? ⟨B, 1, none⟩ = some (.int .i64 H) ∧ w'.cell? ⟨B, 2, none⟩ = some (.string s) ∧ w'.cell? ⟨B, 3, none⟩ = some (.slice A3 n3 c3) ∧ w'.cell? ⟨B, 4, none⟩ = some (.slice A4 n4 c4) ∧ w'.cell? ⟨B, 5, none⟩ = some (.slice A5 n5 c5) ∧ w'.cell? ⟨R, 0, none⟩ = some (.int .i64 3) ∧ w'.cell? ⟨R, 1, none⟩ = some (.int .i64 (-H)) ∧ w'.cell? ⟨R, 2, none⟩ = some (.string ⟨#[]⟩) ∧ w'.cell? ⟨R, 3, none⟩ = some (.slice none 0 0) ∧ w'.cell? ⟨R, 4, none⟩ = some (.slice none 0 0) ∧ w'.cell? ⟨R, 5, none⟩ = some (.slice none 0 0) ∧ w'.cell? ⟨R, 6, none⟩ = some (.int .i64 0) ∧ SPL w [(B, #[.int .i64 3, .int .i64 H, .string s, .slice A3 n3 c3, .slice A4 n4 c4, .slice A5 n5 c5], 26), (R, #[.int .i64 3, .int .i64 (-H), .string ⟨#[]⟩, .slice none 0 0, .slice none 0 0, .slice none 0 0, .int .i64 0], 30)] w') (ds := []) #[false, false, false, false, false, false, false, false, false, false, false, false, false, false, false, false, false, false, false, false, false] (by kernel_rfl) rfl rfl ⟨((six_cells ((SPL.drew HZ.out).get 0 rfl)).1), ((six_cells ((SPL.drew HZ.out).get 0 rfl)).2.1), ((six_cells ((SPL.drew HZ.out).get 0 rfl)).2.2.1), ((six_cells ((SPL.drew HZ.out).get 0 rfl)).2.2.2.1), ((six_cells ((SPL.drew HZ.out).get 0 rfl)).2.2.2.2.1), ((six_cells ((SPL.drew HZ.out).get 0 rfl)).2.2.2.2.2.1), ((sev_cells ((SPL.drew HZ.out).get 1 rfl)).1), ((sev_cells ((SPL.drew HZ.out).get 1 rfl)).2.1), ((sev_cells ((SPL.drew HZ.out).get 1 rfl)).2.2.1), ((sev_cells ((SPL.drew HZ.out).get 1 rfl)).2.2.2.1), ((sev_cells ((SPL.drew HZ.out).get 1 rfl)).2.2.2.2.1), ((sev_cells ((SPL.drew HZ.out).get 1 rfl)).2.2.2.2.2.1), ((sev_cells ((SPL.drew HZ.out).get 1 rfl)).2.2.2.2.2.2.1), (SPL.drew HZ.out)⟩ (fun hHeld => ?_)
      refine pure_ (i := 0) (N := some 12) (v := ?_) (a' := ?_) #[true, false, false, false, false, false, false, false, false, false, false, false, false, false, false, false, false, false, false, false, false] rfl rfl (by kernel_rfl) (fun _ _ _ h => h) (Or.inl ⟨by rfl, ?_⟩) ?_ ?_
      rotate_left
      · intro w'
        go_simp
        with_reducible rfl
      rotate_left
      · simp only [Act.put, List.setIfInBounds_toArray, List.set_cons_zero, List.set_cons_succ, i64_w, i32_w]
        rfl
      refine pure_ (i := 1) (N := some 13) (v := ?_) (a' := ?_) #[true, true, false, false, false, false, false, false, false, false, false, false, false, false, false, false, false, false, false, false, false] rfl rfl (by kernel_rfl) (fun _ _ _ h => h) (Or.inl ⟨by rfl, ?_⟩) ?_ ?_
      rotate_left
      · intro w'
        go_simp
        with_reducible rfl
      rotate_left
      · simp only [Act.put, List.setIfInBounds_toArray, List.set_cons_zero, List.set_cons_succ, i64_w, i32_w]
        rfl
      refine take_ (i := 2) (N := some 14) (v := ?_) (a' := ?_) #[true, true, true, false, false, false, false, false, false, false, false, false, false, false, false, false, false, false, false, false, false] rfl rfl (by kernel_rfl) (fun _ _ _ h => h) (Or.inl ⟨by rfl, ?_⟩) hHeld ?_ ?_
      rotate_left
      · rintro w' ⟨s0, s1, s2, s3, s4, s5, s6, s7, s8, s9, s10, s11, s12, s13⟩
        go_simp
        with_reducible rfl
      rotate_left
      · simp only [Act.put, List.setIfInBounds_toArray, List.set_cons_zero, List.set_cons_succ, i64_w, i32_w]
        rfl
      refine pure_ (i := 3) (N := some 15) (v := ?_) (a' := ?_) #[true, true, true, true, false, false, false, false, false, false, false, false, false, false, false, false, false, false, false, false, false] rfl rfl (by kernel_rfl) (fun _ _ _ h => h) (Or.inl ⟨by rfl, ?_⟩) ?_ ?_
      rotate_left
      · intro w'
        go_simp
        with_reducible rfl
      rotate_left
      · simp only [Act.put, List.setIfInBounds_toArray, List.set_cons_zero, List.set_cons_succ, i64_w, i32_w]
        rfl
      refine pure_ (i := 4) (N := some 16) (v := ?_) (a' := ?_) #[true, true, true, true, true, false, false, false, false, false, false, false, false, false, false, false, false, false, false, false, false] rfl rfl (by kernel_rfl) (fun _ _ _ h => h) (Or.inl ⟨by rfl, ?_⟩) ?_ ?_
      rotate_left
      · intro w'
        go_simp
        with_reducible rfl
      rotate_left
      · simp only [Act.put, List.setIfInBounds_toArray, List.set_cons_zero, List.set_cons_succ, i64_w, i32_w]
        rfl
      refine pure_ (i := 8) (N := some 20) (v := ?_) (a' := ?_) #[true, true, true, true, true, false, false, false, true, false, false, false, false, false, false, false, false, false, false, false, false] rfl rfl (by kernel_rfl) (fun _ _ _ h => h) (Or.inl ⟨by rfl, ?_⟩) ?_ ?_
      rotate_left
      · intro w'
        go_simp
        with_reducible rfl
      rotate_left
      · simp only [Act.put, List.setIfInBounds_toArray, List.set_cons_zero, List.set_cons_succ, i64_w, i32_w]
        rfl
      refine take_ (i := 6) (N := some 18) (v := ?_) (a' := ?_) #[true, true, true, true, true, false, true, false, true, false, false, false, false, false, false, false, false, false, false, false, false] rfl rfl (by kernel_rfl) (fun _ _ _ h => h) (Or.inl ⟨by rfl, ?_⟩) hHeld ?_ ?_
      rotate_left
      · rintro w' ⟨s0, s1, s2, s3, s4, s5, s6, s7, s8, s9, s10, s11, s12, s13⟩
        go_simp
        with_reducible rfl
      rotate_left
      · simp only [Act.put, List.setIfInBounds_toArray, List.set_cons_zero, List.set_cons_succ, i64_w, i32_w]
        rfl
      refine take_ (i := 9) (N := some 21) (v := ?_) (a' := ?_) #[true, true, true, true, true, false, true, false, true, true, false, false, false, false, false, false, false, false, false, false, false] rfl rfl (by kernel_rfl) (fun _ _ _ h => h) (Or.inl ⟨by rfl, ?_⟩) hHeld ?_ ?_
      rotate_left
      · rintro w' ⟨s0, s1, s2, s3, s4, s5, s6, s7, s8, s9, s10, s11, s12, s13⟩
        go_simp
        with_reducible rfl
      rotate_left
      · simp only [Act.put, List.setIfInBounds_toArray, List.set_cons_zero, List.set_cons_succ, i64_w, i32_w]
        rfl
      refine one_ (i := 5) (N := some 17) #[true, true, true, true, true, true, true, false, true, true, false, false, false, false, false, false, false, false, false, false, false] rfl rfl (by kernel_rfl) (by decide) (fun K hK => ?_)
      refine goes_ Tryz.func20 (by kernel_rfl) rfl #[.int .i64 0] (by rfl) rfl rfl (by simp only [List.map_toArray, List.map_cons, List.map_nil]; rfl) ?_
      with_reducible refine ((HN0.out _)).mono ?_
      rintro e w3 ⟨rfl, hb⟩
      refine ⟨_, rfl, ?_⟩
      have hz := SPL.below (hHeld.2.2.2.2.2.2.2.2.2.2.2.2.2) hb
      refine hK.out _ _ ⟨((six_cells (hz.get 0 rfl)).1), ((six_cells (hz.get 0 rfl)).2.1), ((six_cells (hz.get 0 rfl)).2.2.1), ((six_cells (hz.get 0 rfl)).2.2.2.1), ((six_cells (hz.get 0 rfl)).2.2.2.2.1), ((six_cells (hz.get 0 rfl)).2.2.2.2.2.1), ((sev_cells (hz.get 1 rfl)).1), ((sev_cells (hz.get 1 rfl)).2.1), ((sev_cells (hz.get 1 rfl)).2.2.1), ((sev_cells (hz.get 1 rfl)).2.2.2.1), ((sev_cells (hz.get 1 rfl)).2.2.2.2.1), ((sev_cells (hz.get 1 rfl)).2.2.2.2.2.1), ((sev_cells (hz.get 1 rfl)).2.2.2.2.2.2.1), hz⟩ (fun hHeld => ?_)
      clear hK K
      refine norm_ (a' := ?_) ?_ ?_
      rotate_left
      · show Act.put _ (some 17) _ = _
        simp only [Act.put, List.setIfInBounds_toArray, List.set_cons_zero, List.set_cons_succ, i64_w, i32_w]
        rfl
      refine one_ (i := 7) (N := some 19) #[true, true, true, true, true, true, true, true, true, true, false, false, false, false, false, false, false, false, false, false, false] rfl rfl (by kernel_rfl) (by decide) (fun K hK => ?_)
      refine goes_ Tryz.func19 (by kernel_rfl) rfl #[.agg #[.int .i64 3, .int .i64 0, .string ⟨#[]⟩, .slice none 0 0, .slice none 0 0, .slice none 0 0], .agg #[.int .i64 3, .int .i64 H, .string s, .slice A3 n3 c3, .slice A4 n4 c4, .slice A5 n5 c5]] (by rfl) rfl rfl (by simp only [List.map_toArray, List.map_cons, List.map_nil]; rfl) ?_
      with_reducible refine ((HSU.out _)).mono ?_
      rintro e w3 ⟨rfl, hb⟩
      refine ⟨_, rfl, ?_⟩
      have hz := SPL.below (hHeld.2.2.2.2.2.2.2.2.2.2.2.2.2) hb
      refine hK.out _ _ ⟨((six_cells (hz.get 0 rfl)).1), ((six_cells (hz.get 0 rfl)).2.1), ((six_cells (hz.get 0 rfl)).2.2.1), ((six_cells (hz.get 0 rfl)).2.2.2.1), ((six_cells (hz.get 0 rfl)).2.2.2.2.1), ((six_cells (hz.get 0 rfl)).2.2.2.2.2.1), ((sev_cells (hz.get 1 rfl)).1), ((sev_cells (hz.get 1 rfl)).2.1), ((sev_cells (hz.get 1 rfl)).2.2.1), ((sev_cells (hz.get 1 rfl)).2.2.2.1), ((sev_cells (hz.get 1 rfl)).2.2.2.2.1), ((sev_cells (hz.get 1 rfl)).2.2.2.2.2.1), ((sev_cells (hz.get 1 rfl)).2.2.2.2.2.2.1), hz⟩ (fun hHeld => ?_)
      clear hK K
      refine norm_ (a' := ?_) ?_ ?_
      rotate_left
      · show Act.put _ (some 19) _ = _
        simp only [Act.put, List.setIfInBounds_toArray, List.set_cons_zero, List.set_cons_succ, i64_w, i32_w]
        rfl
      refine one_ (i := 10) (N := some 22) #[true, true, true, true, true, true, true, true, true, true, true, false, false, false, false, false, false, false, false, false, false] rfl rfl (by kernel_rfl) (by decide) (fun K hK => ?_)
      refine goes_ Tryz.func18 (by kernel_rfl) rfl #[.agg #[.int .i64 3, .int .i64 (-H), .string ⟨#[]⟩, .slice none 0 0, .slice none 0 0, .slice none 0 0, .int .i64 0], .agg #[.int .i64 3, .int .i64 (-H), .string ⟨#[]⟩, .slice none 0 0, .slice none 0 0, .slice none 0 0]] (by rfl) rfl rfl (by simp only [List.map_toArray, List.map_cons, List.map_nil]; rfl) ?_
      with_reducible refine ((HG1.out _)).mono ?_
      rintro e w3 ⟨rfl, hb⟩
      refine ⟨_, rfl, ?_⟩
      have hz := SPL.below (hHeld.2.2.2.2.2.2.2.2.2.2.2.2.2) hb
      refine hK.out _ _ ⟨((six_cells (hz.get 0 rfl)).1), ((six_cells (hz.get 0 rfl)).2.1), ((six_cells (hz.get 0 rfl)).2.2.1), ((six_cells (hz.get 0 rfl)).2.2.2.1), ((six_cells (hz.get 0 rfl)).2.2.2.2.1), ((six_cells (hz.get 0 rfl)).2.2.2.2.2.1), ((sev_cells (hz.get 1 rfl)).1), ((sev_cells (hz.get 1 rfl)).2.1), ((sev_cells (hz.get 1 rfl)).2.2.1), ((sev_cells (hz.get 1 rfl)).2.2.2.1), ((sev_cells (hz.get 1 rfl)).2.2.2.2.1), ((sev_cells (hz.get 1 rfl)).2.2.2.2.2.1), ((sev_cells (hz.get 1 rfl)).2.2.2.2.2.2.1), hz⟩ (fun hHeld => ?_)
      clear hK K
      refine norm_ (a' := ?_) ?_ ?_
      rotate_left
      · show Act.put _ (some 22) _ = _
        simp only [Act.put, List.setIfInBounds_toArray, List.set_cons_zero, List.set_cons_succ, i64_w, i32_w]
        rfl
      refine pure_ (i := 11) (N := some 23) (v := ?_) (a' := ?_) #[true, true, true, true, true, true, true, true, true, true, true, true, false, false, false, false, false, false, false, false, false] rfl rfl (by kernel_rfl) (fun _ _ _ h => h) (Or.inl ⟨by rfl, ?_⟩) ?_ ?_
      rotate_left
      · intro w'
        go_simp
        with_reducible rfl
      rotate_left
      · simp only [Act.put, List.setIfInBounds_toArray, List.set_cons_zero, List.set_cons_succ, i64_w, i32_w]
        rfl
      refine pure_ (i := 12) (N := some 24) (v := ?_) (a' := ?_) #[true, true, true, true, true, true, true, true, true, true, true, true, true, false, false, false, false, false, false, false, false] rfl rfl (by kernel_rfl) (fun _ _ _ h => h) (Or.inl ⟨by rfl, ?_⟩) ?_ ?_
      rotate_left
      · intro w'
        go_simp
        with_reducible rfl
      rotate_left
      · simp only [Act.put, List.setIfInBounds_toArray, List.set_cons_zero, List.set_cons_succ, i64_w, i32_w]
        rfl
      refine pure_ (i := 14) (N := some 26) (v := ?_) (a' := ?_) #[true, true, true, true, true, true, true, true, true, true, true, true, true, false, true, false, false, false, false, false, false] rfl rfl (by kernel_rfl) (fun _ _ _ h => h) (Or.inl ⟨by rfl, ?_⟩) ?_ ?_
      rotate_left
      · intro w'
        go_simp
        with_reducible rfl
      rotate_left
      · simp only [Act.put, List.setIfInBounds_toArray, List.set_cons_zero, List.set_cons_succ, i64_w, i32_w]
        rfl
      refine take_ (i := 13) (N := some 25) (v := ?_) (a' := ?_) #[true, true, true, true, true, true, true, true, true, true, true, true, true, true, true, false, false, false, false, false, false] rfl rfl (by kernel_rfl) (fun _ _ _ h => h) (Or.inl ⟨by rfl, ?_⟩) hHeld ?_ ?_
      rotate_left
      · rintro w' ⟨s0, s1, s2, s3, s4, s5, s6, s7, s8, s9, s10, s11, s12, s13⟩
        go_simp
        with_reducible rfl
      rotate_left
      · simp only [Act.put, List.setIfInBounds_toArray, List.set_cons_zero, List.set_cons_succ, i64_w, i32_w]
        rfl
      refine take_ (i := 15) (N := some 27) (v := ?_) (a' := ?_) #[true, true, true, true, true, true, true, true, true, true, true, true, true, true, true, true, false, false, false, false, false] rfl rfl (by kernel_rfl) (fun _ _ _ h => h) (Or.inl ⟨by rfl, ?_⟩) hHeld ?_ ?_
      rotate_left
      · rintro w' ⟨s0, s1, s2, s3, s4, s5, s6, s7, s8, s9, s10, s11, s12, s13⟩
        go_simp
        with_reducible rfl
      rotate_left
      · simp only [Act.put, List.setIfInBounds_toArray, List.set_cons_zero, List.set_cons_succ, i64_w, i32_w]
        rfl
      refine one_ (i := 16) (N := some 28) #[true, true, true, true, true, true, true, true, true, true, true, true, true, true, true, true, true, false, false, false, false] rfl rfl (by kernel_rfl) (by decide) (fun K hK => ?_)
      refine goes_ Tryz.func17 (by kernel_rfl) rfl #[.agg #[.int .i64 3, .int .i64 H, .string s, .slice A3 n3 c3, .slice A4 n4 c4, .slice A5 n5 c5], .agg #[.int .i64 3, .int .i64 (-H), .string ⟨#[]⟩, .slice none 0 0, .slice none 0 0, .slice none 0 0]] (by rfl) rfl rfl (by simp only [List.map_toArray, List.map_cons, List.map_nil]; rfl) ?_
      with_reducible refine ((HAD.out _)).mono ?_
      rintro e w3 ⟨rfl, hb⟩
      refine ⟨_, rfl, ?_⟩
      have hz := SPL.below (hHeld.2.2.2.2.2.2.2.2.2.2.2.2.2) hb
      refine hK.out _ _ ⟨((six_cells (hz.get 0 rfl)).1), ((six_cells (hz.get 0 rfl)).2.1), ((six_cells (hz.get 0 rfl)).2.2.1), ((six_cells (hz.get 0 rfl)).2.2.2.1), ((six_cells (hz.get 0 rfl)).2.2.2.2.1), ((six_cells (hz.get 0 rfl)).2.2.2.2.2.1), ((sev_cells (hz.get 1 rfl)).1), ((sev_cells (hz.get 1 rfl)).2.1), ((sev_cells (hz.get 1 rfl)).2.2.1), ((sev_cells (hz.get 1 rfl)).2.2.2.1), ((sev_cells (hz.get 1 rfl)).2.2.2.2.1), ((sev_cells (hz.get 1 rfl)).2.2.2.2.2.1), ((sev_cells (hz.get 1 rfl)).2.2.2.2.2.2.1), hz⟩ (fun hHeld => ?_)
      clear hK K
      refine norm_ (a' := ?_) ?_ ?_
      rotate_left
      · show Act.put _ (some 28) _ = _
        simp only [Act.put, List.setIfInBounds_toArray, List.set_cons_zero, List.set_cons_succ, i64_w, i32_w]
        rfl
      refine one_ (i := 17) (N := some 29) #[true, true, true, true, true, true, true, true, true, true, true, true, true, true, true, true, true, true, false, false, false] rfl rfl (by kernel_rfl) (by decide) (fun K hK => ?_)
      refine goes_ Tryz.func20 (by kernel_rfl) rfl #[.int .i64 0] (by rfl) rfl rfl (by simp only [List.map_toArray, List.map_cons, List.map_nil]; rfl) ?_
      with_reducible refine ((HN0.out _)).mono ?_
      rintro e w3 ⟨rfl, hb⟩
      refine ⟨_, rfl, ?_⟩
      have hz := SPL.below (hHeld.2.2.2.2.2.2.2.2.2.2.2.2.2) hb
      refine hK.out _ _ ⟨((six_cells (hz.get 0 rfl)).1), ((six_cells (hz.get 0 rfl)).2.1), ((six_cells (hz.get 0 rfl)).2.2.1), ((six_cells (hz.get 0 rfl)).2.2.2.1), ((six_cells (hz.get 0 rfl)).2.2.2.2.1), ((six_cells (hz.get 0 rfl)).2.2.2.2.2.1), ((sev_cells (hz.get 1 rfl)).1), ((sev_cells (hz.get 1 rfl)).2.1), ((sev_cells (hz.get 1 rfl)).2.2.1), ((sev_cells (hz.get 1 rfl)).2.2.2.1), ((sev_cells (hz.get 1 rfl)).2.2.2.2.1), ((sev_cells (hz.get 1 rfl)).2.2.2.2.2.1), ((sev_cells (hz.get 1 rfl)).2.2.2.2.2.2.1), hz⟩ (fun hHeld => ?_)
      clear hK K
      refine norm_ (a' := ?_) ?_ ?_
      rotate_left
      · show Act.put _ (some 29) _ = _
        simp only [Act.put, List.setIfInBounds_toArray, List.set_cons_zero, List.set_cons_succ, i64_w, i32_w]
        rfl
      refine one_ (i := 18) (N := some 30) #[true, true, true, true, true, true, true, true, true, true, true, true, true, true, true, true, true, true, true, false, false] rfl rfl (by kernel_rfl) (by decide) (fun K hK => ?_)
      refine goes_ Tryz.func18 (by kernel_rfl) rfl #[.agg #[.int .i64 3, .int .i64 0, .string ⟨#[]⟩, .slice none 0 0, .slice none 0 0, .slice none 0 0, .int .i64 0], .agg #[.int .i64 3, .int .i64 0, .string ⟨#[]⟩, .slice none 0 0, .slice none 0 0, .slice none 0 0]] (by rfl) rfl rfl (by simp only [List.map_toArray, List.map_cons, List.map_nil]; rfl) ?_
      with_reducible refine ((HG2.out _)).mono ?_
      rintro e w3 ⟨rfl, hb⟩
      refine ⟨_, rfl, ?_⟩
      have hz := SPL.below (hHeld.2.2.2.2.2.2.2.2.2.2.2.2.2) hb
      refine hK.out _ _ ⟨((six_cells (hz.get 0 rfl)).1), ((six_cells (hz.get 0 rfl)).2.1), ((six_cells (hz.get 0 rfl)).2.2.1), ((six_cells (hz.get 0 rfl)).2.2.2.1), ((six_cells (hz.get 0 rfl)).2.2.2.2.1), ((six_cells (hz.get 0 rfl)).2.2.2.2.2.1), ((sev_cells (hz.get 1 rfl)).1), ((sev_cells (hz.get 1 rfl)).2.1), ((sev_cells (hz.get 1 rfl)).2.2.1), ((sev_cells (hz.get 1 rfl)).2.2.2.1), ((sev_cells (hz.get 1 rfl)).2.2.2.2.1), ((sev_cells (hz.get 1 rfl)).2.2.2.2.2.1), ((sev_cells (hz.get 1 rfl)).2.2.2.2.2.2.1), hz⟩ (fun hHeld => ?_)
      clear hK K
      refine norm_ (a' := ?_) ?_ ?_
      rotate_left
      · show Act.put _ (some 30) _ = _
        simp only [Act.put, List.setIfInBounds_toArray, List.set_cons_zero, List.set_cons_succ, i64_w, i32_w]
        rfl
      refine pure_ (i := 19) (N := some 31) (v := ?_) (a' := ?_) #[true, true, true, true, true, true, true, true, true, true, true, true, true, true, true, true, true, true, true, true, false] rfl rfl (by kernel_rfl) (fun _ _ _ h => h) (Or.inl ⟨by rfl, ?_⟩) ?_ ?_
      rotate_left
      · intro w'
        go_simp
        with_reducible rfl
      rotate_left
      · simp only [Act.put, List.setIfInBounds_toArray, List.set_cons_zero, List.set_cons_succ, i64_w, i32_w]
        rfl
      refine pure_ (i := 20) (N := some 2) (v := ?_) (a' := ?_) #[true, true, true, true, true, true, true, true, true, true, true, true, true, true, true, true, true, true, true, true, true] rfl rfl (by kernel_rfl) (fun _ _ _ h => h) (Or.inl ⟨by rfl, ?_⟩) ?_ ?_
      rotate_left
      · intro w'
        go_simp
        with_reducible rfl
      rotate_left
      · simp only [Act.put, List.setIfInBounds_toArray, List.set_cons_zero, List.set_cons_succ, i64_w, i32_w]
        rfl
      refine done_ (by kernel_rfl) ?_
      go_wp2_with fail
      go_ret
      exact ⟨rfl, hz.1⟩
end Go.Proofs.YtdcgjfiknknjfaaGreatDoor.ValA
