/-
FnContainsSome: an array contains a single element exactly if one of its elements of that kind does.
-/
import Derived.Test.YtcoahpcjhhnkkaaGreatDoorMO
set_option linter.unusedSimpArgs false
set_option linter.unusedVariables false
namespace Go.Proofs.YtcoahpcjhhnkkaaGreatDoor.ValA
open Go.RowKit Go.Lib Go.Proofs.YtcoahpcjhhnkkaaGreatDoorW.PrintWords Go.Proofs.YtcoahpcjhhnkkaaGreatDoorW.PrintLast Go.Proofs.YtcoahpcjhhnkkaaGreatDoorW.PrintMore Go.Proofs.YtcoahpcjhhnkkaaGreatDoor.PzzFits1 Go.Proofs.YtcoahpcjhhnkkaaGreatDoor.NumA
attribute [local go_sem] run_val
theorem SPN.tk1 {w w1 : World} {a b : Nat × Array Value × TypeId} (h : SPN w [a, b] w1) : SPN w [a] w1 :=
  ⟨⟨h.1.1, fun p hp => h.1.2 p (by rw [List.mem_singleton.1 hp]; exact List.mem_cons_self)⟩, by simp, fun p hp => h.2.2 p (by rw [List.mem_singleton.1 hp]; exact List.mem_cons_self)⟩
theorem boxN2_ {P : Program} {ops : Array Oper} {Q : Exit → Act → World → Prop} {oi : Oper} {N : Option Tmp} {a : Act} {w w0 : World} {K : Act → World → Prop} {L : List (Nat × Array Value × TypeId)} {c : Array Value} {t : TypeId} (hL : SPN w0 L w) (hw : Region.wanted oi (yielded ops a.tmps) = true) (hN : oi.dst = N)
    (hrun : (execOp a.eval oi).run P w = .ok (.value (.slice (some ⟨w.heap.size, 0, none⟩) 2 2)) (w.alloc (.cells c t))) (h : ∀ R w1, SPN w0 (L ++ [(R, c, t)]) w1 → K (a.put N (.slice (some ⟨R, 0, none⟩) 2 2)) w1) :
    if Region.wanted oi (yielded ops a.tmps) = true then Oper.wp P oi a w K Q else K (a.put N undef) w := value_ hw hN hrun (h _ _ (hL.more c t))
theorem con_same {x y : V} (h : x.f0 = y.f0) : ∃ b, con x y = some b := by
  rw [con_eq, if_neg (by simpa using h)]
  split
  · exact ⟨_, rfl⟩
  split
  · exact ⟨_, rfl⟩
  split
  · exact ⟨_, rfl⟩
  split
  · exact ⟨_, rfl⟩
  exact ⟨_, rfl⟩
theorem con_other {x y : V} (h : x.f0 ≠ y.f0) : con x y = none := by rw [con_eq, if_pos h]
theorem some_step {l : List V} {j : Nat} {x y : V} (hj : j < l.length) (hy : y = rd_T26 l j) : conA (l.take (j + 1)) x = (conA (l.take j) x || con y x == some true) := by
  rw [List.take_add_one, rd_at l j hj, Bool.eq_iff_iff, Bool.or_eq_true, conA_iff, conA_iff, hy, beq_iff_eq]
  simp only [Option.toList_some, List.mem_append, List.mem_singleton]
  constructor
  · rintro ⟨a, h | rfl, h2⟩
    · exact Or.inl ⟨a, h, h2⟩
    · exact Or.inr h2
  · rintro (⟨a, h, h2⟩ | h2)
    · exact ⟨a, Or.inl h, h2⟩
    · exact ⟨_, Or.inr rfl, h2⟩
set_option maxRecDepth 100000 in
set_option maxHeartbeats 20000000 in
theorem core_some (w0 : World) (hE : Env w0) (A1 : Option Addr) (l : List V) (c1 : Nat) (hlc1 : l.length ≤ c1) (hC1 : Kd.C k26 w0 A1 l.length l) (hz1 : ∀ y ∈ l, Sz y ∧ Tz y) (x : V) (hzx : Sz x ∧ Tz x) (A3x A4x A5x : Option Addr) (a3x a4x a5x : Nat) (hKx : k26.K w0 x [.int .i64 x.f0, .int .i64 x.f1, .string x.f2, .slice A3x x.f3.length a3x, .slice A4x x.f4.length a4x, .slice A5x x.f5.length a5x]) :
    Calls Tryz.prog 5 #[.slice A1 l.length c1, .agg #[.int .i64 x.f0, .int .i64 x.f1, .string x.f2, .slice A3x x.f3.length a3x, .slice A4x x.f4.length a4x, .slice A5x x.f5.length a5x]] w0 fun e w' => e = .returned (.bool true) ∧ Below w0.heap.size w0 w' := by
  obtain ⟨w, hw⟩ : ∃ w, w = w0 := ⟨_, rfl⟩
  have s1 : Sz (lV l) := lc_sz (fun y hy => (hz1 y hy).1)
  have t1 : Tz (lV l) := lc_tz (fun y hy => (hz1 y hy).2)
  have k1 := lc_K hlc1 hC1
  have HFX := Lib.hid (fun w1 hb => fits1_any w0 x _ _ _ _ _ _ _ _ _ _ _ _ hKx w1 hb)
  have HFI := Lib.hid (fun w1 hb g hg => fits_two w0 hE (lV l) s1 _ _ _ _ _ _ _ _ _ _ _ _ k1 x hzx.1 _ _ _ _ _ _ _ _ _ _ _ _ hKx w1 hb g hg)
  have HT1 := Lib.hid (fun h => toGo_any w0 _ (lV l) (Nat.lt_succ_self _) s1 h _ k1)
  have HTX := Lib.hid (fun h => toGo_any w0 _ x (Nat.lt_succ_self _) hzx.1 h _ hKx)
  have HS := Lib.hid (And.intro s1 (And.intro t1 (And.intro hzx hz1)))
  have HC := Lib.hid hC1
  have HKX := Lib.hid hKx
  have HAR := Lib.hid (fun A n c w => lc_array A n c w)
  clear hE hlc1 hC1 hz1 hzx s1 t1 k1 hKx
  subst hw
  by_cases c0 : (l.length : Int) > 2147483647
  · have d0 : decide ((l.length : Int) > 2147483647) = true := decide_eq_true c0
    clear c0
    go_enter Tryz.func5, Tryz.ntmps5
    go_wp2_with fail
    go_ret
    exact ⟨rfl, (Below.refl _ w).alloc (Nat.le_refl _) _⟩
  have d0 : decide ((l.length : Int) > 2147483647) = false := decide_eq_false c0
  have HN : Hid (l.length ≤ 2147483647) := Lib.hid (by omega)
  clear c0
  go_enter Tryz.func5, Tryz.ntmps5
  go_wp2_with fail
  obtain ⟨A, hA⟩ : ∃ A, A = w.heap.size := ⟨_, rfl⟩
  obtain ⟨W0, hW0⟩ : ∃ W0, W0 = w.alloc (.cells #[.int .i64 x.f0, .int .i64 x.f1, .string x.f2, .slice A3x x.f3.length a3x, .slice A4x x.f4.length a4x, .slice A5x x.f5.length a5x] 26) := ⟨_, rfl⟩
  have hS : SPN w [(A, #[.int .i64 x.f0, .int .i64 x.f1, .string x.f2, .slice A3x x.f3.length a3x, .slice A4x x.f4.length a4x, .slice A5x x.f5.length a5x], 26)] W0 := by rw [hA, hW0]; exact (spn_of (Below.refl _ w)).more _ _
  rw [← hW0]
  try rw [← hA]
  have H0 := Lib.hid hS
  clear hS hW0 hA
  refine (HFX.out W0 H0.out.1.1).mono ?_
  rintro e w1 ⟨r, rfl, hr, hb⟩
  have H1 := Lib.hid (SPN.below H0.out hb)
  clear hb hr HFX H0
  cases r with
  | false =>
    go_wp2_with fail
    go_ret
    exact ⟨rfl, H1.out.1.1⟩
  | true =>
  have y := six_cells (H1.out.1.get 0 rfl)
  go_wp2_with fail
  clear y d0
  refine start_ (n := 6) (S := fun w' => w'.cell? ⟨A, 0, none⟩ = some (.int .i64 x.f0) ∧ w'.cell? ⟨A, 1, none⟩ = some (.int .i64 x.f1) ∧ w'.cell? ⟨A, 2, none⟩ = some (.string x.f2) ∧ w'.cell? ⟨A, 3, none⟩ = some (.slice A3x x.f3.length a3x) ∧ w'.cell? ⟨A, 4, none⟩ = some (.slice A4x x.f4.length a4x) ∧ w'.cell? ⟨A, 5, none⟩ = some (.slice A5x x.f5.length a5x) ∧ SPN w [(A, #[.int .i64 x.f0, .int .i64 x.f1, .string x.f2, .slice A3x x.f3.length a3x, .slice A4x x.f4.length a4x, .slice A5x x.f5.length a5x], 26)] w') (ds := []) #[false, false, false, false, false, false] (by kernel_rfl) rfl rfl ⟨((six_cells (((SPN.drew H1.out).1).get 0 rfl)).1), ((six_cells (((SPN.drew H1.out).1).get 0 rfl)).2.1), ((six_cells (((SPN.drew H1.out).1).get 0 rfl)).2.2.1), ((six_cells (((SPN.drew H1.out).1).get 0 rfl)).2.2.2.1), ((six_cells (((SPN.drew H1.out).1).get 0 rfl)).2.2.2.2.1), ((six_cells (((SPN.drew H1.out).1).get 0 rfl)).2.2.2.2.2.1), (SPN.drew H1.out)⟩ (fun hHeld => ?_)
  refine pure_ (i := 0) (N := some 16) (v := ?_) (a' := ?_) #[true, false, false, false, false, false] rfl rfl (by kernel_rfl) (fun _ _ _ h => h) (Or.inl ⟨by rfl, ?_⟩) ?_ ?_
  rotate_left
  · intro w'
    go_simp
    with_reducible rfl
  rotate_left
  · simp only [Act.put, List.setIfInBounds_toArray, List.set_cons_zero, List.set_cons_succ, i64_w, i32_w]
    rfl
  refine take_ (i := 2) (N := some 18) (v := ?_) (a' := ?_) #[true, false, true, false, false, false] rfl rfl (by kernel_rfl) (fun _ _ _ h => h) (Or.inl ⟨by rfl, ?_⟩) hHeld ?_ ?_
  rotate_left
  · rintro w' ⟨s0, s1, s2, s3, s4, s5, s6⟩
    go_simp
    with_reducible rfl
  rotate_left
  · simp only [Act.put, List.setIfInBounds_toArray, List.set_cons_zero, List.set_cons_succ, i64_w, i32_w]
    rfl
  refine one_ (i := 1) (N := some 17) #[true, true, true, false, false, false] rfl rfl (by kernel_rfl) (by decide) (fun K hK => ?_)
  refine goes_ Tryz.func18 (by kernel_rfl) rfl #[.slice A1 l.length c1] (by rfl) rfl rfl (by simp only [List.map_toArray, List.map_cons, List.map_nil]; rfl) ?_
  with_reducible refine ((HAR.out A1 l.length c1 _)).mono ?_
  rintro e wz ⟨rfl, hb⟩
  refine ⟨_, rfl, ?_⟩
  have hz := SPN.below hHeld.2.2.2.2.2.2 hb
  refine hK.out _ _ ⟨((six_cells ((hz.1).get 0 rfl)).1), ((six_cells ((hz.1).get 0 rfl)).2.1), ((six_cells ((hz.1).get 0 rfl)).2.2.1), ((six_cells ((hz.1).get 0 rfl)).2.2.2.1), ((six_cells ((hz.1).get 0 rfl)).2.2.2.2.1), ((six_cells ((hz.1).get 0 rfl)).2.2.2.2.2.1), hz⟩ (fun hHeld => ?_)
  clear hK K
  refine norm_ (a' := ?_) ?_ ?_
  rotate_left
  · show Act.put _ (some 17) _ = _
    simp only [Act.put, List.setIfInBounds_toArray, List.set_cons_zero, List.set_cons_succ, i64_w, i32_w]
    rfl
  refine one_ (i := 3) (N := some 19) #[true, true, true, true, false, false] rfl rfl (by kernel_rfl) (by decide) (fun K hK => ?_)
  refine boxN2_ (c := #[.int .i64 5, .int .i64 0, .string ⟨#[]⟩, .slice A1 l.length c1, .slice none 0 0, .slice none 0 0, .int .i64 x.f0, .int .i64 x.f1, .string x.f2, .slice A3x x.f3.length a3x, .slice A4x x.f4.length a4x, .slice A5x x.f5.length a5x]) (t := 26) hz (by rfl) rfl ?_ ?_
  · first | (go_simp; done) | (go_simp; rfl)
  intro G wz3 hz3
  change SPN w [(A, #[.int .i64 x.f0, .int .i64 x.f1, .string x.f2, .slice A3x x.f3.length a3x, .slice A4x x.f4.length a4x, .slice A5x x.f5.length a5x], 26), (G, #[.int .i64 5, .int .i64 0, .string ⟨#[]⟩, .slice A1 l.length c1, .slice none 0 0, .slice none 0 0, .int .i64 x.f0, .int .i64 x.f1, .string x.f2, .slice A3x x.f3.length a3x, .slice A4x x.f4.length a4x, .slice A5x x.f5.length a5x], 26)] wz3 at hz3
  refine hK.out _ _ ⟨((six_cells (((SPN.tk1 hz3).1).get 0 rfl)).1), ((six_cells (((SPN.tk1 hz3).1).get 0 rfl)).2.1), ((six_cells (((SPN.tk1 hz3).1).get 0 rfl)).2.2.1), ((six_cells (((SPN.tk1 hz3).1).get 0 rfl)).2.2.2.1), ((six_cells (((SPN.tk1 hz3).1).get 0 rfl)).2.2.2.2.1), ((six_cells (((SPN.tk1 hz3).1).get 0 rfl)).2.2.2.2.2.1), (SPN.tk1 hz3)⟩ (fun hHeld => ?_)
  clear hK K
  refine norm_ (a' := ?_) ?_ ?_
  rotate_left
  · show Act.put _ (some 19) _ = _
    simp only [Act.put, List.setIfInBounds_toArray, List.set_cons_zero, List.set_cons_succ, i64_w, i32_w]
    rfl
  refine one_ (i := 4) (N := some 20) #[true, true, true, true, true, false] rfl rfl (by kernel_rfl) (by decide) (fun K hK => ?_)
  refine goes_ Tryz.func17 (by kernel_rfl) rfl #[.slice (some ⟨G, 0, none⟩) 2 2] (by rfl) rfl rfl (by simp only [List.map_toArray, List.map_cons, List.map_nil]; rfl) ?_
  with_reducible refine ((HFI.out _ (SPN.bel hz3) _ (SPN.gt hz3 1 rfl))).mono ?_
  rintro e wz4 ⟨r4, rfl, hr4, hb4⟩
  refine ⟨_, rfl, ?_⟩
  have hz4 := SPN.tk1 (SPN.below hz3 hb4)
  refine hK.out _ _ ⟨((six_cells ((hz4.1).get 0 rfl)).1), ((six_cells ((hz4.1).get 0 rfl)).2.1), ((six_cells ((hz4.1).get 0 rfl)).2.2.1), ((six_cells ((hz4.1).get 0 rfl)).2.2.2.1), ((six_cells ((hz4.1).get 0 rfl)).2.2.2.2.1), ((six_cells ((hz4.1).get 0 rfl)).2.2.2.2.2.1), hz4⟩ (fun hHeld => ?_)
  clear hK K
  refine norm_ (a' := ?_) ?_ ?_
  rotate_left
  · show Act.put _ (some 20) _ = _
    simp only [Act.put, List.setIfInBounds_toArray, List.set_cons_zero, List.set_cons_succ, i64_w, i32_w]
    rfl
  refine pure_ (i := 5) (N := some 21) (v := ?_) (a' := ?_) #[true, true, true, true, true, true] rfl rfl (by kernel_rfl) (fun _ _ _ h => h) (Or.inl ⟨by rfl, ?_⟩) ?_ ?_
  rotate_left
  · intro w'
    go_simp
    with_reducible rfl
  rotate_left
  · simp only [Act.put, List.setIfInBounds_toArray, List.set_cons_zero, List.set_cons_succ, i64_w, i32_w]
    rfl
  refine done_ (by kernel_rfl) ?_
  have H3 := Lib.hid hz4
  have HR4 := Lib.hid hr4
  clear hHeld hz hz3 hz4 hr4
  cases r4 with
  | false =>
    go_wp2_with fail
    go_ret
    exact ⟨rfl, H3.out.1.1⟩
  | true =>
  have HW := Lib.hid (HR4.out (by trivial))
  clear HR4
  have HW1 := Lib.hid (loose HW.out.1)
  have HWX := Lib.hid (loose HW.out.2)
  obtain ⟨n, hn⟩ : ∃ n, n = l.length := ⟨_, rfl⟩
  rw [← hn] at HC HN ⊢
  have HNN := Lib.hid hn
  clear hn HFI
  go_wp2_with fail
  go_loopg [5, 24] n (fun k a i wr => ∃ j : Nat, i = .int .i64 j ∧ k + j = n ∧ SPN w [(A, #[.int .i64 x.f0, .int .i64 x.f1, .string x.f2, .slice A3x x.f3.length a3x, .slice A4x x.f4.length a4x, .slice A5x x.f5.length a5x], 26)] wr ∧ a = .bool (conA (l.take j) x))
  case atStart => exact ⟨0, rfl, by omega, H3.out, by simp [conA]⟩
  case round =>
    obtain ⟨j, rfl, hkj, hbr, rfl⟩ := hrel
    by_cases hlt : j < n
    · obtain ⟨ad, B3, e3, B4, e4, B5, e5, rfl, x0, x1, x2, x3, x4, x5, hK⟩ := elem_at HC.out hbr.1.1 j hlt
      obtain ⟨y, hy⟩ : ∃ y, y = rd_T26 l j := ⟨_, rfl⟩
      rw [← hy] at x0 x1 x2 x3 x4 x5 hK
      have hym : y ∈ l := by rw [hy]; exact rd_mem l j (by have := HNN.out; omega)
      obtain ⟨bv, hbv⟩ : ∃ bv, bv = conA (l.take j) x := ⟨_, rfl⟩
      rw [← hbv]
      have HJ : Hid (conA (l.take (j + 1)) x = (bv || con y x == some true)) := Lib.hid (by rw [hbv]; exact some_step (by have := HNN.out; omega) hy)
      have HX := Lib.hid (And.intro hym hK)
      have HR := Lib.hid (And.intro hbr (And.intro hkj hlt))
      have hlt2 : (j : Int) < (n : Int) := by omega
      clear hy hym hbv hK hkj hlt hbr
      have ya := six_cells (HR.out.1.1.get 0 rfl)
      have hlA : A < wr.heap.size := lt_of_heap (HR.out.1.1.get 0 rfl)
      cases bv with
      | true =>
        have HQ : Hid (conA (l.take (j + 1)) x = true) := Lib.hid (by rw [HJ.out]; rfl)
        go_wp2_with fail
        obtain ⟨Y, hY⟩ : ∃ Y, Y = wr.heap.size := ⟨_, rfl⟩
        obtain ⟨W1, hW1⟩ : ∃ W1, W1 = wr.alloc (.cells #[.int .i64 y.f0, .int .i64 y.f1, .string y.f2, .slice B3 y.f3.length e3, .slice B4 y.f4.length e4, .slice B5 y.f5.length e5] 26) := ⟨_, rfl⟩
        have hS : SPN w [(A, #[.int .i64 x.f0, .int .i64 x.f1, .string x.f2, .slice A3x x.f3.length a3x, .slice A4x x.f4.length a4x, .slice A5x x.f5.length a5x], 26), (Y, #[.int .i64 y.f0, .int .i64 y.f1, .string y.f2, .slice B3 y.f3.length e3, .slice B4 y.f4.length e4, .slice B5 y.f5.length e5], 26)] W1 := by rw [hY, hW1]; exact HR.out.1.more _ _
        rw [← hW1]
        try rw [← hY]
        have HP := Lib.hid hS
        clear hS hW1 hY x0 x1 x2 x3 x4 x5 ya hlA
        go_roundg (gk - 1)
        case measure => have := HR.out.2; omega
        case rel =>
          have hw : wrap64 ((j : Int) + 1) = ((j + 1 : Nat) : Int) := by have := HN.out; have := HR.out.2; unfold wrap64; omega
          try rw [hw]
          exact ⟨j + 1, rfl, by have := HR.out.2; omega, SPN.tk1 HP.out, by rw [HQ.out]⟩
      | false =>
        cases hkk : (y.f0 == x.f0) with
        | false =>
          have HQ : Hid (conA (l.take (j + 1)) x = false) := Lib.hid (by rw [HJ.out, con_other (by simpa using hkk)]; rfl)
          go_wp2_with fail
          obtain ⟨Y, hY⟩ : ∃ Y, Y = wr.heap.size := ⟨_, rfl⟩
          obtain ⟨W1, hW1⟩ : ∃ W1, W1 = wr.alloc (.cells #[.int .i64 y.f0, .int .i64 y.f1, .string y.f2, .slice B3 y.f3.length e3, .slice B4 y.f4.length e4, .slice B5 y.f5.length e5] 26) := ⟨_, rfl⟩
          have hS : SPN w [(A, #[.int .i64 x.f0, .int .i64 x.f1, .string x.f2, .slice A3x x.f3.length a3x, .slice A4x x.f4.length a4x, .slice A5x x.f5.length a5x], 26), (Y, #[.int .i64 y.f0, .int .i64 y.f1, .string y.f2, .slice B3 y.f3.length e3, .slice B4 y.f4.length e4, .slice B5 y.f5.length e5], 26)] W1 := by rw [hY, hW1]; exact HR.out.1.more _ _
          rw [← hW1]
          try rw [← hY]
          have HP := Lib.hid hS
          clear hS hW1 hY x0 x1 x2 x3 x4 x5 ya hlA
          go_roundg (gk - 1)
          case measure => have := HR.out.2; omega
          case rel =>
            have hw : wrap64 ((j : Int) + 1) = ((j + 1 : Nat) : Int) := by have := HN.out; have := HR.out.2; unfold wrap64; omega
            try rw [hw]
            exact ⟨j + 1, rfl, by have := HR.out.2; omega, SPN.tk1 HP.out, by rw [HQ.out]⟩
        | true =>
          obtain ⟨bx, hbx⟩ := con_same (x := y) (y := x) (by simpa using hkk)
          have HQ : Hid (conA (l.take (j + 1)) x = bx) := Lib.hid (by rw [HJ.out, hbx]; cases bx <;> rfl)
          go_wp2_with fail
          obtain ⟨Y, hY⟩ : ∃ Y, Y = wr.heap.size := ⟨_, rfl⟩
          obtain ⟨W1, hW1⟩ : ∃ W1, W1 = wr.alloc (.cells #[.int .i64 y.f0, .int .i64 y.f1, .string y.f2, .slice B3 y.f3.length e3, .slice B4 y.f4.length e4, .slice B5 y.f5.length e5] 26) := ⟨_, rfl⟩
          have hS : SPN w [(A, #[.int .i64 x.f0, .int .i64 x.f1, .string x.f2, .slice A3x x.f3.length a3x, .slice A4x x.f4.length a4x, .slice A5x x.f5.length a5x], 26), (Y, #[.int .i64 y.f0, .int .i64 y.f1, .string y.f2, .slice B3 y.f3.length e3, .slice B4 y.f4.length e4, .slice B5 y.f5.length e5], 26)] W1 := by rw [hY, hW1]; exact HR.out.1.more _ _
          rw [← hW1]
          try rw [← hY]
          have HP := Lib.hid hS
          clear hS hW1 hY x0 x1 x2 x3 x4 x5 ya hlA
          have HCO := Lib.hid (con_vals w y x _ _ _ _ _ _ _ _ _ _ _ _ _ _ _ _ _ _ _ _ _ _ _ _ (toGo_any w _ y (Nat.lt_succ_self _) (HS.out.2.2.2 y HX.out.1).1 (lc_h3 HW1.out y HX.out.1) _ HX.out.2) (HTX.out HWX.out) (lc_h3 HW1.out y HX.out.1) (HS.out.2.2.2 y HX.out.1).1 (HS.out.2.2.2 y HX.out.1).2 HWX.out HS.out.2.2.1.1 HS.out.2.2.1.2 bx hbx W1 HP.out.1.1)
          clear hbx
          refine HCO.out.mono ?_
          rintro e w6 ⟨rfl, hb⟩
          have H6 := Lib.hid (SPN.below HP.out hb)
          clear hb
          go_wp2_with fail
          refine (lc_yes bx _).mono ?_
          rintro e w7 ⟨rfl, hb⟩
          have H7 := Lib.hid (SPN.below H6.out hb)
          clear hb
          go_wp2_with fail
          go_roundg (gk - 1)
          case measure => have := HR.out.2; omega
          case rel =>
            have hw : wrap64 ((j : Int) + 1) = ((j + 1 : Nat) : Int) := by have := HN.out; have := HR.out.2; unfold wrap64; omega
            try rw [hw]
            exact ⟨j + 1, rfl, by have := HR.out.2; omega, SPN.tk1 H7.out, by rw [HQ.out]⟩
    · have q2 : ¬ (j : Int) < (n : Int) := by omega
      have q4 : decide ((j : Int) < (n : Int)) = false := decide_eq_false q2
      have q5 : decide (j < n) = false := decide_eq_false hlt
      have HE : Hid (conA (l.take j) x = conA l x) := Lib.hid (by rw [List.take_of_length_le (by have := HNN.out; omega)])
      have HR := Lib.hid hbr
      obtain ⟨bv, hbv⟩ : ∃ bv, bv = conA l x := ⟨_, rfl⟩
      rw [HE.out, ← hbv]
      have HCO : Hid (∀ w1 G, SPN w [(A, #[.int .i64 x.f0, .int .i64 x.f1, .string x.f2, .slice A3x x.f3.length a3x, .slice A4x x.f4.length a4x, .slice A5x x.f5.length a5x], 26), (G, #[.int .i64 x.f0, .int .i64 x.f1, .string x.f2, .slice A3x x.f3.length a3x, .slice A4x x.f4.length a4x, .slice A5x x.f5.length a5x], 26)] w1 → Calls Tryz.prog 20 #[.agg #[.int .i64 5, .int .i64 0, .string ⟨#[]⟩, .slice A1 n c1, .slice none 0 0, .slice none 0 0], .agg #[.int .i64 5, .int .i64 0, .string ⟨#[]⟩, .slice (some ⟨G, 0, none⟩) 1 1, .slice none 0 0, .slice none 0 0]] w1 fun e w' => e = .returned (resB bv) ∧ Below w1.heap.size w1 w') := Lib.hid (by
        intro w1 G h
        have hb := h.1.1
        have hKl := lc_K (l := [x]) (c := 1) (Nat.le_refl _) (lc_one (k26.K_below hb HKX.out) (h.1.get 1 rfl))
        have hsx : Sz (lV [x]) := lc_sz (fun y hy => by rw [List.mem_singleton.1 hy]; exact HS.out.2.2.1.1)
        have htx : Tz (lV [x]) := lc_tz (fun y hy => by rw [List.mem_singleton.1 hy]; exact HS.out.2.2.1.2)
        have hwx : WL (lV [x]) := lc_wl (by simp) (fun y hy => by rw [List.mem_singleton.1 hy]; exact HWX.out)
        rw [hbv, HNN.out]
        exact con_vals w1 (lV l) (lV [x]) _ _ _ _ _ _ _ _ _ _ _ _ _ _ _ _ _ _ _ _ _ _ _ _ ((HT1.out HW1.out).later hb) (toGo_any w1 _ (lV [x]) (Nat.lt_succ_self _) hsx hwx _ hKl) HW1.out HS.out.1 HS.out.2.1 hwx hsx htx _ (con_single l x) w1 (Below.refl _ _))
      clear hbv hbr hkj hlt q2
      go_wp2_with fail
      refine start_ (n := 10) (S := fun w' => w'.cell? ⟨A, 0, none⟩ = some (.int .i64 x.f0) ∧ w'.cell? ⟨A, 1, none⟩ = some (.int .i64 x.f1) ∧ w'.cell? ⟨A, 2, none⟩ = some (.string x.f2) ∧ w'.cell? ⟨A, 3, none⟩ = some (.slice A3x x.f3.length a3x) ∧ w'.cell? ⟨A, 4, none⟩ = some (.slice A4x x.f4.length a4x) ∧ w'.cell? ⟨A, 5, none⟩ = some (.slice A5x x.f5.length a5x) ∧ SPN w [(A, #[.int .i64 x.f0, .int .i64 x.f1, .string x.f2, .slice A3x x.f3.length a3x, .slice A4x x.f4.length a4x, .slice A5x x.f5.length a5x], 26)] w') (ds := []) #[false, false, false, false, false, false, false, false, false, false] (by kernel_rfl) rfl rfl ⟨((six_cells (((SPN.drew HR.out).1).get 0 rfl)).1), ((six_cells (((SPN.drew HR.out).1).get 0 rfl)).2.1), ((six_cells (((SPN.drew HR.out).1).get 0 rfl)).2.2.1), ((six_cells (((SPN.drew HR.out).1).get 0 rfl)).2.2.2.1), ((six_cells (((SPN.drew HR.out).1).get 0 rfl)).2.2.2.2.1), ((six_cells (((SPN.drew HR.out).1).get 0 rfl)).2.2.2.2.2.1), (SPN.drew HR.out)⟩ (fun hHeld => ?_)
      refine pure_ (i := 0) (N := some 43) (v := ?_) (a' := ?_) #[true, false, false, false, false, false, false, false, false, false] rfl rfl (by kernel_rfl) (fun _ _ _ h => h) (Or.inl ⟨by rfl, ?_⟩) ?_ ?_
      rotate_left
      · intro w'
        go_simp
        with_reducible rfl
      rotate_left
      · simp only [Act.put, List.setIfInBounds_toArray, List.set_cons_zero, List.set_cons_succ, i64_w, i32_w]
        rfl
      refine pure_ (i := 6) (N := some 49) (v := ?_) (a' := ?_) #[true, false, false, false, false, false, true, false, false, false] rfl rfl (by kernel_rfl) (fun _ _ _ h => h) (Or.inl ⟨by rfl, ?_⟩) ?_ ?_
      rotate_left
      · intro w'
        go_simp
        with_reducible rfl
      rotate_left
      · simp only [Act.put, List.setIfInBounds_toArray, List.set_cons_zero, List.set_cons_succ, i64_w, i32_w]
        rfl
      refine take_ (i := 2) (N := some 45) (v := ?_) (a' := ?_) #[true, false, true, false, false, false, true, false, false, false] rfl rfl (by kernel_rfl) (fun _ _ _ h => h) (Or.inl ⟨by rfl, ?_⟩) hHeld ?_ ?_
      rotate_left
      · rintro w' ⟨s0, s1, s2, s3, s4, s5, s6⟩
        go_simp
        with_reducible rfl
      rotate_left
      · simp only [Act.put, List.setIfInBounds_toArray, List.set_cons_zero, List.set_cons_succ, i64_w, i32_w]
        rfl
      refine join_ (σ := Nat × Unit) 5 #[true, true, true, true, false, false, true, false, false, false] (fun s => [(44, .agg #[.int .i64 5, .int .i64 0, .string ⟨#[]⟩, .slice A1 n c1, .slice none 0 0, .slice none 0 0]), (46, .slice (some ⟨s.1, 0, none⟩) 1 1)]) (fun s w' => SPN w [(A, #[.int .i64 x.f0, .int .i64 x.f1, .string x.f2, .slice A3x x.f3.length a3x, .slice A4x x.f4.length a4x, .slice A5x x.f5.length a5x], 26), (s.1, #[.int .i64 x.f0, .int .i64 x.f1, .string x.f2, .slice A3x x.f3.length a3x, .slice A4x x.f4.length a4x, .slice A5x x.f5.length a5x], 26)] w') ?_ ?_
      rotate_left
      · intro hCont
        refine two_ (i := 1) (j := 3) (Ni := some 44) (Nj := some 46) #[true, true, true, false, false, false, true, false, false, false] #[true, false, true, true, false, false, true, false, false, false] rfl rfl rfl rfl (by kernel_rfl) (by decide) (by decide) (fun K hK => ?_) (fun K hK => ?_)
        · skip
          refine goes_ Tryz.func18 (by kernel_rfl) rfl #[.slice A1 n c1] (by rfl) rfl rfl (by simp only [List.map_toArray, List.map_cons, List.map_nil]; rfl) ?_
          with_reducible refine ((HAR.out A1 n c1 _)).mono ?_
          rintro e wz ⟨rfl, hb⟩
          refine ⟨_, rfl, ?_⟩
          have hz := SPN.below hHeld.2.2.2.2.2.2 hb
          refine hK.out _ _ ⟨((six_cells ((hz.1).get 0 rfl)).1), ((six_cells ((hz.1).get 0 rfl)).2.1), ((six_cells ((hz.1).get 0 rfl)).2.2.1), ((six_cells ((hz.1).get 0 rfl)).2.2.2.1), ((six_cells ((hz.1).get 0 rfl)).2.2.2.2.1), ((six_cells ((hz.1).get 0 rfl)).2.2.2.2.2.1), hz⟩ (fun hHeld => ?_)
          clear hK K
          refine norm_ (a' := ?_) ?_ ?_
          rotate_left
          · show Act.put _ (some 44) _ = _
            simp only [Act.put, List.setIfInBounds_toArray, List.set_cons_zero, List.set_cons_succ, i64_w, i32_w]
            rfl
          refine one_ (i := 3) (N := some 46) #[true, true, true, true, false, false, true, false, false, false] rfl rfl (by kernel_rfl) (by decide) (fun K hK => ?_)
          refine boxN_ (c := #[.int .i64 x.f0, .int .i64 x.f1, .string x.f2, .slice A3x x.f3.length a3x, .slice A4x x.f4.length a4x, .slice A5x x.f5.length a5x]) (t := 26) hz (by rfl) rfl ?_ ?_
          · first | (go_simp; done) | (go_simp; rfl)
          intro G wz5 hz5
          change SPN w [(A, #[.int .i64 x.f0, .int .i64 x.f1, .string x.f2, .slice A3x x.f3.length a3x, .slice A4x x.f4.length a4x, .slice A5x x.f5.length a5x], 26), (G, #[.int .i64 x.f0, .int .i64 x.f1, .string x.f2, .slice A3x x.f3.length a3x, .slice A4x x.f4.length a4x, .slice A5x x.f5.length a5x], 26)] wz5 at hz5
          refine hK.out _ _ ⟨((six_cells (((SPN.tk1 hz5).1).get 0 rfl)).1), ((six_cells (((SPN.tk1 hz5).1).get 0 rfl)).2.1), ((six_cells (((SPN.tk1 hz5).1).get 0 rfl)).2.2.1), ((six_cells (((SPN.tk1 hz5).1).get 0 rfl)).2.2.2.1), ((six_cells (((SPN.tk1 hz5).1).get 0 rfl)).2.2.2.2.1), ((six_cells (((SPN.tk1 hz5).1).get 0 rfl)).2.2.2.2.2.1), (SPN.tk1 hz5)⟩ (fun hHeld => ?_)
          clear hK K
          refine norm_ (a' := ?_) ?_ ?_
          rotate_left
          · show Act.put _ (some 46) _ = _
            simp only [Act.put, List.setIfInBounds_toArray, List.set_cons_zero, List.set_cons_succ, i64_w, i32_w]
            rfl
          exact norm_ (by simp only [putAll, Act.put, List.setIfInBounds_toArray, List.set_cons_zero, List.set_cons_succ]) (hCont (G, ()) _ hz5)
        · skip
          refine boxN_ (c := #[.int .i64 x.f0, .int .i64 x.f1, .string x.f2, .slice A3x x.f3.length a3x, .slice A4x x.f4.length a4x, .slice A5x x.f5.length a5x]) (t := 26) hHeld.2.2.2.2.2.2 (by rfl) rfl ?_ ?_
          · first | (go_simp; done) | (go_simp; rfl)
          intro G wz5 hz5
          change SPN w [(A, #[.int .i64 x.f0, .int .i64 x.f1, .string x.f2, .slice A3x x.f3.length a3x, .slice A4x x.f4.length a4x, .slice A5x x.f5.length a5x], 26), (G, #[.int .i64 x.f0, .int .i64 x.f1, .string x.f2, .slice A3x x.f3.length a3x, .slice A4x x.f4.length a4x, .slice A5x x.f5.length a5x], 26)] wz5 at hz5
          refine hK.out _ _ ⟨((six_cells (((SPN.tk1 hz5).1).get 0 rfl)).1), ((six_cells (((SPN.tk1 hz5).1).get 0 rfl)).2.1), ((six_cells (((SPN.tk1 hz5).1).get 0 rfl)).2.2.1), ((six_cells (((SPN.tk1 hz5).1).get 0 rfl)).2.2.2.1), ((six_cells (((SPN.tk1 hz5).1).get 0 rfl)).2.2.2.2.1), ((six_cells (((SPN.tk1 hz5).1).get 0 rfl)).2.2.2.2.2.1), (SPN.tk1 hz5)⟩ (fun hHeld => ?_)
          clear hK K
          refine norm_ (a' := ?_) ?_ ?_
          rotate_left
          · show Act.put _ (some 46) _ = _
            simp only [Act.put, List.setIfInBounds_toArray, List.set_cons_zero, List.set_cons_succ, i64_w, i32_w]
            rfl
          refine one_ (i := 1) (N := some 44) #[true, true, true, true, false, false, true, false, false, false] rfl rfl (by kernel_rfl) (by decide) (fun K hK => ?_)
          refine goes_ Tryz.func18 (by kernel_rfl) rfl #[.slice A1 n c1] (by rfl) rfl rfl (by simp only [List.map_toArray, List.map_cons, List.map_nil]; rfl) ?_
          with_reducible refine ((HAR.out A1 n c1 _)).mono ?_
          rintro e wz ⟨rfl, hb⟩
          refine ⟨_, rfl, ?_⟩
          have hz := SPN.below hz5 hb
          refine hK.out _ _ ⟨((six_cells (((SPN.tk1 hz).1).get 0 rfl)).1), ((six_cells (((SPN.tk1 hz).1).get 0 rfl)).2.1), ((six_cells (((SPN.tk1 hz).1).get 0 rfl)).2.2.1), ((six_cells (((SPN.tk1 hz).1).get 0 rfl)).2.2.2.1), ((six_cells (((SPN.tk1 hz).1).get 0 rfl)).2.2.2.2.1), ((six_cells (((SPN.tk1 hz).1).get 0 rfl)).2.2.2.2.2.1), (SPN.tk1 hz)⟩ (fun hHeld => ?_)
          clear hK K
          refine norm_ (a' := ?_) ?_ ?_
          rotate_left
          · show Act.put _ (some 44) _ = _
            simp only [Act.put, List.setIfInBounds_toArray, List.set_cons_zero, List.set_cons_succ, i64_w, i32_w]
            rfl
          exact norm_ (by simp only [putAll, Act.put, List.setIfInBounds_toArray, List.set_cons_zero, List.set_cons_succ]) (hCont (G, ()) _ hz)
      rintro ⟨G, _⟩ w' hF
      change SPN w [(A, #[.int .i64 x.f0, .int .i64 x.f1, .string x.f2, .slice A3x x.f3.length a3x, .slice A4x x.f4.length a4x, .slice A5x x.f5.length a5x], 26), (G, #[.int .i64 x.f0, .int .i64 x.f1, .string x.f2, .slice A3x x.f3.length a3x, .slice A4x x.f4.length a4x, .slice A5x x.f5.length a5x], 26)] w' at hF
      have hHeld := (⟨((six_cells (((SPN.tk1 hF).1).get 0 rfl)).1), ((six_cells (((SPN.tk1 hF).1).get 0 rfl)).2.1), ((six_cells (((SPN.tk1 hF).1).get 0 rfl)).2.2.1), ((six_cells (((SPN.tk1 hF).1).get 0 rfl)).2.2.2.1), ((six_cells (((SPN.tk1 hF).1).get 0 rfl)).2.2.2.2.1), ((six_cells (((SPN.tk1 hF).1).get 0 rfl)).2.2.2.2.2.1), (SPN.tk1 hF)⟩ : w'.cell? ⟨A, 0, none⟩ = some (.int .i64 x.f0) ∧ w'.cell? ⟨A, 1, none⟩ = some (.int .i64 x.f1) ∧ w'.cell? ⟨A, 2, none⟩ = some (.string x.f2) ∧ w'.cell? ⟨A, 3, none⟩ = some (.slice A3x x.f3.length a3x) ∧ w'.cell? ⟨A, 4, none⟩ = some (.slice A4x x.f4.length a4x) ∧ w'.cell? ⟨A, 5, none⟩ = some (.slice A5x x.f5.length a5x) ∧ SPN w [(A, #[.int .i64 x.f0, .int .i64 x.f1, .string x.f2, .slice A3x x.f3.length a3x, .slice A4x x.f4.length a4x, .slice A5x x.f5.length a5x], 26)] w')
      refine norm_ (a' := ?_) ?_ ?_
      rotate_left
      · simp only [putAll, Act.put, List.setIfInBounds_toArray, List.set_cons_zero, List.set_cons_succ]
        rfl
      refine one_ (i := 4) (N := some 47) #[true, true, true, true, true, false, true, false, false, false] rfl rfl (by kernel_rfl) (by decide) (fun K hK => ?_)
      refine goes_ Tryz.func18 (by kernel_rfl) rfl #[.slice (some ⟨G, 0, none⟩) 1 1] (by rfl) rfl rfl (by simp only [List.map_toArray, List.map_cons, List.map_nil]; rfl) ?_
      with_reducible refine ((HAR.out (some ⟨G, 0, none⟩) 1 1 _)).mono ?_
      rintro e wy4 ⟨rfl, hb4⟩
      refine ⟨_, rfl, ?_⟩
      have hz4 := SPN.below hF hb4
      refine hK.out _ _ ⟨((six_cells (((SPN.tk1 hz4).1).get 0 rfl)).1), ((six_cells (((SPN.tk1 hz4).1).get 0 rfl)).2.1), ((six_cells (((SPN.tk1 hz4).1).get 0 rfl)).2.2.1), ((six_cells (((SPN.tk1 hz4).1).get 0 rfl)).2.2.2.1), ((six_cells (((SPN.tk1 hz4).1).get 0 rfl)).2.2.2.2.1), ((six_cells (((SPN.tk1 hz4).1).get 0 rfl)).2.2.2.2.2.1), (SPN.tk1 hz4)⟩ (fun hHeld => ?_)
      clear hK K
      refine norm_ (a' := ?_) ?_ ?_
      rotate_left
      · show Act.put _ (some 47) _ = _
        simp only [Act.put, List.setIfInBounds_toArray, List.set_cons_zero, List.set_cons_succ, i64_w, i32_w]
        rfl
      refine one_ (i := 5) (N := some 48) #[true, true, true, true, true, true, true, false, false, false] rfl rfl (by kernel_rfl) (by decide) (fun K hK => ?_)
      refine goes_ Tryz.func20 (by kernel_rfl) rfl #[.agg #[.int .i64 5, .int .i64 0, .string ⟨#[]⟩, .slice A1 n c1, .slice none 0 0, .slice none 0 0], .agg #[.int .i64 5, .int .i64 0, .string ⟨#[]⟩, .slice (some ⟨G, 0, none⟩) 1 1, .slice none 0 0, .slice none 0 0]] (by rfl) rfl rfl (by simp only [List.map_toArray, List.map_cons, List.map_nil]; rfl) ?_
      with_reducible refine ((HCO.out _ G hz4)).mono ?_
      rintro e wy5 ⟨rfl, hb5⟩
      refine ⟨_, rfl, ?_⟩
      have hz5 := SPN.below hz4 hb5
      refine hK.out _ _ ⟨((six_cells (((SPN.tk1 hz5).1).get 0 rfl)).1), ((six_cells (((SPN.tk1 hz5).1).get 0 rfl)).2.1), ((six_cells (((SPN.tk1 hz5).1).get 0 rfl)).2.2.1), ((six_cells (((SPN.tk1 hz5).1).get 0 rfl)).2.2.2.1), ((six_cells (((SPN.tk1 hz5).1).get 0 rfl)).2.2.2.2.1), ((six_cells (((SPN.tk1 hz5).1).get 0 rfl)).2.2.2.2.2.1), (SPN.tk1 hz5)⟩ (fun hHeld => ?_)
      clear hK K
      refine norm_ (a' := ?_) ?_ ?_
      rotate_left
      · show Act.put _ (some 48) _ = _
        simp only [Act.put, List.setIfInBounds_toArray, List.set_cons_zero, List.set_cons_succ, i64_w, i32_w]
        rfl
      refine one_ (i := 7) (N := some 50) #[true, true, true, true, true, true, true, true, false, false] rfl rfl (by kernel_rfl) (by decide) (fun K hK => ?_)
      refine goes_ Tryz.func22 (by kernel_rfl) rfl #[.bool bv] (by rfl) rfl rfl (by simp only [List.map_toArray, List.map_cons, List.map_nil]; rfl) ?_
      with_reducible refine ((lc_bool bv _)).mono ?_
      rintro e wy7 ⟨rfl, hb7⟩
      refine ⟨_, rfl, ?_⟩
      have hz7 := SPN.below hz5 hb7
      refine hK.out _ _ ⟨((six_cells (((SPN.tk1 hz7).1).get 0 rfl)).1), ((six_cells (((SPN.tk1 hz7).1).get 0 rfl)).2.1), ((six_cells (((SPN.tk1 hz7).1).get 0 rfl)).2.2.1), ((six_cells (((SPN.tk1 hz7).1).get 0 rfl)).2.2.2.1), ((six_cells (((SPN.tk1 hz7).1).get 0 rfl)).2.2.2.2.1), ((six_cells (((SPN.tk1 hz7).1).get 0 rfl)).2.2.2.2.2.1), (SPN.tk1 hz7)⟩ (fun hHeld => ?_)
      clear hK K
      refine norm_ (a' := ?_) ?_ ?_
      rotate_left
      · show Act.put _ (some 50) _ = _
        simp only [Act.put, List.setIfInBounds_toArray, List.set_cons_zero, List.set_cons_succ, i64_w, i32_w]
        rfl
      refine one_ (i := 8) (N := some 51) #[true, true, true, true, true, true, true, true, true, false] rfl rfl (by kernel_rfl) (by decide) (fun K hK => ?_)
      refine goes_ Tryz.func21 (by kernel_rfl) rfl #[resB bv, .agg #[.int .i64 (kb bv), .int .i64 0, .string ⟨#[]⟩, .slice none 0 0, .slice none 0 0, .slice none 0 0]] (by rfl) rfl rfl (by simp only [List.map_toArray, List.map_cons, List.map_nil]; rfl) ?_
      with_reducible refine ((lc_given bv _)).mono ?_
      rintro e wy8 ⟨rfl, hb8⟩
      refine ⟨_, rfl, ?_⟩
      have hz8 := SPN.below hz7 hb8
      refine hK.out _ _ ⟨((six_cells (((SPN.tk1 hz8).1).get 0 rfl)).1), ((six_cells (((SPN.tk1 hz8).1).get 0 rfl)).2.1), ((six_cells (((SPN.tk1 hz8).1).get 0 rfl)).2.2.1), ((six_cells (((SPN.tk1 hz8).1).get 0 rfl)).2.2.2.1), ((six_cells (((SPN.tk1 hz8).1).get 0 rfl)).2.2.2.2.1), ((six_cells (((SPN.tk1 hz8).1).get 0 rfl)).2.2.2.2.2.1), (SPN.tk1 hz8)⟩ (fun hHeld => ?_)
      clear hK K
      refine norm_ (a' := ?_) ?_ ?_
      rotate_left
      · show Act.put _ (some 51) _ = _
        simp only [Act.put, List.setIfInBounds_toArray, List.set_cons_zero, List.set_cons_succ, i64_w, i32_w]
        rfl
      refine pure_ (i := 9) (N := some 4) (v := ?_) (a' := ?_) #[true, true, true, true, true, true, true, true, true, true] rfl rfl (by kernel_rfl) (fun _ _ _ h => h) (Or.inl ⟨by rfl, ?_⟩) ?_ ?_
      rotate_left
      · intro w'
        go_simp
        with_reducible rfl
      rotate_left
      · simp only [Act.put, List.setIfInBounds_toArray, List.set_cons_zero, List.set_cons_succ, i64_w, i32_w]
        rfl
      refine done_ (by kernel_rfl) ?_
      go_wp2_with fail
      go_ret
      exact ⟨rfl, hz8.1.1⟩
theorem fnContainsSome_any (w0 : World) (hE : Env w0) (A1 : Option Addr) (l : List V) (c1 : Nat) (hlc1 : l.length ≤ c1) (hC1 : Kd.C k26 w0 A1 l.length l) (hz1 : ∀ y ∈ l, Sz y ∧ Tz y) (xa : V) (hza : Sz xa ∧ Tz xa) (Ka Ha : Int) (sa : ByteArray) (A3a A4a A5a : Option Addr) (n3a c3a n4a c4a n5a c5a : Nat) (hKa : k26.K w0 xa [.int .i64 Ka, .int .i64 Ha, .string sa, .slice A3a n3a c3a, .slice A4a n4a c4a, .slice A5a n5a c5a]) :
    Calls Tryz.prog 5 #[.slice A1 l.length c1, .agg #[.int .i64 Ka, .int .i64 Ha, .string sa, .slice A3a n3a c3a, .slice A4a n4a c4a, .slice A5a n5a c5a]] w0 fun e w' => e = .returned (.bool true) ∧ Below w0.heap.size w0 w' := by
  have hKa' := hKa
  obtain ⟨_, _, _, _, _, _, hea, _⟩ := k26_open hKa
  simp only [List.cons.injEq, Value.int.injEq, Value.string.injEq, Value.slice.injEq, true_and, and_true] at hea
  obtain ⟨rfl, rfl, rfl, ⟨rfl, rfl, rfl⟩, ⟨rfl, rfl, rfl⟩, ⟨rfl, rfl, rfl⟩⟩ := hea
  exact core_some w0 hE A1 l c1 hlc1 hC1 hz1 xa hza _ _ _ _ _ _ hKa'
end Go.Proofs.YtcoahpcjhhnkkaaGreatDoor.ValA
