/-
spec.Fit and laws.num at any value.
-/
import Derived.Test.YtdcgjfiknknjfaaGreatDoorLookB
namespace Go.Proofs.YtdcgjfiknknjfaaGreatDoor.ValA
open Go.RowKit Go.Lib Go.Proofs.YtdcgjfiknknjfaaGreatDoorW.PrintWords Go.Proofs.YtdcgjfiknknjfaaGreatDoorW.PrintLast Go.Proofs.YtdcgjfiknknjfaaGreatDoorW.PrintMore Go.Proofs.YtdcgjfiknknjfaaGreatDoor.PzzFits1
theorem looks_any (w0 : World) (hE : Env w0) (g : Nat) (hg0 : w0.heap.size ≤ g) : ∀ (N : Nat) (x : V), SizeOf.sizeOf x < N → Sz x → ∀ cs, k26.K w0 x cs → Looks w0 g x cs
  | 0, _, h, _, _, _ => absurd h (Nat.not_lt_zero _)
  | N + 1, x, hN, hz, cs, hK => by
    obtain ⟨A3, c3, A4, c4, A5, c5, rfl, l3, g3, l4, g4, l5, g5⟩ := k26_open hK
    obtain ⟨_, z2, z4, z3, z5⟩ := hz
    intro p q d b w hb h
    have ih3 : ∀ y ∈ x.f3, ∀ cs, k26.K w0 y cs → Looks w0 g y cs := fun y hy cs hc => looks_any w0 hE g hg0 N y (by
      have h1 := List.sizeOf_lt_of_mem hy
      have h2 : SizeOf.sizeOf x.f3 < SizeOf.sizeOf x := by cases x; simp; omega
      omega) (z3 y hy) cs hc
    have ih5 : ∀ y ∈ x.f5, ∀ cs, k26.K w0 y cs → Looks w0 g y cs := fun y hy cs hc => looks_any w0 hE g hg0 N y (by
      have h1 := List.sizeOf_lt_of_mem hy
      have h2 : SizeOf.sizeOf x.f5 < SizeOf.sizeOf x := by cases x; simp; omega
      omega) (z5 y hy) cs hc
    have e : LookPost w g x p b = LookPost w g ⟨x.f0, x.f1, x.f2, x.f3, x.f4, x.f5⟩ p b := by cases x; rfl
    rw [e]
    exact value_t w0 hE g hg0 p q d b x.f0 x.f1 x.f2 z2 A3 A4 A5 x.f3.length c3 x.f4.length c4 x.f5.length c5 x.f3 x.f4 x.f5 g3 g4 g5 z4 ih3 ih5 w hb h
/-- What a bool says of a value, if it is true. -/
def Says (Q : Prop) (w : World) (e : Ending) (w' : World) : Prop := ∃ r, e = .returned (.bool r) ∧ (r = true → Q) ∧ Below w.heap.size w w'
set_option maxHeartbeats 1000000 in
theorem fit_any (w0 : World) (hE : Env w0) (x : V) (hz : Sz x) (K H : Int) (s : ByteArray) (A3 A4 A5 : Option Addr) (n3 c3 n4 c4 n5 c5 : Nat) (hK : k26.K w0 x [.int .i64 K, .int .i64 H, .string s, .slice A3 n3 c3, .slice A4 n4 c4, .slice A5 n5 c5]) (w : World) (hb : Below w0.heap.size w0 w) :
    Calls Tryz.prog 31 #[.agg #[.int .i64 K, .int .i64 H, .string s, .slice A3 n3 c3, .slice A4 n4 c4, .slice A5 n5 c5]] w (Says (WF x) w) := by
  have HL := Lib.hid (fun g hg => looks_any w0 hE g hg _ x (Nat.lt_succ_self _) hz _ hK)
  have HB := Lib.hid hb
  clear hE hz hK hb
  go_enter Tryz.func31, Tryz.ntmps31
  go_wp2_with fail
  have hbx : Below w.heap.size w ((w.alloc (.cells #[.int .i64 K, .int .i64 H, .string s, .slice A3 n3 c3, .slice A4 n4 c4, .slice A5 n5 c5] 26)).alloc (.cells #[.int .i64 0, .int .i64 0, .bool false] 59)) := ((Below.refl _ w).alloc (Nat.le_refl _) _).alloc (by simp) _
  have hlk : Lk ((w.alloc (.cells #[.int .i64 K, .int .i64 H, .string s, .slice A3 n3 c3, .slice A4 n4 c4, .slice A5 n5 c5] 26)).alloc (.cells #[.int .i64 0, .int .i64 0, .bool false] 59)) (w.heap.size + 1) 0 0 false := by
    have := heap_alloc_new (w.alloc (.cells #[.int .i64 K, .int .i64 H, .string s, .slice A3 n3 c3, .slice A4 n4 c4, .slice A5 n5 c5] 26)) (.cells #[.int .i64 0, .int .i64 0, .bool false] 59)
    unfold Lk
    simpa using this
  obtain ⟨w1, hw1⟩ : ∃ w1, w1 = ((w.alloc (.cells #[.int .i64 K, .int .i64 H, .string s, .slice A3 n3 c3, .slice A4 n4 c4, .slice A5 n5 c5] 26)).alloc (.cells #[.int .i64 0, .int .i64 0, .bool false] 59)) := ⟨_, rfl⟩
  rw [← hw1] at hbx hlk ⊢
  have H1 := Lib.hid (And.intro hbx hlk)
  clear hw1 hbx hlk
  refine (HL.out (w.heap.size + 1) (by have := HB.out.size; omega) 0 0 0 false w1 (HB.out.trans (H1.out.1.mono HB.out.size)) H1.out.2).mono ?_
  rintro e w2 ⟨p', q', c, hc, rfl, hl, hg⟩
  have H2 := Lib.hid (And.intro hc (H1.out.1.grown hg H1.out.1.size (fun k hk => by cases hk; omega)))
  obtain ⟨y0, y1, y2, k0, k1, k2⟩ := hl.cells
  clear hc hl hg H1 HL HB
  go_wp2_with fail
  go_ret
  exact ⟨!c, rfl, fun e => ((H2.out.1 (by cases c <;> simp_all)).2.2 (by omega) (by omega)).2, H2.out.2⟩
set_option maxHeartbeats 1000000 in
theorem num_any (w0 : World) (hE : Env w0) (x : V) (hz : Sz x) (K H : Int) (s : ByteArray) (A3 A4 A5 : Option Addr) (n3 c3 n4 c4 n5 c5 : Nat) (hK : k26.K w0 x [.int .i64 K, .int .i64 H, .string s, .slice A3 n3 c3, .slice A4 n4 c4, .slice A5 n5 c5]) (most : Int) (hm0 : 0 ≤ most) (hm1 : most ≤ 1152921504606846976) (w : World) (hb : Below w0.heap.size w0 w) :
    Calls Tryz.prog 16 #[.agg #[.int .i64 K, .int .i64 H, .string s, .slice A3 n3 c3, .slice A4 n4 c4, .slice A5 n5 c5], .int .i64 most] w (Says (WF x ∧ K = 3 ∧ -(2 * most) ≤ H ∧ H ≤ 2 * most) w) := by
  have hbx : Below w.heap.size w (w.alloc (.cells #[.int .i64 K, .int .i64 H, .string s, .slice A3 n3 c3, .slice A4 n4 c4, .slice A5 n5 c5] 26)) := (Below.refl _ w).alloc (Nat.le_refl _) _
  have hx := heap_alloc_new w (.cells #[.int .i64 K, .int .i64 H, .string s, .slice A3 n3 c3, .slice A4 n4 c4, .slice A5 n5 c5] 26)
  obtain ⟨w1, hw1⟩ : ∃ w1, w1 = (w.alloc (.cells #[.int .i64 K, .int .i64 H, .string s, .slice A3 n3 c3, .slice A4 n4 c4, .slice A5 n5 c5] 26)) := ⟨_, rfl⟩
  have HF := Lib.hid (fit_any w0 hE x hz K H s A3 A4 A5 n3 c3 n4 c4 n5 c5 hK w1 (hb.trans (by rw [hw1]; exact hbx.mono hb.size)))
  have H0 := Lib.hid (show Below w.heap.size w w1 ∧ w1.heap[w.heap.size]? = some (.cells #[.int .i64 K, .int .i64 H, .string s, .slice A3 n3 c3, .slice A4 n4 c4, .slice A5 n5 c5] 26 (0, 0)) by rw [hw1]; exact ⟨hbx, hx⟩)
  clear hE hz hK hb hbx hx
  obtain ⟨lo, hlo⟩ : ∃ lo, lo = -(2 * most) := ⟨_, rfl⟩
  obtain ⟨hi, hhi⟩ : ∃ hi, hi = 2 * most := ⟨_, rfl⟩
  have e1 : wrap64 (-2 * most) = lo := by rw [hlo]; unfold wrap64; omega
  have e2 : wrap64 (2 * most) = hi := by rw [hhi]; unfold wrap64; omega
  rw [← hlo, ← hhi]
  clear hm0 hm1 hlo hhi
  have done : ∀ (r : Bool) (w2 : World), (r = true → WF x ∧ K = 3 ∧ lo ≤ H ∧ H ≤ hi) → Below w1.heap.size w1 w2 → Says (WF x ∧ K = 3 ∧ lo ≤ H ∧ H ≤ hi) w (.returned (.bool r)) w2 := fun r w2 h hb => ⟨r, rfl, h, H0.out.1.trans (hb.mono H0.out.1.size)⟩
  have HD := Lib.hid done
  clear done
  cases h3 : (K == 3)
  · go_enter Tryz.func16, Tryz.ntmps16
    go_wp2_with fail
    rw [← hw1]
    refine HF.out.mono ?_
    rintro e w2 ⟨r, rfl, hr, hb⟩
    have HR := Lib.hid (And.intro hr hb)
    have y := six_cells ((hb.block _ (lt_of_heap H0.out.2)).trans H0.out.2)
    clear hr hb
    cases r
    all_goals
      go_wp2_with fail
      go_ret
      exact HD.out _ _ (fun e => by cases e) HR.out.2
  · have HK3 := Lib.hid (beq_iff_eq.1 h3)
    cases hl : decide (lo ≤ H)
    · go_enter Tryz.func16, Tryz.ntmps16
      go_wp2_with fail
      rw [← hw1]
      refine HF.out.mono ?_
      rintro e w2 ⟨r, rfl, hr, hb⟩
      have HR := Lib.hid (And.intro hr hb)
      have y := six_cells ((hb.block _ (lt_of_heap H0.out.2)).trans H0.out.2)
      clear hr hb
      cases r
      all_goals
        go_wp2_with fail
        go_ret
        exact HD.out _ _ (fun e => by cases e) HR.out.2
    · have HLO := Lib.hid (of_decide_eq_true hl)
      cases hh : decide (H ≤ hi)
      · go_enter Tryz.func16, Tryz.ntmps16
        go_wp2_with fail
        rw [← hw1]
        refine HF.out.mono ?_
        rintro e w2 ⟨r, rfl, hr, hb⟩
        have HR := Lib.hid (And.intro hr hb)
        have y := six_cells ((hb.block _ (lt_of_heap H0.out.2)).trans H0.out.2)
        clear hr hb
        cases r
        all_goals
          go_wp2_with fail
          go_ret
          exact HD.out _ _ (fun e => by cases e) HR.out.2
      · have HHI := Lib.hid (of_decide_eq_true hh)
        go_enter Tryz.func16, Tryz.ntmps16
        go_wp2_with fail
        rw [← hw1]
        refine HF.out.mono ?_
        rintro e w2 ⟨r, rfl, hr, hb⟩
        have HR := Lib.hid (And.intro hr hb)
        have y := six_cells ((hb.block _ (lt_of_heap H0.out.2)).trans H0.out.2)
        clear hr hb
        cases r
        all_goals
          go_wp2_with fail
          go_ret
          exact HD.out _ _ (fun e => ⟨HR.out.1 (by first | trivial | exact e | cases e), HK3.out, HLO.out, HHI.out⟩) HR.out.2
end Go.Proofs.YtdcgjfiknknjfaaGreatDoor.ValA
