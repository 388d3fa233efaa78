import Derived.Test.YtaiidipcmnejoaaGreatDoorBinMulAll
import Derived.Test.YtaiidipcmnejoaaGreatDoorMulA

namespace Go.Proofs.YtaiidipcmnejoaaGreatDoor.OpMulW
open Go.RowKit Go.Lib Go.Proofs.YtaiidipcmnejoaaGreatDoorW.PrintWords Go.Proofs.YtaiidipcmnejoaaGreatDoorW.PrintLast Go.Proofs.YtaiidipcmnejoaaGreatDoorW.PrintMore
open Go.Proofs.YtaiidipcmnejoaaGreatDoor.Nt Go.Proofs.YtaiidipcmnejoaaGreatDoor.Dec Go.Proofs.YtaiidipcmnejoaaGreatDoor.IntW Go.Proofs.YtaiidipcmnejoaaGreatDoor.NumW Go.Proofs.YtaiidipcmnejoaaGreatDoor.NumV
open Go.Proofs.YtaiidipcmnejoaaGreatDoor.Spec (S S_list S_toList S_size S_of S_ext)
theorem mul_x (gx gy : Nat) (m n : Int) (L : Nat) (w : World) (hx : IntAt w gx m L) (hy : IntAt w gy n L) (hL : L ≤ 100000) :
    Calls Tryz.prog 107 #[.pointer (some ⟨gx, 0, none⟩), .pointer (some ⟨gx, 0, none⟩), .pointer (some ⟨gy, 0, none⟩)] w fun e w' => e = .returned (.pointer (some ⟨gx, 0, none⟩)) ∧ IntAt w' gx (m * n) (2 * L) ∧ w.grownBy w' (some gx) := by
  have hx' := hx
  obtain ⟨xneg, xs, sv, h1, ⟨ax, cx, rfl, hcx, hCx⟩, h3⟩ := hx
  exact mul_new gx xneg ax xs.length cx gx gy m n L w h1 hx' hy hL
theorem negate_any (n : Int) (a0 : -9223372036854775808 ≤ n) (a1 : n ≤ 9223372036854775807) (L : Nat) (hL : 2 ≤ L) (w : World) :
    Calls Tryz.prog 106 #[.int .i64 n] w (Gives (fun w v => GoN w (-n) L v) w) := by
  by_cases hn : n = -9223372036854775808
  · have f1 : (n == -9223372036854775808) = true := beq_iff_eq.2 hn
    have HN := Lib.hid (fun w => newInt_any n a0 a1 w)
    have HL := Lib.hid hL
    clear hn a0 a1 hL
    go_enter Tryz.func106, Tryz.ntmps106
    go_wp2_with fail
    obtain ⟨w0, hw0⟩ : ∃ w0, w0 = w.alloc (.cells #[.bool false, .slice none 0 0] 97) := ⟨_, rfl⟩
    have hx : w0.heap[w.heap.size]? = some (.cells #[.bool false, .slice none 0 0] 97) := by rw [hw0]; exact heap_alloc_new w _
    have hb : Below w.heap.size w w0 := by rw [hw0]; exact (Below.refl _ w).alloc (Nat.le_refl _) _
    have H0 := Lib.hid (And.intro hx hb)
    rw [← hw0]
    clear hw0 hx hb
    refine (HN.out w0).mono ?_
    rintro e w1 ⟨g, rfl, hg, hi, hb⟩
    have H1 : Hid (w1.heap[w.heap.size]? = some (.cells #[.bool false, .slice none 0 0] 97) ∧ Below w.heap.size w w1 ∧ IntAt w1 g n 2) := Lib.hid ⟨by rw [hb.block _ (IntW.lt_of_heap H0.out.1)]; exact H0.out.1, H0.out.2.trans (hb.mono H0.out.2.size), hi⟩
    clear hg hi hb
    go_wp2_with fail
    refine (neg_new _ _ _ _ _ _ _ _ _ H1.out.1 H1.out.2.2).mono ?_
    rintro e w2 ⟨rfl, hi, hg⟩
    have H2 := Lib.hid (And.intro hi hg)
    clear hi hg
    go_wp2_with fail
    go_ret
    exact ⟨_, rfl, .inr ⟨_, rfl, H2.out.1.mono HL.out⟩, H1.out.2.1.grown H2.out.2 H1.out.2.1.size (fun k hk => by cases hk; exact Nat.le_refl _)⟩
  · have f1 : (n == -9223372036854775808) = false := beq_eq_false_iff_ne.2 hn
    have HW : Hid (wrap64 (-n) = -n) := Lib.hid (by unfold wrap64; omega)
    have HR := Lib.hid (show -9223372036854775808 ≤ -n ∧ -n ≤ 9223372036854775807 by omega)
    clear hn a0 a1 hL
    go_enter Tryz.func106, Tryz.ntmps106
    go_wp2_with fail
    go_ret
    exact ⟨_, rfl, .inl ⟨congrArg (fun x => Value.iface 3 (.int .i64 x)) HW.out, HR.out⟩, Below.refl _ _⟩
theorem wrap_quo (m n : Int) (b0 : -9223372036854775808 ≤ n) (b1 : n ≤ 9223372036854775807) (h0 : n ≠ 0) :
    (wrap64 (m * n)).tdiv n = m ↔ (-9223372036854775808 ≤ m * n ∧ m * n ≤ 9223372036854775807) := by
  constructor
  · intro h
    have h2 := Int.tmod_add_mul_tdiv (wrap64 (m * n)) n
    rw [h, Int.mul_comm n m] at h2
    have h3 : ((wrap64 (m * n)).tmod n).natAbs < n.natAbs := by
      rw [Int.natAbs_tmod]; exact Nat.mod_lt _ (by omega)
    obtain ⟨p, hp⟩ : ∃ p, p = m * n := ⟨_, rfl⟩
    rw [← hp] at h2 h3 ⊢
    have h5 : ∃ q : Int, wrap64 p = p - q * 18446744073709551616 := ⟨(p + 9223372036854775808) / 18446744073709551616, by unfold wrap64; omega⟩
    have h4 : -9223372036854775808 ≤ wrap64 p ∧ wrap64 p ≤ 9223372036854775807 := by unfold wrap64; omega
    obtain ⟨q, hq⟩ := h5
    omega
  · intro h
    have hw : wrap64 (m * n) = m * n := by unfold wrap64; omega
    rw [hw]
    exact Int.mul_tdiv_cancel m h0
theorem wrap_quo2 (m n : Int) (b0 : -9223372036854775808 ≤ n) (b1 : n ≤ 9223372036854775807) (h0 : n ≠ 0) (h1 : n ≠ -1) :
    wrap64 ((wrap64 (m * n)).tdiv n) = m ↔ (-9223372036854775808 ≤ m * n ∧ m * n ≤ 9223372036854775807) := by
  rw [← wrap_quo m n b0 b1 h0]
  have h4 : -9223372036854775808 ≤ wrap64 (m * n) ∧ wrap64 (m * n) ≤ 9223372036854775807 := by unfold wrap64; omega
  obtain ⟨v, hv⟩ : ∃ v, v = wrap64 (m * n) := ⟨_, rfl⟩
  rw [← hv] at h4 ⊢
  have h5 : (v.tdiv n).natAbs = v.natAbs / n.natAbs := Int.natAbs_tdiv v n
  have h6 : -9223372036854775808 ≤ v.tdiv n ∧ v.tdiv n ≤ 9223372036854775807 := by
    by_cases h7 : n.natAbs = 1
    · have h8 : n = 1 := by omega
      rw [h8, Int.tdiv_one]; exact h4
    · have h9 : v.natAbs / n.natAbs ≤ v.natAbs / 2 := Nat.div_le_div_left (by omega) (by omega)
      omega
  have h7 : wrap64 (v.tdiv n) = v.tdiv n := by unfold wrap64; omega
  rw [h7]
theorem mul_ii (m n : Int) (a0 : -9223372036854775808 ≤ m) (a1 : m ≤ 9223372036854775807) (b0 : -9223372036854775808 ≤ n) (b1 : n ≤ 9223372036854775807) (L : Nat) (hL : 4 ≤ L) (w : World) :
    Calls Tryz.prog 105 #[.int .i64 m, .int .i64 n] w (Gives (fun w v => GoN w (m * n) L v) w) := by
  by_cases h1 : n = -1
  · have HC := Lib.hid (negate_any m a0 a1 L (by omega) w)
    have f1 : (n == -1) = true := beq_iff_eq.2 h1
    have HE := Lib.hid (show -m = m * n by rw [h1]; omega)
    clear a0 a1 b0 b1 hL h1
    go_enter Tryz.func105, Tryz.ntmps105
    go_wp2_with fail
    refine HC.out.mono ?_
    rintro e w1 ⟨v, rfl, hv, hb⟩
    have HB := Lib.hid (And.intro hv hb); clear hv hb
    go_wp2_with fail
    go_ret
    exact ⟨_, rfl, by have := HB.out.1; rw [HE.out] at this; exact this, HB.out.2⟩
  by_cases h0 : n = 0
  · have f1 : (n == -1) = false := beq_eq_false_iff_ne.2 h1
    have f2 : (n == 0) = true := beq_iff_eq.2 h0
    have HW : Hid (wrap64 (m * n) = m * n) := Lib.hid (by rw [h0, Int.mul_zero]; unfold wrap64; omega)
    have HR := Lib.hid (show -9223372036854775808 ≤ m * n ∧ m * n ≤ 9223372036854775807 by rw [h0]; omega)
    clear a0 a1 b0 b1 hL h1 h0
    go_enter Tryz.func105, Tryz.ntmps105
    go_wp2_with fail
    go_ret
    exact ⟨_, rfl, .inl ⟨congrArg (fun x => Value.iface 3 (.int .i64 x)) HW.out, HR.out⟩, Below.refl _ _⟩
  have hq := wrap_quo2 m n b0 b1 h0 h1
  have f1 : (n == -1) = false := beq_eq_false_iff_ne.2 h1
  have f2 : (n == 0) = false := beq_eq_false_iff_ne.2 h0
  by_cases hr : -9223372036854775808 ≤ m * n ∧ m * n ≤ 9223372036854775807
  · have HW : Hid (wrap64 (m * n) = m * n) := Lib.hid (by unfold wrap64; omega)
    have HR := Lib.hid hr
    have f3 : (wrap64 ((wrap64 (m * n)).tdiv n) == m) = true := beq_iff_eq.2 (hq.2 hr)
    clear a0 a1 b0 b1 hL h1 hq hr
    go_enter Tryz.func105, Tryz.ntmps105
    go_wp2_with fail
    go_ret
    exact ⟨_, rfl, .inl ⟨congrArg (fun x => Value.iface 3 (.int .i64 x)) HW.out, HR.out⟩, Below.refl _ _⟩
  · have f3 : (wrap64 ((wrap64 (m * n)).tdiv n) == m) = false := beq_eq_false_iff_ne.2 (fun e => hr (hq.1 e))
    have HN := Lib.hid (fun w => newInt_any m a0 a1 w)
    have HM := Lib.hid (fun w => newInt_any n b0 b1 w)
    have HL := Lib.hid hL
    clear a0 a1 b0 b1 hL h1 hq hr
    go_enter Tryz.func105, Tryz.ntmps105
    go_wp2_with fail
    refine (HN.out _).mono ?_
    rintro e w1 ⟨gx, rfl, hg1, hi1, hb1⟩
    have H1 := Lib.hid (And.intro hg1 (And.intro hi1 hb1))
    clear hg1 hi1 hb1
    go_wp2_with fail
    refine (HM.out _).mono ?_
    rintro e w2 ⟨gy, rfl, hg2, hi2, hb2⟩
    have H2 := Lib.hid (And.intro (H1.out.2.1.below hb2) (And.intro hi2 (H1.out.2.2.trans (hb2.mono H1.out.2.2.size))))
    clear hg2 hi2 hb2
    go_wp2_with fail
    refine (mul_x gx gy m n 2 w2 H2.out.1 H2.out.2.1 (by omega)).mono ?_
    rintro e w3 ⟨rfl, hi, hg⟩
    have H3 := Lib.hid (And.intro hi hg)
    clear hi hg
    go_wp2_with fail
    go_ret
    exact ⟨_, rfl, .inr ⟨_, rfl, H3.out.1.mono HL.out⟩, H2.out.2.2.grown H3.out.2 H2.out.2.2.size (fun k hk => by cases hk; exact H1.out.1)⟩
theorem mul_bb (m n : Int) (L : Nat) (hL : L ≤ 100000) (gx gy : Nat) (w : World) (hx : IntAt w gx m L) (hy : IntAt w gy n L) :
    Calls Tryz.prog 109 #[.pointer (some ⟨gx, 0, none⟩), .pointer (some ⟨gy, 0, none⟩)] w (Gives (fun w v => GoN w (m * n) (2 * L) v) w) := by
  have HC := Lib.hid (fun (gz : Nat) (w : World) hz hx hy => mul_new gz false none 0 0 gx gy m n L w hz hx hy hL)
  have HX := Lib.hid hx
  have HY := Lib.hid hy
  clear hx hy hL
  go_enter Tryz.func109, Tryz.ntmps109
  go_wp2_with fail
  obtain ⟨w0, hw0⟩ : ∃ w0, w0 = w.alloc (.cells #[.bool false, .slice none 0 0] 97) := ⟨_, rfl⟩
  have hx : w0.heap[w.heap.size]? = some (.cells #[.bool false, .slice none 0 0] 97) := by rw [hw0]; exact heap_alloc_new w _
  have hb : Below w.heap.size w w0 := by rw [hw0]; exact (Below.refl _ w).alloc (Nat.le_refl _) _
  have HB0 := Lib.hid hb
  have HH := Lib.hid hx
  rw [← hw0]
  clear hw0 hx hb
  refine (HC.out _ w0 HH.out (HX.out.below HB0.out) (HY.out.below HB0.out)).mono ?_
  rintro e w1 ⟨rfl, hi, hg⟩
  have HI := Lib.hid hi
  have HG := Lib.hid hg
  clear hi hg
  go_wp2_with fail
  go_ret
  exact ⟨_, rfl, .inr ⟨_, rfl, HI.out⟩, HB0.out.grown HG.out HB0.out.size (fun k hk => by cases hk; exact Nat.le_refl _)⟩
end Go.Proofs.YtaiidipcmnejoaaGreatDoor.OpMulW

namespace Go.Proofs.YtaiidipcmnejoaaGreatDoor.OpMulW
open Go.RowKit Go.Lib Go.Proofs.YtaiidipcmnejoaaGreatDoorW.PrintWords Go.Proofs.YtaiidipcmnejoaaGreatDoorW.PrintLast Go.Proofs.YtaiidipcmnejoaaGreatDoorW.PrintMore
open Go.Proofs.YtaiidipcmnejoaaGreatDoor.Nt Go.Proofs.YtaiidipcmnejoaaGreatDoor.Dec Go.Proofs.YtaiidipcmnejoaaGreatDoor.IntW Go.Proofs.YtaiidipcmnejoaaGreatDoor.NumW Go.Proofs.YtaiidipcmnejoaaGreatDoor.NumV
open Go.Proofs.YtaiidipcmnejoaaGreatDoor.Spec (S S_list S_toList S_size S_of S_ext)
theorem opMul (m n : Int) (L : Nat) (h2 : 2 ≤ L) (hL : L ≤ 100000) (va vb : Value) (w : World) (ha : GoN w m L va) (hb : GoN w n L vb) :
    Calls Tryz.prog 42 #[va, vb] w (Gives (fun w v => GoN w (m * n) (2 * L) v) w) := by
  have HC := Lib.hid (OpMulW.binop_any 108 110 111 112 113 (fun w v => GoN w (m * n) (2 * L) v) m n L (fun a0 a1 b0 b1 w => mul_ii m n a0 a1 b0 b1 (2 * L) (by omega) w) (fun gx gy w hx hy => mul_bb m n L hL gx gy w hx hy) va vb w ha hb h2)
  clear h2 hL ha hb
  have H61 : Hid (Calls Tryz.prog 61 #[.nilIface, va, vb] w (Gives (fun w v => GoN w (m * n) (2 * L) v) w)) := by
    refine Lib.hid ?_
    go_enter Tryz.func61, Tryz.ntmps61
    go_wp2_with fail
    refine HC.out.mono ?_
    rintro e w1 ⟨v, rfl, hv⟩
    have HB := Lib.hid hv; clear hv
    go_wp2_with fail
    go_ret
    exact ⟨_, rfl, HB.out⟩
  clear HC
  go_enter Tryz.func42, Tryz.ntmps42
  go_wp2_with fail
  refine H61.out.mono ?_
  rintro e w1 ⟨v, rfl, hv⟩
  have HB := Lib.hid hv; clear hv
  go_wp2_with fail
  go_ret
  exact ⟨_, rfl, HB.out⟩
theorem bigMul (m n : Int) (a b : ByteArray) (ha : a = S (itoa m)) (hb : b = S (itoa n)) (hm : (itoa m).length ≤ 40000) (hn : (itoa n).length ≤ 40000) (w : World) (hE : Env w) :
    Calls Tryz.prog 21 #[.string a, .string b] w fun e w' => e = .returned (.agg #[.string (S (itoa (m * n))), .int .i64 0]) ∧ Below w.heap.size w w' := by
  obtain ⟨L, h2, hL, hml, hnl⟩ : ∃ L, 2 ≤ L ∧ L ≤ 40000 ∧ (itoa m).length ≤ L ∧ (itoa n).length ≤ L := ⟨40000, by omega, by omega, by omega, by omega⟩
  have HA := Lib.hid (fun w (hE : Env w) => (toGo_any m a ha (by omega) w hE).mono (fun e w' ⟨v, h1, h2, h3⟩ => (⟨v, h1, h2.mono hml, h3⟩ : ∃ v, e = Ending.returned (.tuple #[v, .bool true]) ∧ GoN w' m L v ∧ Below w.heap.size w w')))
  have HB := Lib.hid (fun w (hE : Env w) => (toGo_any n b hb (by omega) w hE).mono (fun e w' ⟨v, h1, h2, h3⟩ => (⟨v, h1, h2.mono hnl, h3⟩ : ∃ v, e = Ending.returned (.tuple #[v, .bool true]) ∧ GoN w' n L v ∧ Below w.heap.size w w')))
  have HO := Lib.hid (fun va vb w ha hb => opMul m n L h2 (by omega) va vb w ha hb)
  have HF := Lib.hid (fun v w (h : GoN w (m * n) (2 * L) v) hE => fromGo_any v (m * n) (2 * L) w h (by omega) hE)
  have HE := Lib.hid hE
  clear h2 hL hml hnl ha hb hm hn hE
  go_enter Tryz.func21, Tryz.ntmps21
  go_wp2_with fail
  obtain ⟨w0, hw0⟩ : ∃ w0, w0 = w.alloc (.cells #[.string ⟨#[]⟩, .int .i64 0] 25) := ⟨_, rfl⟩
  have hx : w0.heap[w.heap.size]? = some (.cells #[.string ⟨#[]⟩, .int .i64 0] 25) := by rw [hw0]; exact heap_alloc_new w _
  have hb : Below w.heap.size w w0 := by rw [hw0]; exact (Below.refl _ w).alloc (Nat.le_refl _) _
  have H0 : Hid (w0.heap[w.heap.size]? = some (.cells #[.string ⟨#[]⟩, .int .i64 0] 25) ∧ Below w.heap.size w w0 ∧ Env w0) := Lib.hid ⟨hx, hb, HE.out.below hb⟩
  rw [← hw0]
  clear hw0 hx hb
  refine (HA.out w0 H0.out.2.2).mono ?_
  rintro e w1 ⟨va, rfl, hv, hb⟩
  have H1 : Hid (w1.heap[w.heap.size]? = some (.cells #[.string ⟨#[]⟩, .int .i64 0] 25) ∧ Below w.heap.size w w1 ∧ Env w1 ∧ GoN w1 m L va) := Lib.hid ⟨by rw [hb.block _ (IntW.lt_of_heap H0.out.1)]; exact H0.out.1, H0.out.2.1.trans (hb.mono H0.out.2.1.size), H0.out.2.2.below hb, hv⟩
  clear hv hb
  go_wp2_with fail
  refine (HB.out w1 H1.out.2.2.1).mono ?_
  rintro e w2 ⟨vb, rfl, hv, hb⟩
  have H2 : Hid (w2.heap[w.heap.size]? = some (.cells #[.string ⟨#[]⟩, .int .i64 0] 25) ∧ Below w.heap.size w w2 ∧ Env w2 ∧ GoN w2 m L va ∧ GoN w2 n L vb) := Lib.hid ⟨by rw [hb.block _ (IntW.lt_of_heap H1.out.1)]; exact H1.out.1, H1.out.2.1.trans (hb.mono H1.out.2.1.size), H1.out.2.2.1.below hb, H1.out.2.2.2.below hb, hv⟩
  clear hv hb
  go_wp2_with fail
  refine (HO.out va vb w2 H2.out.2.2.2.1 H2.out.2.2.2.2).mono ?_
  rintro e w3 ⟨vc, rfl, hv, hb⟩
  have H3 : Hid (w3.heap[w.heap.size]? = some (.cells #[.string ⟨#[]⟩, .int .i64 0] 25) ∧ Below w.heap.size w w3 ∧ Env w3 ∧ GoN w3 (m * n) (2 * L) vc) := Lib.hid ⟨by rw [hb.block _ (IntW.lt_of_heap H2.out.1)]; exact H2.out.1, H2.out.2.1.trans (hb.mono H2.out.2.1.size), H2.out.2.2.1.below hb, hv⟩
  clear hv hb
  go_wp2_with fail
  refine (HF.out vc w3 H3.out.2.2.2 H3.out.2.2.1).mono ?_
  rintro e w4 ⟨rfl, hb⟩
  have hx : w4.heap[w.heap.size]? = some (.cells #[.string ⟨#[]⟩, .int .i64 0] 25) := by rw [hb.block _ (IntW.lt_of_heap H3.out.1)]; exact H3.out.1
  have H4 := Lib.hid (H3.out.2.1.trans (hb.mono H3.out.2.1.size)); clear hb
  have y := two_cells hx
  go_wp2_with fail
  have hz : ((w4.setCell ⟨w.heap.size, 0, none⟩ (.string (S (itoa (m * n))))).setCell ⟨w.heap.size, 1, none⟩ (.int .i64 0)).heap[w.heap.size]? = some (.cells #[.string (S (itoa (m * n))), .int .i64 0] 25 (0, 0)) := by
    rw [heap_set (heap_set hx 0 _) 1 _]; rfl
  have hg := grown_set (grown_set (⟨rfl, rfl, rfl, Nat.le_refl _, fun _ _ _ => rfl⟩ : w4.grownBy w4 (some w.heap.size)) 0 (.string (S (itoa (m * n))))) 1 (.int .i64 0)
  obtain ⟨W2, hW⟩ : ∃ W2, W2 = ((w4.setCell ⟨w.heap.size, 0, none⟩ (.string (S (itoa (m * n))))).setCell ⟨w.heap.size, 1, none⟩ (.int .i64 0)) := ⟨_, rfl⟩
  rw [← hW] at hz hg ⊢
  obtain ⟨q0, q1, q2, q3⟩ := two_cells hz
  refine bodyPost_ret (v := .agg #[.string (S (itoa (m * n))), .int .i64 0]) (by simp [results, Tryz.results21, go_sem, q0, q1]) rfl ?_
  exact ⟨rfl, H4.out.grown hg H4.out.size (fun k hk => by cases hk; exact Nat.le_refl _)⟩
end Go.Proofs.YtaiidipcmnejoaaGreatDoor.OpMulW
