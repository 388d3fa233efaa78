import Derived.Test.YtaiidipcmnejoaaGreatDoorBinMulAll
namespace Go.Proofs.YtaiidipcmnejoaaGreatDoor.NumV
open Go.RowKit Go.Lib Go.Proofs.YtaiidipcmnejoaaGreatDoorW.PrintWords Go.Proofs.YtaiidipcmnejoaaGreatDoorW.PrintLast Go.Proofs.YtaiidipcmnejoaaGreatDoorW.PrintMore
open Go.Proofs.YtaiidipcmnejoaaGreatDoor.Nt Go.Proofs.YtaiidipcmnejoaaGreatDoor.Dec Go.Proofs.YtaiidipcmnejoaaGreatDoor.IntW Go.Proofs.YtaiidipcmnejoaaGreatDoor.NumW
open Go.Proofs.YtaiidipcmnejoaaGreatDoor.Spec (S S_list S_toList S_size S_of S_ext)
theorem add_ii (m n : Int) (a0 : -9223372036854775808 ≤ m) (a1 : m ≤ 9223372036854775807) (b0 : -9223372036854775808 ≤ n) (b1 : n ≤ 9223372036854775807) (L : Nat) (hL : 3 ≤ L) (w : World) :
    Calls Tryz.prog 83 #[.int .i64 m, .int .i64 n] w (Gives (fun w v => GoN w (m + n) L v) w) := by
  by_cases hr : -9223372036854775808 ≤ m + n ∧ m + n ≤ 9223372036854775807
  · have hw : wrap64 (m + n) = m + n := by unfold wrap64; omega
    have hc : (decide (m ≤ wrap64 (m + n)) == decide (0 ≤ n)) = true := by
      rw [hw, beq_iff_eq, decide_eq_decide]; omega
    have HR := Lib.hid hr
    have HW := Lib.hid hw
    clear hr hw a0 a1 b0 b1 hL
    go_enter Tryz.func83, Tryz.ntmps83
    go_wp2_with fail
    go_ret
    exact ⟨_, rfl, .inl ⟨congrArg (fun x => Value.iface 3 (.int .i64 x)) HW.out, HR.out⟩, Below.refl _ _⟩
  · have hc : (decide (m ≤ wrap64 (m + n)) == decide (0 ≤ n)) = false := by
      have hw : (9223372036854775807 < m + n ∧ wrap64 (m + n) = m + n - 18446744073709551616) ∨ (m + n < -9223372036854775808 ∧ wrap64 (m + n) = m + n + 18446744073709551616) := by unfold wrap64; omega
      rw [beq_eq_false_iff_ne, ne_eq, decide_eq_decide]
      rcases hw with ⟨h1, hw⟩ | ⟨h1, hw⟩ <;> rw [hw] <;> omega
    have HN := Lib.hid (fun w => newInt_any m a0 a1 w)
    have HM := Lib.hid (fun w => newInt_any n b0 b1 w)
    have HL := Lib.hid hL
    clear a0 a1 b0 b1 hL hr
    go_enter Tryz.func83, Tryz.ntmps83
    go_wp2_with fail
    refine (HN.out _).mono ?_
    rintro e w1 ⟨gx, rfl, hg1, hi1, hb1⟩
    have H1 := Lib.hid (And.intro hg1 (And.intro hi1 hb1))
    clear hg1 hi1 hb1
    go_wp2_with fail
    refine (HM.out _).mono ?_
    rintro e w2 ⟨gy, rfl, hg2, hi2, hb2⟩
    have H2 := Lib.hid (And.intro (H1.out.2.1.below hb2) (And.intro hi2 (H1.out.2.2.trans (hb2.mono H1.out.2.2.size))))
    clear hg2 hi2 hb2
    go_wp2_with fail
    refine (add_x gx gy m n 2 w2 H2.out.1 H2.out.2.1 (by omega)).mono ?_
    rintro e w3 ⟨rfl, hi, hg⟩
    have H3 := Lib.hid (And.intro hi hg)
    clear hi hg
    go_wp2_with fail
    go_ret
    exact ⟨_, rfl, .inr ⟨_, rfl, H3.out.1.mono HL.out⟩, H2.out.2.2.grown H3.out.2 H2.out.2.2.size (fun k hk => by cases hk; exact H1.out.1)⟩
theorem add_bb (m n : Int) (L : Nat) (hL : L ≤ 100000) (gx gy : Nat) (w : World) (hx : IntAt w gx m L) (hy : IntAt w gy n L) :
    Calls Tryz.prog 87 #[.pointer (some ⟨gx, 0, none⟩), .pointer (some ⟨gy, 0, none⟩)] w (Gives (fun w v => GoN w (m + n) (L + 1) v) w) := by
  have HC := Lib.hid (fun (gz : Nat) (w : World) hz hne hx hy => add_new gz false none 0 0 gx gy m n L w hz hne hx hy hL)
  have HX := Lib.hid hx
  have HY := Lib.hid hy
  clear hx hy hL
  go_enter Tryz.func87, Tryz.ntmps87
  go_wp2_with fail
  obtain ⟨w0, hw0⟩ : ∃ w0, w0 = w.alloc (.cells #[.bool false, .slice none 0 0] 97) := ⟨_, rfl⟩
  have hx : w0.heap[w.heap.size]? = some (.cells #[.bool false, .slice none 0 0] 97) := by rw [hw0]; exact heap_alloc_new w _
  have hb : Below w.heap.size w w0 := by rw [hw0]; exact (Below.refl _ w).alloc (Nat.le_refl _) _
  have HB0 := Lib.hid hb
  have HH := Lib.hid hx
  rw [← hw0]
  clear hw0 hx hb
  refine (HC.out _ w0 HH.out (by have := HX.out.lt; omega) (HX.out.below HB0.out) (HY.out.below HB0.out)).mono ?_
  rintro e w1 ⟨rfl, hi, hg⟩
  have HI := Lib.hid hi
  have HG := Lib.hid hg
  clear hi hg
  go_wp2_with fail
  go_ret
  exact ⟨_, rfl, .inr ⟨_, rfl, HI.out⟩, HB0.out.grown HG.out HB0.out.size (fun k hk => by cases hk; exact Nat.le_refl _)⟩
theorem opAdd (m n : Int) (L : Nat) (h2 : 2 ≤ L) (hL : L ≤ 100000) (va vb : Value) (w : World) (ha : GoN w m L va) (hb : GoN w n L vb) :
    Calls Tryz.prog 34 #[va, vb] w (Gives (fun w v => GoN w (m + n) (L + 1) v) w) := by
  have HC := Lib.hid (binop_any 86 88 89 90 92 (fun w v => GoN w (m + n) (L + 1) v) m n L (fun a0 a1 b0 b1 w => add_ii m n a0 a1 b0 b1 (L + 1) (by omega) w) (fun gx gy w hx hy => add_bb m n L hL gx gy w hx hy) va vb w ha hb h2)
  clear h2 hL ha hb
  have H58 : Hid (Calls Tryz.prog 58 #[.nilIface, va, vb] w (Gives (fun w v => GoN w (m + n) (L + 1) v) w)) := by
    refine Lib.hid ?_
    go_enter Tryz.func58, Tryz.ntmps58
    go_wp2_with fail
    refine HC.out.mono ?_
    rintro e w1 ⟨v, rfl, hv⟩
    have HB := Lib.hid hv; clear hv
    go_wp2_with fail
    go_ret
    exact ⟨_, rfl, HB.out⟩
  clear HC
  go_enter Tryz.func34, Tryz.ntmps34
  go_wp2_with fail
  refine H58.out.mono ?_
  rintro e w1 ⟨v, rfl, hv⟩
  have HB := Lib.hid hv; clear hv
  go_wp2_with fail
  go_ret
  exact ⟨_, rfl, HB.out⟩
theorem bigAdd (m n : Int) (a b : ByteArray) (ha : a = S (itoa m)) (hb : b = S (itoa n)) (hm : (itoa m).length ≤ 80000) (hn : (itoa n).length ≤ 80000) (w : World) (hE : Env w) :
    Calls Tryz.prog 16 #[.string a, .string b] w fun e w' => e = .returned (.agg #[.string (S (itoa (m + n))), .int .i64 0]) ∧ Below w.heap.size w w' := by
  obtain ⟨L, h2, hL, hml, hnl⟩ : ∃ L, 2 ≤ L ∧ L ≤ 80000 ∧ (itoa m).length ≤ L ∧ (itoa n).length ≤ L := ⟨80000, by omega, by omega, by omega, by omega⟩
  have HA := Lib.hid (fun w (hE : Env w) => (toGo_any m a ha (by omega) w hE).mono (fun e w' ⟨v, h1, h2, h3⟩ => (⟨v, h1, h2.mono hml, h3⟩ : ∃ v, e = Ending.returned (.tuple #[v, .bool true]) ∧ GoN w' m L v ∧ Below w.heap.size w w')))
  have HB := Lib.hid (fun w (hE : Env w) => (toGo_any n b hb (by omega) w hE).mono (fun e w' ⟨v, h1, h2, h3⟩ => (⟨v, h1, h2.mono hnl, h3⟩ : ∃ v, e = Ending.returned (.tuple #[v, .bool true]) ∧ GoN w' n L v ∧ Below w.heap.size w w')))
  have HO := Lib.hid (fun va vb w ha hb => opAdd m n L h2 (by omega) va vb w ha hb)
  have HF := Lib.hid (fun v w (h : GoN w (m + n) (L + 1) v) hE => fromGo_any v (m + n) (L + 1) w h (by omega) hE)
  have HE := Lib.hid hE
  clear h2 hL hml hnl ha hb hm hn hE
  go_enter Tryz.func16, Tryz.ntmps16
  go_wp2_with fail
  obtain ⟨w0, hw0⟩ : ∃ w0, w0 = w.alloc (.cells #[.string ⟨#[]⟩, .int .i64 0] 25) := ⟨_, rfl⟩
  have hx : w0.heap[w.heap.size]? = some (.cells #[.string ⟨#[]⟩, .int .i64 0] 25) := by rw [hw0]; exact heap_alloc_new w _
  have hb : Below w.heap.size w w0 := by rw [hw0]; exact (Below.refl _ w).alloc (Nat.le_refl _) _
  have H0 : Hid (w0.heap[w.heap.size]? = some (.cells #[.string ⟨#[]⟩, .int .i64 0] 25) ∧ Below w.heap.size w w0 ∧ Env w0) := Lib.hid ⟨hx, hb, HE.out.below hb⟩
  rw [← hw0]
  clear hw0 hx hb
  refine (HA.out w0 H0.out.2.2).mono ?_
  rintro e w1 ⟨va, rfl, hv, hb⟩
  have H1 : Hid (w1.heap[w.heap.size]? = some (.cells #[.string ⟨#[]⟩, .int .i64 0] 25) ∧ Below w.heap.size w w1 ∧ Env w1 ∧ GoN w1 m L va) := Lib.hid ⟨by rw [hb.block _ (IntW.lt_of_heap H0.out.1)]; exact H0.out.1, H0.out.2.1.trans (hb.mono H0.out.2.1.size), H0.out.2.2.below hb, hv⟩
  clear hv hb
  go_wp2_with fail
  refine (HB.out w1 H1.out.2.2.1).mono ?_
  rintro e w2 ⟨vb, rfl, hv, hb⟩
  have H2 : Hid (w2.heap[w.heap.size]? = some (.cells #[.string ⟨#[]⟩, .int .i64 0] 25) ∧ Below w.heap.size w w2 ∧ Env w2 ∧ GoN w2 m L va ∧ GoN w2 n L vb) := Lib.hid ⟨by rw [hb.block _ (IntW.lt_of_heap H1.out.1)]; exact H1.out.1, H1.out.2.1.trans (hb.mono H1.out.2.1.size), H1.out.2.2.1.below hb, H1.out.2.2.2.below hb, hv⟩
  clear hv hb
  go_wp2_with fail
  refine (HO.out va vb w2 H2.out.2.2.2.1 H2.out.2.2.2.2).mono ?_
  rintro e w3 ⟨vc, rfl, hv, hb⟩
  have H3 : Hid (w3.heap[w.heap.size]? = some (.cells #[.string ⟨#[]⟩, .int .i64 0] 25) ∧ Below w.heap.size w w3 ∧ Env w3 ∧ GoN w3 (m + n) (L + 1) vc) := Lib.hid ⟨by rw [hb.block _ (IntW.lt_of_heap H2.out.1)]; exact H2.out.1, H2.out.2.1.trans (hb.mono H2.out.2.1.size), H2.out.2.2.1.below hb, hv⟩
  clear hv hb
  go_wp2_with fail
  refine (HF.out vc w3 H3.out.2.2.2 H3.out.2.2.1).mono ?_
  rintro e w4 ⟨rfl, hb⟩
  have hx : w4.heap[w.heap.size]? = some (.cells #[.string ⟨#[]⟩, .int .i64 0] 25) := by rw [hb.block _ (IntW.lt_of_heap H3.out.1)]; exact H3.out.1
  have H4 := Lib.hid (H3.out.2.1.trans (hb.mono H3.out.2.1.size)); clear hb
  have y := two_cells hx
  go_wp2_with fail
  have hz : ((w4.setCell ⟨w.heap.size, 0, none⟩ (.string (S (itoa (m + n))))).setCell ⟨w.heap.size, 1, none⟩ (.int .i64 0)).heap[w.heap.size]? = some (.cells #[.string (S (itoa (m + n))), .int .i64 0] 25 (0, 0)) := by
    rw [heap_set (heap_set hx 0 _) 1 _]; rfl
  have hg := grown_set (grown_set (⟨rfl, rfl, rfl, Nat.le_refl _, fun _ _ _ => rfl⟩ : w4.grownBy w4 (some w.heap.size)) 0 (.string (S (itoa (m + n))))) 1 (.int .i64 0)
  obtain ⟨W2, hW⟩ : ∃ W2, W2 = ((w4.setCell ⟨w.heap.size, 0, none⟩ (.string (S (itoa (m + n))))).setCell ⟨w.heap.size, 1, none⟩ (.int .i64 0)) := ⟨_, rfl⟩
  rw [← hW] at hz hg ⊢
  obtain ⟨q0, q1, q2, q3⟩ := two_cells hz
  refine bodyPost_ret (v := .agg #[.string (S (itoa (m + n))), .int .i64 0]) (by simp [results, Tryz.results16, go_sem, q0, q1]) rfl ?_
  exact ⟨rfl, H4.out.grown hg H4.out.size (fun k hk => by cases hk; exact Nat.le_refl _)⟩
end Go.Proofs.YtaiidipcmnejoaaGreatDoor.NumV
