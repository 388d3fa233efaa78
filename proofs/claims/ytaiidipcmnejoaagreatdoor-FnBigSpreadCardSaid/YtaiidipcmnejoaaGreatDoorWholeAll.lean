import Derived.Test.YtaiidipcmnejoaaGreatDoorNumAll
import Derived.WalkLawsBesides
import Derived.Test.YtaiidipcmnejoaaGreatDoorPexactx1

namespace Go.Proofs.YtaiidipcmnejoaaGreatDoor.WholeW
open Go.RowKit Go.Lib Go.Proofs.YtaiidipcmnejoaaGreatDoorW.PrintWords Go.Proofs.YtaiidipcmnejoaaGreatDoorW.PrintLast Go.Proofs.YtaiidipcmnejoaaGreatDoorW.PrintMore
open Go.Proofs.YtaiidipcmnejoaaGreatDoor.Nt Go.Proofs.YtaiidipcmnejoaaGreatDoor.Dec Go.Proofs.YtaiidipcmnejoaaGreatDoor.IntW Go.Proofs.YtaiidipcmnejoaaGreatDoor.NumW Go.Proofs.YtaiidipcmnejoaaGreatDoor.NumV
open Go.Proofs.YtaiidipcmnejoaaGreatDoor.Spec (S S_list S_toList S_size S_of S_ext)

/-- spec.sign. -/
theorem sign_any (x : Int) (w : World) : Calls Tryz.prog 59 #[.int .i64 x] w fun e w' => ∃ r, e = .returned (.int .i64 r) ∧ Below w.heap.size w w' ∧ (-1 ≤ r ∧ r ≤ 1 ∧ (r < 0 ↔ x < 0) ∧ (0 < r ↔ 0 < x)) := by
  by_cases h : x < 0
  · have f1 : decide (x < 0) = true := decide_eq_true h
    have H := Lib.hid h; clear h
    go_enter Tryz.func59, Tryz.ntmps59
    go_wp2_with fail
    go_ret
    exact ⟨_, rfl, Below.refl _ _, by have := H.out; omega⟩
  · by_cases h2 : 0 < x
    · have f1 : decide (x < 0) = false := decide_eq_false h
      have f2 : decide (0 < x) = true := decide_eq_true h2
      have H := Lib.hid h2; clear h h2
      go_enter Tryz.func59, Tryz.ntmps59
      go_wp2_with fail
      go_ret
      exact ⟨_, rfl, Below.refl _ _, by have := H.out; omega⟩
    · have f1 : decide (x < 0) = false := decide_eq_false h
      have f2 : decide (0 < x) = false := decide_eq_false h2
      have H := Lib.hid (And.intro h h2); clear h h2
      go_enter Tryz.func59, Tryz.ntmps59
      go_wp2_with fail
      go_ret
      exact ⟨_, rfl, Below.refl _ _, by have := H.out; omega⟩
theorem more_any (a b : Nat) (ha : (decDigits a).length ≤ 100000) (hb : (decDigits b).length ≤ 100000) (s t : ByteArray) (hs : s = S (decDigits a)) (ht : t = S (decDigits b)) (w : World) :
    Calls Tryz.prog 39 #[.string s, .string t] w fun e w' => ∃ r, e = .returned (.int .i64 r) ∧ Below w.heap.size w w' ∧ (-1 ≤ r ∧ r ≤ 1 ∧ (r < 0 ↔ a < b) ∧ (0 < r ↔ b < a)) := by
  have hs1 : s.size = (decDigits a).length := by rw [hs, S_size]
  have ht1 : t.size = (decDigits b).length := by rw [ht, S_size]
  have hs2 : s.toList = decDigits a := by rw [hs, S_toList]
  have ht2 : t.toList = decDigits b := by rw [ht, S_toList]
  by_cases hl : s.size = t.size
  · have hl' : (decDigits a).length = (decDigits b).length := by rw [← hs1, ← ht1]; exact hl
    have g1 : Op.bytesLess s.toList t.toList = decide (a < b) := by
      rw [hs2, ht2, bytesLess_be _ _ (isDig_decDigits a) (isDig_decDigits b) hl', be_decDigits, be_decDigits]
    have g2 : (s.toList == t.toList) = decide (a = b) := by
      rw [hs2, ht2]
      by_cases h : a = b
      · subst h; simp
      · have : decDigits a ≠ decDigits b := fun e => h (by rw [← be_decDigits a, e, be_decDigits])
        rw [beq_eq_false_iff_ne.2 this, decide_eq_false h]
    have f0 : ((s.size : Int) != (t.size : Int)) = false := by rw [bne_eq_false_iff_eq]; omega
    by_cases h : a < b
    · rw [decide_eq_true h] at g1
      have H := Lib.hid h
      clear hl hl' hs ht hs1 ht1 hs2 ht2 h ha hb
      go_enter Tryz.func39, Tryz.ntmps39
      go_wp2_with fail
      go_ret
      exact ⟨_, rfl, Below.refl _ _, by have := H.out; omega⟩
    · by_cases h2 : a = b
      · have g3 : (!(Op.bytesLess s.toList t.toList || s.toList == t.toList)) = false := by rw [g2, decide_eq_true h2]; simp
        rw [decide_eq_false h] at g1
        rw [decide_eq_true h2] at g2
        have H := Lib.hid h2
        clear hl hl' hs ht hs1 ht1 hs2 ht2 h h2 ha hb
        go_enter Tryz.func39, Tryz.ntmps39
        go_wp2_with fail
        go_ret
        exact ⟨_, rfl, Below.refl _ _, by have := H.out; omega⟩
      · have g3 : (!(Op.bytesLess s.toList t.toList || s.toList == t.toList)) = true := by rw [g1, g2, decide_eq_false h, decide_eq_false h2]; rfl
        rw [decide_eq_false h] at g1
        rw [decide_eq_false h2] at g2
        have H := Lib.hid (show b < a by omega)
        clear hl hl' hs ht hs1 ht1 hs2 ht2 h h2 ha hb
        go_enter Tryz.func39, Tryz.ntmps39
        go_wp2_with fail
        go_ret
        exact ⟨_, rfl, Below.refl _ _, by have := H.out; omega⟩
  · have f0 : ((s.size : Int) != (t.size : Int)) = true := by rw [bne_iff_ne]; omega
    have hlt : s.size < t.size → a < b := fun h => len_lt_of (by omega)
    have hgt : t.size < s.size → b < a := fun h => len_lt_of (by omega)
    have b1 : s.size ≤ 100000 := by omega
    have b2 : t.size ≤ 100000 := by omega
    have HH := Lib.hid (And.intro hl (And.intro hlt hgt))
    have HS := Lib.hid (sign_any ((s.size : Int) - (t.size : Int)) w)
    clear hl hs ht hs1 ht1 hs2 ht2 hlt hgt ha hb
    go_enter Tryz.func39, Tryz.ntmps39
    go_wp2_with fail
    refine HS.out.mono ?_
    rintro e w1 ⟨r, rfl, hb, hr⟩
    have HR := Lib.hid (And.intro hb hr); clear hb hr
    go_wp2_with fail
    go_ret
    refine ⟨_, rfl, HR.out.1, HR.out.2.1, HR.out.2.2.1, ?_⟩
    have h1 := HR.out.2.2.2
    have h2 := HH.out
    omega
theorem below_any (n : Int) (s : ByteArray) (hs : s = S (itoa n)) (w : World) (b : Bool) (hb : b = decide (n < 0)) : Calls Tryz.prog 36 #[.string s] w fun e w' => e = .returned (.bool b) ∧ Below w.heap.size w w' := by
  obtain ⟨c, r, hc, hv⟩ : ∃ c r, itoa n = c :: r ∧ ((c.toNat : Int) == 45) = b := by
    by_cases h : n < 0
    · exact ⟨_, _, Dec.itoa_neg n h, by rw [hb, decide_eq_true h]; rfl⟩
    · have he := itoa_pos n (by omega)
      cases hx : decDigits n.natAbs with
      | nil => exact absurd hx (decDigits_ne_nil _)
      | cons c r =>
        have hd := isDig_decDigits n.natAbs
        rw [hx] at hd
        have := isDig_head hd
        exact ⟨c, r, by rw [he, hx], by rw [hb, decide_eq_false h, beq_eq_false_iff_ne]; omega⟩
  have hsz : s.size = r.length + 1 := by rw [hs, hc, S_size]; rfl
  have h0 : ∀ wx : World, (Instr.index 9 (.string s) (.int .i64 0)).run Tryz.prog wx = .ok (.int .u8 (c.toNat : Int)) wx := by
    intro wx
    have := idx_S (c :: r) 0 (by simp) wx
    rw [hs, hc]
    simpa using this
  have f0 : decide (0 < (s.size : Int)) = true := decide_eq_true (by omega)
  have f1 : decide (0 < s.size) = true := decide_eq_true (by omega)
  clear hs hb hc hsz
  go_enter Tryz.func36, Tryz.ntmps36
  go_wp2_with fail
  go_ret
  exact ⟨rfl, Below.refl _ _⟩
theorem digitsOf_any (n : Int) (s : ByteArray) (hs : s = S (itoa n)) (w : World) : Calls Tryz.prog 35 #[.string s] w fun e w' => e = .returned (.string (S (decDigits n.natAbs))) ∧ Below w.heap.size w w' := by
  obtain ⟨b, hb⟩ : ∃ b, b = decide (n < 0) := ⟨_, rfl⟩
  have HC := Lib.hid (fun w => below_any n s hs w b hb)
  obtain ⟨t, ht⟩ : ∃ t, t = S (decDigits n.natAbs) := ⟨_, rfl⟩
  rw [← ht]
  cases b with
  | true =>
    have h : n < 0 := of_decide_eq_true hb.symm
    have he := Dec.itoa_neg n h
    have hsl : ∀ wx : World, (Instr.slice 9 (.string s) (some (.int .i64 1)) none none).run Tryz.prog wx = .ok (.string t) wx := by
      intro wx
      have h1 : (1 : Int) ≤ (s.size : Int) := by rw [hs, he, S_size, List.length_cons]; omega
      rw [run_slice_string_l (ht := Tryz.underlying9) (kl := .i64) (l := 1) (h0 := by omega) (h1 := h1), ht, hs, he, S_size]
      congr 2
      exact (Spec.S_drop (45 :: decDigits n.natAbs) 1 _ rfl)
    clear hs hb ht he h
    go_enter Tryz.func35, Tryz.ntmps35
    go_wp2_with fail
    refine (HC.out _).mono ?_
    rintro e w1 ⟨rfl, hb⟩
    have HB := Lib.hid hb; clear hb
    go_wp2_with fail
    go_ret
    exact ⟨rfl, HB.out⟩
  | false =>
    have h : ¬ n < 0 := of_decide_eq_false hb.symm
    have he := itoa_pos n (by omega)
    have hst : s = t := by rw [hs, ht, he]
    subst hst
    clear hs hb ht he h
    go_enter Tryz.func35, Tryz.ntmps35
    go_wp2_with fail
    refine (HC.out _).mono ?_
    rintro e w1 ⟨rfl, hb⟩
    have HB := Lib.hid hb; clear hb
    go_wp2_with fail
    go_ret
    exact ⟨rfl, HB.out⟩
theorem dig_len (n : Int) : (decDigits n.natAbs).length ≤ (itoa n).length := by
  by_cases h : n < 0
  · rw [Dec.itoa_neg n h]; simp
  · rw [itoa_pos n (by omega)]; exact Nat.le_refl _
theorem signed_any (neg : Bool) (m : Nat) (hm : (decDigits m).length ≤ 1000000) (w : World) (n : Int) (hn : n = if neg then -(m : Int) else m) :
    Calls Tryz.prog 37 #[.bool neg, .string (S (decDigits m))] w fun e w' => e = .returned (.string (S (itoa n))) ∧ Below w.heap.size w w' := by
  have h := Spec.together_signed_f neg ((decDigits m).length + 1) (decDigits m) (by omega) (Nat.le_refl _)
  rw [signed_eq neg _ (isDig_decDigits m) (decDigits_ne_nil m), be_decDigits, ← hn] at h
  exact (Ptogether.spec_signed.calls _ neg _ _ w h).mono (fun e w' ⟨h1, h2⟩ => ⟨h1, h2.below⟩)
theorem together_any (a b : Nat) (ha : (decDigits a).length ≤ 1000000) (hb : (decDigits b).length ≤ 1000000) (w : World) :
    Calls Tryz.prog 38 #[.string (S (decDigits a)), .string (S (decDigits b))] w fun e w' => e = .returned (.string (S (decDigits (a + b)))) ∧ Below w.heap.size w w' := by
  have h := Spec.together_f (decDigits a) (decDigits b) (isDig_decDigits a) (isDig_decDigits b) ha hb (decDigits_ne_nil a) _ (Nat.le_refl _)
  rw [be_decDigits, be_decDigits] at h
  exact Ptogether.spec_together.calls _ _ _ _ w h
theorem less_any (a b : Nat) (ha : (decDigits a).length ≤ 1000000) (hb : (decDigits b).length ≤ 1000000) (hge : b ≤ a) (w : World) :
    Calls Tryz.prog 40 #[.string (S (decDigits a)), .string (S (decDigits b))] w fun e w' => e = .returned (.string (S (decDigits (a - b)))) ∧ Below w.heap.size w w' := by
  have h := Spec.less_f (decDigits a) (decDigits b) (isDig_decDigits a) (isDig_decDigits b) ha hb (decDigits_ne_nil a) (by rw [be_decDigits, be_decDigits]; exact hge) _ (Nat.le_refl _)
  rw [be_decDigits, be_decDigits] at h
  exact Pless.spec_less.calls _ _ _ _ w h
theorem len_le {x k : Nat} (h : x < 10 ^ k) (hk : 1 ≤ k) : (decDigits x).length ≤ k := by
  by_cases hb : x = 0
  · subst hb; rw [decDigits_zero]; simpa using hk
  · have hh := head_decDigits x hb
    have hd := isDig_decDigits x
    have hv := be_decDigits x
    cases hx : decDigits x with
    | nil => exact absurd hx (decDigits_ne_nil x)
    | cons c r =>
      rw [hx] at hh hd hv
      have h2 := be_pos hd (fun e => hh (by simp [e]))
      rw [hv] at h2
      rw [List.length_cons]
      rcases Nat.lt_or_ge r.length k with h3 | h3
      · omega
      · have h4 : 10 ^ k ≤ 10 ^ r.length := Nat.pow_le_pow_right (by decide) h3
        omega
theorem lt_len (x : Nat) {k : Nat} (h : (decDigits x).length ≤ k) : x < 10 ^ k := by
  have h1 := be_lt _ (isDig_decDigits x)
  rw [be_decDigits] at h1
  exact Nat.lt_of_lt_of_le h1 (Nat.pow_le_pow_right (by decide) h)
theorem add_len {a b k : Nat} (ha : (decDigits a).length ≤ k) (hb : (decDigits b).length ≤ k) : (decDigits (a + b)).length ≤ k + 1 := by
  have h1 := lt_len a ha
  have h2 := lt_len b hb
  exact len_le (by rw [Nat.pow_succ]; omega) (by omega)
theorem sub_len {a b k : Nat} (ha : (decDigits a).length ≤ k) : (decDigits (a - b)).length ≤ k := by
  have h1 := lt_len a ha
  have : (decDigits a).length ≠ 0 := fun e => decDigits_ne_nil a (List.length_eq_zero_iff.1 e)
  exact len_le (by omega) (by omega)
theorem wholeAdd_same (b : Bool) (m n : Int) (hbm : b = decide (m < 0)) (hbn : b = decide (n < 0)) (s t : ByteArray) (hs : s = S (itoa m)) (ht : t = S (itoa n)) (hm : (itoa m).length ≤ 80000) (hn : (itoa n).length ≤ 80000) (w : World) :
    Calls Tryz.prog 17 #[.string s, .string t] w fun e w' => e = .returned (.string (S (itoa (m + n)))) ∧ Below w.heap.size w w' := by
  have lm := dig_len m
  have ln := dig_len n
  have H36s := Lib.hid (fun w => below_any m s hs w b hbm)
  have H36t := Lib.hid (fun w => below_any n t ht w b hbn)
  have H35s := Lib.hid (fun w => digitsOf_any m s hs w)
  have H35t := Lib.hid (fun w => digitsOf_any n t ht w)
  have H38 := Lib.hid (fun w => together_any m.natAbs n.natAbs (by omega) (by omega) w)
  have H37 := Lib.hid (fun w => signed_any b (m.natAbs + n.natAbs) (Nat.le_trans (add_len (k := 80000) (by omega) (by omega)) (by omega)) w (m + n) (by
    cases b with
    | true => have h1 := of_decide_eq_true hbm.symm; have h2 := of_decide_eq_true hbn.symm; simp only [if_true]; omega
    | false => have h1 := of_decide_eq_false hbm.symm; have h2 := of_decide_eq_false hbn.symm; simp only [Bool.false_eq_true, if_false]; omega))
  have hbb : (b == b) = true := by simp
  clear lm ln hs ht hm hn hbm hbn
  go_enter Tryz.func17, Tryz.ntmps17
  go_wp2_with fail
  refine (H35s.out _).mono ?_
  rintro e w1 ⟨rfl, hb⟩
  have HB1 := Lib.hid hb; clear hb
  go_wp2_with fail
  refine (H35t.out _).mono ?_
  rintro e w2 ⟨rfl, hb⟩
  have HB2 := Lib.hid (HB1.out.trans (hb.mono HB1.out.size)); clear hb
  go_wp2_with fail
  refine (H36s.out _).mono ?_
  rintro e w3 ⟨rfl, hb⟩
  have HB3 := Lib.hid (HB2.out.trans (hb.mono HB2.out.size)); clear hb
  go_wp2_with fail
  refine (H36t.out _).mono ?_
  rintro e w4 ⟨rfl, hb⟩
  have HB4 := Lib.hid (HB3.out.trans (hb.mono HB3.out.size)); clear hb
  go_wp2_with fail
  refine (H36s.out _).mono ?_
  rintro e w5 ⟨rfl, hb⟩
  have HB5 := Lib.hid (HB4.out.trans (hb.mono HB4.out.size)); clear hb
  go_wp2_with fail
  refine (H38.out _).mono ?_
  rintro e w6 ⟨rfl, hb⟩
  have HB6 := Lib.hid (HB5.out.trans (hb.mono HB5.out.size)); clear hb
  go_wp2_with fail
  refine (H37.out _).mono ?_
  rintro e w7 ⟨rfl, hb⟩
  have HB7 := Lib.hid (HB6.out.trans (hb.mono HB6.out.size)); clear hb
  go_wp2_with fail
  go_ret
  exact ⟨rfl, HB7.out⟩
theorem wholeAdd_diff (b : Bool) (m n : Int) (hbm : b = decide (m < 0)) (hbn : (!b) = decide (n < 0)) (s t : ByteArray) (hs : s = S (itoa m)) (ht : t = S (itoa n)) (hm : (itoa m).length ≤ 80000) (hn : (itoa n).length ≤ 80000) (w : World) :
    Calls Tryz.prog 17 #[.string s, .string t] w fun e w' => e = .returned (.string (S (itoa (m + n)))) ∧ Below w.heap.size w w' := by
  have lm := dig_len m
  have ln := dig_len n
  have H36s := Lib.hid (fun w => below_any m s hs w b hbm)
  have H36t := Lib.hid (fun w => below_any n t ht w (!b) hbn)
  have H35s := Lib.hid (fun w => digitsOf_any m s hs w)
  have H35t := Lib.hid (fun w => digitsOf_any n t ht w)
  have H39 := Lib.hid (fun w => more_any m.natAbs n.natAbs (by omega) (by omega) _ _ rfl rfl w)
  have H40 := Lib.hid (fun (h : n.natAbs ≤ m.natAbs) w => less_any m.natAbs n.natAbs (by omega) (by omega) h w)
  have H40' := Lib.hid (fun (h : m.natAbs ≤ n.natAbs) w => less_any n.natAbs m.natAbs (by omega) (by omega) h w)
  have H37 := Lib.hid (fun (h : n.natAbs ≤ m.natAbs) w => signed_any b (m.natAbs - n.natAbs) (Nat.le_trans (sub_len (k := 80000) (by omega)) (by omega)) w (m + n) (by
    cases b with
    | true => have h1 := of_decide_eq_true hbm.symm; have h2 := of_decide_eq_false hbn.symm; simp only [if_true]; omega
    | false => have h1 := of_decide_eq_false hbm.symm; have h2 := of_decide_eq_true hbn.symm; simp only [Bool.false_eq_true, if_false]; omega))
  have H37' := Lib.hid (fun (h : m.natAbs ≤ n.natAbs) w => signed_any (!b) (n.natAbs - m.natAbs) (Nat.le_trans (sub_len (k := 80000) (by omega)) (by omega)) w (m + n) (by
    cases b with
    | true => have h1 := of_decide_eq_true hbm.symm; have h2 := of_decide_eq_false hbn.symm; simp only [Bool.not_true, Bool.false_eq_true, if_false]; omega
    | false => have h1 := of_decide_eq_false hbm.symm; have h2 := of_decide_eq_true hbn.symm; simp only [Bool.not_false, if_true]; omega))
  obtain ⟨c, hc⟩ : ∃ c, c = !b := ⟨_, rfl⟩
  have hbb : (b == c) = false := by rw [hc]; cases b <;> rfl
  rw [← hc] at H36t H37'
  clear lm ln hs ht hm hn hbm hbn hc
  go_enter Tryz.func17, Tryz.ntmps17
  go_wp2_with fail
  refine (H35s.out _).mono ?_
  rintro e w1 ⟨rfl, hb⟩
  have HB1 := Lib.hid hb; clear hb
  go_wp2_with fail
  refine (H35t.out _).mono ?_
  rintro e w2 ⟨rfl, hb⟩
  have HB2 := Lib.hid (HB1.out.trans (hb.mono HB1.out.size)); clear hb
  go_wp2_with fail
  refine (H36s.out _).mono ?_
  rintro e w3 ⟨rfl, hb⟩
  have HB3 := Lib.hid (HB2.out.trans (hb.mono HB2.out.size)); clear hb
  go_wp2_with fail
  refine (H36t.out _).mono ?_
  rintro e w4 ⟨rfl, hb⟩
  have HB4 := Lib.hid (HB3.out.trans (hb.mono HB3.out.size)); clear hb
  go_wp2_with fail
  refine (H39.out _).mono ?_
  rintro e w5 ⟨r, rfl, hb, hr⟩
  have HB5 := Lib.hid (HB4.out.trans (hb.mono HB4.out.size)); clear hb
  by_cases hx : 0 ≤ r
  · have f1 : decide (0 ≤ r) = true := decide_eq_true hx
    have HR := Lib.hid (show n.natAbs ≤ m.natAbs by omega)
    clear hr hx
    go_wp2_with fail
    refine (H36s.out _).mono ?_
    rintro e w6 ⟨rfl, hb⟩
    have HB6 := Lib.hid (HB5.out.trans (hb.mono HB5.out.size)); clear hb
    go_wp2_with fail
    refine (H40.out HR.out _).mono ?_
    rintro e w7 ⟨rfl, hb⟩
    have HB7 := Lib.hid (HB6.out.trans (hb.mono HB6.out.size)); clear hb
    go_wp2_with fail
    refine (H37.out HR.out _).mono ?_
    rintro e w8 ⟨rfl, hb⟩
    have HB8 := Lib.hid (HB7.out.trans (hb.mono HB7.out.size)); clear hb
    go_wp2_with fail
    go_ret
    exact ⟨rfl, HB8.out⟩
  · have f1 : decide (0 ≤ r) = false := decide_eq_false hx
    have HR := Lib.hid (show m.natAbs ≤ n.natAbs by omega)
    clear hr hx
    go_wp2_with fail
    refine (H36t.out _).mono ?_
    rintro e w6 ⟨rfl, hb⟩
    have HB6 := Lib.hid (HB5.out.trans (hb.mono HB5.out.size)); clear hb
    go_wp2_with fail
    refine (H40'.out HR.out _).mono ?_
    rintro e w7 ⟨rfl, hb⟩
    have HB7 := Lib.hid (HB6.out.trans (hb.mono HB6.out.size)); clear hb
    go_wp2_with fail
    refine (H37'.out HR.out _).mono ?_
    rintro e w8 ⟨rfl, hb⟩
    have HB8 := Lib.hid (HB7.out.trans (hb.mono HB7.out.size)); clear hb
    go_wp2_with fail
    go_ret
    exact ⟨rfl, HB8.out⟩
theorem wholeAdd_any (m n : Int) (s t : ByteArray) (hs : s = S (itoa m)) (ht : t = S (itoa n)) (hm : (itoa m).length ≤ 80000) (hn : (itoa n).length ≤ 80000) (w : World) :
    Calls Tryz.prog 17 #[.string s, .string t] w fun e w' => e = .returned (.string (S (itoa (m + n)))) ∧ Below w.heap.size w w' := by
  by_cases h : decide (m < 0) = decide (n < 0)
  · exact wholeAdd_same (decide (m < 0)) m n rfl h s t hs ht hm hn w
  · exact wholeAdd_diff (decide (m < 0)) m n rfl (by cases h1 : decide (m < 0) <;> cases h2 : decide (n < 0) <;> simp_all) s t hs ht hm hn w
end Go.Proofs.YtaiidipcmnejoaaGreatDoor.WholeW

namespace Go.Proofs.YtaiidipcmnejoaaGreatDoor.LawW
open Go.RowKit Go.Lib Go.Proofs.YtaiidipcmnejoaaGreatDoorW.PrintWords Go.Proofs.YtaiidipcmnejoaaGreatDoorW.PrintLast Go.Proofs.YtaiidipcmnejoaaGreatDoorW.PrintMore
open Go.Proofs.YtaiidipcmnejoaaGreatDoor.Nt Go.Proofs.YtaiidipcmnejoaaGreatDoor.Dec Go.Proofs.YtaiidipcmnejoaaGreatDoor.IntW Go.Proofs.YtaiidipcmnejoaaGreatDoor.NumW Go.Proofs.YtaiidipcmnejoaaGreatDoor.NumV Go.Proofs.YtaiidipcmnejoaaGreatDoor.WholeW
open Go.Proofs.YtaiidipcmnejoaaGreatDoor.Spec (S S_list S_toList S_size S_of S_ext)
theorem exact_any (s : ByteArray) (w : World) : Calls Tryz.prog 15 #[.agg #[.string s, .int .i64 0], .string s] w fun e w' => e = .returned (.bool true) ∧ Below w.heap.size w w' :=
  Pexact.laws_exact.calls s 0 s true w (by unfold Pexact.laws_exact.f; rw [if_pos rfl]; simp)
theorem C_two (a b : ByteArray) (w : World) : Kd.C Kd.string (w.alloc (.cells #[.string a, .string b] 9)) (some ⟨w.heap.size, 0, none⟩) [a, b].length [a, b] := by
  obtain ⟨h0, h1, _, _⟩ := two_cells (heap_alloc_new w (.cells #[.string a, .string b] 9))
  refine ⟨rfl, (show (2 : Nat) ≤ 9223372036854775807 by decide), fun _ => ⟨_, rfl, ?_⟩⟩
  intro j p hj
  match j, hj with
  | 0, hj =>
    obtain rfl : a = p := Option.some.inj hj
    refine ⟨[.string a], rfl, rfl, fun i u hi => ?_⟩
    match i, hi with
    | 0, hi => obtain rfl : .string a = u := Option.some.inj hi; exact h0
    | i + 1, hi => simp at hi
  | 1, hj =>
    obtain rfl : b = p := Option.some.inj hj
    refine ⟨[.string b], rfl, rfl, fun i u hi => ?_⟩
    match i, hi with
    | 0, hi => obtain rfl : .string b = u := Option.some.inj hi; exact h1
    | i + 1, hi => simp at hi
  | j + 2, hj => simp at hj
theorem wide_calls (a b : ByteArray) (ha : a.size ≤ 2147483647) (hb : b.size ≤ 2147483647) (w : World) :
    Calls Tryz.prog 14 #[.slice (some ⟨w.heap.size, 0, none⟩) 2 2] (w.alloc (.cells #[.string a, .string b] 9)) fun e w' => ∃ r, e = .returned (.bool r) ∧ Below w.heap.size w w' ∧ (r = true → ∃ m n : Int, a = S (itoa m) ∧ b = S (itoa n) ∧ (itoa m).length ≤ 400 ∧ (itoa n).length ≤ 400) := by
  have ea : S a.data.toList = a := Spec.S_of a
  have eb : S b.data.toList = b := Spec.S_of b
  have la : a.data.toList.length = a.size := rfl
  have lb : b.data.toList.length = b.size := rfl
  have h := Spec.wide_two a.data.toList b.data.toList (by omega) (by omega) _ (Nat.le_refl _)
  rw [ea, eb] at h
  refine (Pwide.laws_wide.calls _ (some ⟨w.heap.size, 0, none⟩) 2 [a, b] _ _ (C_two a b w) (Nat.le_refl _) h).mono ?_
  rintro e w' ⟨rfl, hd⟩
  have hA := (Below.refl w.heap.size w).alloc (Nat.le_refl _) (.cells #[.string a, .string b] 9)
  refine ⟨_, rfl, hA.trans (hd.below.mono hA.size), ?_⟩
  intro hr
  simp only [Bool.and_eq_true, decide_eq_true_eq] at hr
  obtain ⟨⟨h1, h2⟩, h3, h4⟩ := hr
  obtain ⟨m, hm⟩ := itoa_whole _ h2
  obtain ⟨n, hn⟩ := itoa_whole _ h4
  exact ⟨m, n, by rw [← hm, ea], by rw [← hn, eb], by rw [← hm]; exact h1, by rw [← hn]; exact h3⟩
end Go.Proofs.YtaiidipcmnejoaaGreatDoor.LawW
