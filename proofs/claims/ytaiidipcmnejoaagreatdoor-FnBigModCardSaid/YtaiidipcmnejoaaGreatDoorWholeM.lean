import Derived.Test.YtaiidipcmnejoaaGreatDoorNumM
import Derived.WalkLawsBesides
import Derived.Test.YtaiidipcmnejoaaGreatDoorPexactx1

namespace Go.Proofs.YtaiidipcmnejoaaGreatDoor.WholeW
open Go.RowKit Go.Lib Go.Proofs.YtaiidipcmnejoaaGreatDoorW.PrintWords Go.Proofs.YtaiidipcmnejoaaGreatDoorW.PrintLast Go.Proofs.YtaiidipcmnejoaaGreatDoorW.PrintMore
open Go.Proofs.YtaiidipcmnejoaaGreatDoor.Nt Go.Proofs.YtaiidipcmnejoaaGreatDoor.Dec Go.Proofs.YtaiidipcmnejoaaGreatDoor.IntW Go.Proofs.YtaiidipcmnejoaaGreatDoor.NumW Go.Proofs.YtaiidipcmnejoaaGreatDoor.NumV
open Go.Proofs.YtaiidipcmnejoaaGreatDoor.Spec (S S_list S_toList S_size S_of S_ext)

/-- spec.sign. -/
theorem sign_any (x : Int) (w : World) : Calls Tryz.prog 59 #[.int .i64 x] w fun e w' => ∃ r, e = .returned (.int .i64 r) ∧ Below w.heap.size w w' ∧ (-1 ≤ r ∧ r ≤ 1 ∧ (r < 0 ↔ x < 0) ∧ (0 < r ↔ 0 < x)) := by
 by_cases h : x < 0
 ·
  have f1 : decide (x < 0) = true := decide_eq_true h
  have H := Lib.hid h; clear h
  go_enter Tryz.func59, Tryz.ntmps59
  go_wp2_with fail
  go_ret
  exact ⟨_, rfl, Below.refl _ _, by have := H.out; omega⟩
 ·
  by_cases h2 : 0 < x
  ·
   have f1 : decide (x < 0) = false := decide_eq_false h
   have f2 : decide (0 < x) = true := decide_eq_true h2
   have H := Lib.hid h2; clear h h2
   go_enter Tryz.func59, Tryz.ntmps59
   go_wp2_with fail
   go_ret
   exact ⟨_, rfl, Below.refl _ _, by have := H.out; omega⟩
  ·
   have f1 : decide (x < 0) = false := decide_eq_false h
   have f2 : decide (0 < x) = false := decide_eq_false h2
   have H := Lib.hid (And.intro h h2); clear h h2
   go_enter Tryz.func59, Tryz.ntmps59
   go_wp2_with fail
   go_ret
   exact ⟨_, rfl, Below.refl _ _, by have := H.out; omega⟩
theorem more_any (a b : Nat) (ha : (decDigits a).length ≤ 100000) (hb : (decDigits b).length ≤ 100000) (s t : ByteArray) (hs : s = S (decDigits a)) (ht : t = S (decDigits b)) (w : World) :
  Calls Tryz.prog 39 #[.string s, .string t] w fun e w' => ∃ r, e = .returned (.int .i64 r) ∧ Below w.heap.size w w' ∧ (-1 ≤ r ∧ r ≤ 1 ∧ (r < 0 ↔ a < b) ∧ (0 < r ↔ b < a)) := by
 have hs1 : s.size = (decDigits a).length := by rw [hs, S_size]
 have ht1 : t.size = (decDigits b).length := by rw [ht, S_size]
 have hs2 : s.toList = decDigits a := by rw [hs, S_toList]
 have ht2 : t.toList = decDigits b := by rw [ht, S_toList]
 by_cases hl : s.size = t.size
 ·
  have hl' : (decDigits a).length = (decDigits b).length := by rw [← hs1, ← ht1]; exact hl
  have g1 : Op.bytesLess s.toList t.toList = decide (a < b) := by
   rw [hs2, ht2, bytesLess_be _ _ (isDig_decDigits a) (isDig_decDigits b) hl', be_decDigits, be_decDigits]
  have g2 : (s.toList == t.toList) = decide (a = b) := by
   rw [hs2, ht2]
   by_cases h : a = b
   ·
    subst h; simp
   ·
    have : decDigits a ≠ decDigits b := fun e => h (by rw [← be_decDigits a, e, be_decDigits])
    rw [beq_eq_false_iff_ne.2 this, decide_eq_false h]
  have f0 : ((s.size : Int) != (t.size : Int)) = false := by rw [bne_eq_false_iff_eq]; omega
  by_cases h : a < b
  ·
   rw [decide_eq_true h] at g1
   have H := Lib.hid h
   clear hl hl' hs ht hs1 ht1 hs2 ht2 h ha hb
   go_enter Tryz.func39, Tryz.ntmps39
   go_wp2_with fail
   go_ret
   exact ⟨_, rfl, Below.refl _ _, by have := H.out; omega⟩
  ·
   by_cases h2 : a = b
   ·
    have g3 : (!(Op.bytesLess s.toList t.toList || s.toList == t.toList)) = false := by rw [g2, decide_eq_true h2]; simp
    rw [decide_eq_false h] at g1
    rw [decide_eq_true h2] at g2
    have H := Lib.hid h2
    clear hl hl' hs ht hs1 ht1 hs2 ht2 h h2 ha hb
    go_enter Tryz.func39, Tryz.ntmps39
    go_wp2_with fail
    go_ret
    exact ⟨_, rfl, Below.refl _ _, by have := H.out; omega⟩
   ·
    have g3 : (!(Op.bytesLess s.toList t.toList || s.toList == t.toList)) = true := by rw [g1, g2, decide_eq_false h, decide_eq_false h2]; rfl
    rw [decide_eq_false h] at g1
    rw [decide_eq_false h2] at g2
    have H := Lib.hid (show b < a by omega)
    clear hl hl' hs ht hs1 ht1 hs2 ht2 h h2 ha hb
    go_enter Tryz.func39, Tryz.ntmps39
    go_wp2_with fail
    go_ret
    exact ⟨_, rfl, Below.refl _ _, by have := H.out; omega⟩
 ·
  have f0 : ((s.size : Int) != (t.size : Int)) = true := by rw [bne_iff_ne]; omega
  have hlt : s.size < t.size → a < b := fun h => len_lt_of (by omega)
  have hgt : t.size < s.size → b < a := fun h => len_lt_of (by omega)
  have b1 : s.size ≤ 100000 := by omega
  have b2 : t.size ≤ 100000 := by omega
  have HH := Lib.hid (And.intro hl (And.intro hlt hgt))
  have HS := Lib.hid (sign_any ((s.size : Int) - (t.size : Int)) w)
  clear hl hs ht hs1 ht1 hs2 ht2 hlt hgt ha hb
  go_enter Tryz.func39, Tryz.ntmps39
  go_wp2_with fail
  refine HS.out.mono ?_
  rintro e w1 ⟨r, rfl, hb, hr⟩
  have HR := Lib.hid (And.intro hb hr); clear hb hr
  go_wp2_with fail
  go_ret
  refine ⟨_, rfl, HR.out.1, HR.out.2.1, HR.out.2.2.1, ?_⟩
  have h1 := HR.out.2.2.2
  have h2 := HH.out
  omega
theorem below_any (n : Int) (s : ByteArray) (hs : s = S (itoa n)) (w : World) (b : Bool) (hb : b = decide (n < 0)) : Calls Tryz.prog 36 #[.string s] w fun e w' => e = .returned (.bool b) ∧ Below w.heap.size w w' := by
 obtain ⟨c, r, hc, hv⟩ : ∃ c r, itoa n = c :: r ∧ ((c.toNat : Int) == 45) = b := by
  by_cases h : n < 0
  ·
   exact ⟨_, _, Dec.itoa_neg n h, by rw [hb, decide_eq_true h]; rfl⟩
  ·
   have he := itoa_pos n (by omega)
   cases hx : decDigits n.natAbs with
   | nil => exact absurd hx (decDigits_ne_nil _)
   | cons c r =>
    have hd := isDig_decDigits n.natAbs
    rw [hx] at hd
    have := isDig_head hd
    exact ⟨c, r, by rw [he, hx], by rw [hb, decide_eq_false h, beq_eq_false_iff_ne]; omega⟩
 have hsz : s.size = r.length + 1 := by rw [hs, hc, S_size]; rfl
 have h0 : ∀ wx : World, (Instr.index 9 (.string s) (.int .i64 0)).run Tryz.prog wx = .ok (.int .u8 (c.toNat : Int)) wx := by
  intro wx
  have := idx_S (c :: r) 0 (by simp) wx
  rw [hs, hc]
  simpa using this
 have f0 : decide (0 < (s.size : Int)) = true := decide_eq_true (by omega)
 have f1 : decide (0 < s.size) = true := decide_eq_true (by omega)
 clear hs hb hc hsz
 go_enter Tryz.func36, Tryz.ntmps36
 go_wp2_with fail
 go_ret
 exact ⟨rfl, Below.refl _ _⟩
theorem digitsOf_any (n : Int) (s : ByteArray) (hs : s = S (itoa n)) (w : World) : Calls Tryz.prog 35 #[.string s] w fun e w' => e = .returned (.string (S (decDigits n.natAbs))) ∧ Below w.heap.size w w' := by
 obtain ⟨b, hb⟩ : ∃ b, b = decide (n < 0) := ⟨_, rfl⟩
 have HC := Lib.hid (fun w => below_any n s hs w b hb)
 obtain ⟨t, ht⟩ : ∃ t, t = S (decDigits n.natAbs) := ⟨_, rfl⟩
 rw [← ht]
 cases b with
 | true =>
  have h : n < 0 := of_decide_eq_true hb.symm
  have he := Dec.itoa_neg n h
  have hsl : ∀ wx : World, (Instr.slice 9 (.string s) (some (.int .i64 1)) none none).run Tryz.prog wx = .ok (.string t) wx := by
   intro wx
   have h1 : (1 : Int) ≤ (s.size : Int) := by rw [hs, he, S_size, List.length_cons]; omega
   rw [run_slice_string_l (ht := Tryz.underlying9) (kl := .i64) (l := 1) (h0 := by omega) (h1 := h1), ht, hs, he, S_size]
   congr 2
   exact (Spec.S_drop (45 :: decDigits n.natAbs) 1 _ rfl)
  clear hs hb ht he h
  go_enter Tryz.func35, Tryz.ntmps35
  go_wp2_with fail
  refine (HC.out _).mono ?_
  rintro e w1 ⟨rfl, hb⟩
  have HB := Lib.hid hb; clear hb
  go_wp2_with fail
  go_ret
  exact ⟨rfl, HB.out⟩
 | false =>
  have h : ¬ n < 0 := of_decide_eq_false hb.symm
  have he := itoa_pos n (by omega)
  have hst : s = t := by rw [hs, ht, he]
  subst hst
  clear hs hb ht he h
  go_enter Tryz.func35, Tryz.ntmps35
  go_wp2_with fail
  refine (HC.out _).mono ?_
  rintro e w1 ⟨rfl, hb⟩
  have HB := Lib.hid hb; clear hb
  go_wp2_with fail
  go_ret
  exact ⟨rfl, HB.out⟩
theorem dig_len (n : Int) : (decDigits n.natAbs).length ≤ (itoa n).length := by
 by_cases h : n < 0
 ·
  rw [Dec.itoa_neg n h]; simp
 ·
  rw [itoa_pos n (by omega)]; exact Nat.le_refl _
theorem len_le {x k : Nat} (h : x < 10 ^ k) (hk : 1 ≤ k) : (decDigits x).length ≤ k := by
 by_cases hb : x = 0
 ·
  subst hb; rw [decDigits_zero]; simpa using hk
 ·
  have hh := head_decDigits x hb
  have hd := isDig_decDigits x
  have hv := be_decDigits x
  cases hx : decDigits x with
  | nil => exact absurd hx (decDigits_ne_nil x)
  | cons c r =>
   rw [hx] at hh hd hv
   have h2 := be_pos hd (fun e => hh (by simp [e]))
   rw [hv] at h2
   rw [List.length_cons]
   rcases Nat.lt_or_ge r.length k with h3 | h3
   ·
    omega
   ·
    have h4 : 10 ^ k ≤ 10 ^ r.length := Nat.pow_le_pow_right (by decide) h3
    omega
theorem lt_len (x : Nat) {k : Nat} (h : (decDigits x).length ≤ k) : x < 10 ^ k := by
 have h1 := be_lt _ (isDig_decDigits x)
 rw [be_decDigits] at h1
 exact Nat.lt_of_lt_of_le h1 (Nat.pow_le_pow_right (by decide) h)
end Go.Proofs.YtaiidipcmnejoaaGreatDoor.WholeW

namespace Go.Proofs.YtaiidipcmnejoaaGreatDoor.LawW
open Go.RowKit Go.Lib Go.Proofs.YtaiidipcmnejoaaGreatDoorW.PrintWords Go.Proofs.YtaiidipcmnejoaaGreatDoorW.PrintLast Go.Proofs.YtaiidipcmnejoaaGreatDoorW.PrintMore
open Go.Proofs.YtaiidipcmnejoaaGreatDoor.Nt Go.Proofs.YtaiidipcmnejoaaGreatDoor.Dec Go.Proofs.YtaiidipcmnejoaaGreatDoor.IntW Go.Proofs.YtaiidipcmnejoaaGreatDoor.NumW Go.Proofs.YtaiidipcmnejoaaGreatDoor.NumV Go.Proofs.YtaiidipcmnejoaaGreatDoor.WholeW
open Go.Proofs.YtaiidipcmnejoaaGreatDoor.Spec (S S_list S_toList S_size S_of S_ext)
theorem exact_any (s : ByteArray) (w : World) : Calls Tryz.prog 15 #[.agg #[.string s, .int .i64 0], .string s] w fun e w' => e = .returned (.bool true) ∧ Below w.heap.size w w' :=
 Pexact.laws_exact.calls s 0 s true w (by unfold Pexact.laws_exact.f; rw [if_pos rfl]; simp)
theorem C_two (a b : ByteArray) (w : World) : Kd.C Kd.string (w.alloc (.cells #[.string a, .string b] 9)) (some ⟨w.heap.size, 0, none⟩) [a, b].length [a, b] := by
 obtain ⟨h0, h1, _, _⟩ := two_cells (heap_alloc_new w (.cells #[.string a, .string b] 9))
 refine ⟨rfl, (show (2 : Nat) ≤ 9223372036854775807 by decide), fun _ => ⟨_, rfl, ?_⟩⟩
 intro j p hj
 match j, hj with
 | 0, hj =>
  obtain rfl : a = p := Option.some.inj hj
  refine ⟨[.string a], rfl, rfl, fun i u hi => ?_⟩
  match i, hi with
  | 0, hi => obtain rfl : .string a = u := Option.some.inj hi; exact h0
  | i + 1, hi => simp at hi
 | 1, hj =>
  obtain rfl : b = p := Option.some.inj hj
  refine ⟨[.string b], rfl, rfl, fun i u hi => ?_⟩
  match i, hi with
  | 0, hi => obtain rfl : .string b = u := Option.some.inj hi; exact h1
  | i + 1, hi => simp at hi
 | j + 2, hj => simp at hj
theorem wide_calls (a b : ByteArray) (ha : a.size ≤ 2147483647) (hb : b.size ≤ 2147483647) (w : World) :
  Calls Tryz.prog 14 #[.slice (some ⟨w.heap.size, 0, none⟩) 2 2] (w.alloc (.cells #[.string a, .string b] 9)) fun e w' => ∃ r, e = .returned (.bool r) ∧ Below w.heap.size w w' ∧ (r = true → ∃ m n : Int, a = S (itoa m) ∧ b = S (itoa n) ∧ (itoa m).length ≤ 400 ∧ (itoa n).length ≤ 400) := by
 have ea : S a.data.toList = a := Spec.S_of a
 have eb : S b.data.toList = b := Spec.S_of b
 have la : a.data.toList.length = a.size := rfl
 have lb : b.data.toList.length = b.size := rfl
 have h := Spec.wide_two a.data.toList b.data.toList (by omega) (by omega) _ (Nat.le_refl _)
 rw [ea, eb] at h
 refine (Pwide.laws_wide.calls _ (some ⟨w.heap.size, 0, none⟩) 2 [a, b] _ _ (C_two a b w) (Nat.le_refl _) h).mono ?_
 rintro e w' ⟨rfl, hd⟩
 have hA := (Below.refl w.heap.size w).alloc (Nat.le_refl _) (.cells #[.string a, .string b] 9)
 refine ⟨_, rfl, hA.trans (hd.below.mono hA.size), ?_⟩
 intro hr
 simp only [Bool.and_eq_true, decide_eq_true_eq] at hr
 obtain ⟨⟨h1, h2⟩, h3, h4⟩ := hr
 obtain ⟨m, hm⟩ := itoa_whole _ h2
 obtain ⟨n, hn⟩ := itoa_whole _ h4
 exact ⟨m, n, by rw [← hm, ea], by rw [← hn, eb], by rw [← hm]; exact h1, by rw [← hn]; exact h3⟩
end Go.Proofs.YtaiidipcmnejoaaGreatDoor.LawW
