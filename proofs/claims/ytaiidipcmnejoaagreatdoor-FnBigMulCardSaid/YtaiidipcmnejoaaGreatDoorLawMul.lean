import Derived.Test.YtaiidipcmnejoaaGreatDoorWmulW
import Derived.Test.YtaiidipcmnejoaaGreatDoorWholeAll
import Derived.Test.YtaiidipcmnejoaaGreatDoorOpMulB

set_option linter.unusedVariables false
set_option linter.unusedSimpArgs false
namespace Go.Proofs.YtaiidipcmnejoaaGreatDoor.WmulP
open Go.RowKit Go.Lib Go.Proofs.YtaiidipcmnejoaaGreatDoorW.PrintWords Go.Proofs.YtaiidipcmnejoaaGreatDoorW.PrintLast Go.Proofs.YtaiidipcmnejoaaGreatDoorW.PrintMore
open Go.Proofs.YtaiidipcmnejoaaGreatDoor.Dec Go.Proofs.YtaiidipcmnejoaaGreatDoor.Nt
open Go.Proofs.YtaiidipcmnejoaaGreatDoor.Spec (S S_list S_toList S_size S_of S_ext)
theorem e_below : PWholeMul.spec_below.f = Pwide.spec_below.f := rfl
theorem e_digitsOf : PWholeMul.spec_digitsOf.f = Pwide.spec_digitsOf.f := rfl
theorem e_digitAt : PWholeMul.spec_digitAt.f = Ptogether.spec_digitAt.f := rfl
theorem e_signed0 : ∀ (k : Nat), PWholeMul.spec_signed.l0 k = Ptogether.spec_signed.l0 k
  | 0 => rfl
  | k + 1 => by
    funext a b
    simp only [PWholeMul.spec_signed.l0, Ptogether.spec_signed.l0, e_signed0 k]
theorem e_signed : PWholeMul.spec_signed.f = Ptogether.spec_signed.f := by
  funext k
  unfold PWholeMul.spec_signed.f Ptogether.spec_signed.f
  rw [e_signed0]
theorem e_textOf0 : ∀ (k : Nat), PWholeMul.spec_textOf.l0 k = Ptogether.spec_textOf.l0 k
  | 0 => rfl
  | k + 1 => by
    funext a b c d
    simp only [PWholeMul.spec_textOf.l0, Ptogether.spec_textOf.l0, e_textOf0 k, e_signed]
theorem e_textOf : PWholeMul.spec_textOf.f = Ptogether.spec_textOf.f := by
  funext k l
  unfold PWholeMul.spec_textOf.f Ptogether.spec_textOf.f
  rw [e_textOf0]
theorem digitAt_f (l : List UInt8) (h : isDig l) (hl : l.length ≤ 140737488355328) (i : Nat) (hi : i ≤ 140737488355328) : PWholeMul.spec_digitAt.f (S l) (i : Int) = some ((be l / 10 ^ i % 10 : Nat) : Int) := by
  rw [e_digitAt]; exact Spec.together_digitAt_f l h hl i hi
theorem below_f (l : List UInt8) : PWholeMul.spec_below.f (S l) = some (belowB l) := by
  rw [e_below]; exact Spec.below_f l
theorem digitsOf_f (l : List UInt8) : PWholeMul.spec_digitsOf.f (S l) = some (S (digitsB l)) := by
  rw [e_digitsOf]; exact Spec.digitsOf_f l
theorem textOf_f (l : List Int) (hd : digs l) (h0 : l ≠ []) (hl : l.length ≤ 1000000000) (k : Nat) (hk : 2 * l.length + 3 ≤ k) : PWholeMul.spec_textOf.f k l = some (S (decDigits (le l).toNat)) := by
  rw [e_textOf]; exact Spec.together_textOf_f l hd h0 hl k hk
theorem signed_f (neg : Bool) (k : Nat) (l : List UInt8) (hl : l.length ≤ 140737488355328) (hk : l.length + 1 ≤ k) : PWholeMul.spec_signed.f k neg (S l) = some (S (signedB neg l)) := by
  rw [e_signed]; exact Spec.together_signed_f neg k l hl hk
theorem le_set : ∀ (l : List Int) (p : Nat) (v : Int) (h : p < l.length), le (l.set p v) = le l + (v - l[p]) * 10 ^ p
  | [], p, v, h => by simp at h
  | d :: l, 0, v, h => by simp [le]; omega
  | d :: l, p + 1, v, h => by
    have hp : p < l.length := by simpa using h
    have ih := le_set l p v hp
    simp only [List.set_cons_succ, le, List.getElem_cons_succ, ih, Int.pow_succ, Int.mul_add]
    rw [show 10 * ((v - l[p]) * 10 ^ p) = (v - l[p]) * (10 ^ p * 10) by rw [Int.mul_comm 10, Int.mul_assoc]]
    omega
theorem digs_set {l : List Int} (h : digs l) (p : Nat) (v : Int) (h0 : 0 ≤ v) (h1 : v ≤ 9) : digs (l.set p v) := fun x hx => by
  rcases List.mem_or_eq_of_mem_set hx with h2 | h2
  · exact h x h2
  · subst h2; exact ⟨h0, h1⟩
/-- A digit of a number. -/
def dg (A i : Nat) : Int := ((A / 10 ^ i % 10 : Nat) : Int)
theorem dg_bounds (A i : Nat) : 0 ≤ dg A i ∧ dg A i ≤ 9 := by unfold dg; omega
theorem mod_step (A i : Nat) : ((A % 10 ^ (i + 1) : Nat) : Int) = ((A % 10 ^ i : Nat) : Int) + dg A i * 10 ^ i := by
  have h : A % 10 ^ (i + 1) = A % 10 ^ i + 10 ^ i * (A / 10 ^ i % 10) := by rw [Nat.mod_pow_succ]
  rw [h]
  unfold dg
  push_cast
  rw [Int.mul_comm (10 ^ i)]
theorem mulb {a b : Int} (ha : 0 ≤ a) (ha9 : a ≤ 9) (hb : 0 ≤ b) (hb9 : b ≤ 9) : 0 ≤ a * b ∧ a * b ≤ 81 := by
  have h1 : 0 ≤ a * b := Int.mul_nonneg ha hb
  have h2 : a * b ≤ 9 * 9 := Int.mul_le_mul (by omega) (by omega) hb (by omega)
  omega
theorem step (x0 x1 : ByteArray) (X Y : List UInt8) (hX : isDig X) (hY : isDig Y) (hXm : X.length ≤ 1000000) (hYm : Y.length ≤ 1000000) (k i j : Nat) (z : List Int) (c : Int) (hz : digs z) (hp : i + j < z.length) (hi : i ≤ 1000000) (hj : j ≤ 1000001) (hc0 : 0 ≤ c) (hc9 : c ≤ 9) :
    PWholeMul.spec_WholeMul.j2 (k + 1) x0 x1 (S X) (S Y) z (i : Int) c (j : Int) true =
      PWholeMul.spec_WholeMul.l1 k x0 x1 (S X) (S Y) (z.set (i + j) ((z[i + j] + dg (be X) i * dg (be Y) j + c) % 10)) (i : Int) ((z[i + j] + dg (be X) i * dg (be Y) j + c) / 10) ((j + 1 : Nat) : Int) := by
  have hzp := hz z[i + j] (List.getElem_mem hp)
  obtain ⟨a0, a9⟩ := dg_bounds (be X) i
  obtain ⟨b0, b9⟩ := dg_bounds (be Y) j
  obtain ⟨m0, m1⟩ := mulb a0 a9 b0 b9
  have e1 : (i : Int) + (j : Int) = ((i + j : Nat) : Int) := by omega
  have e2 : (j : Int) + 1 = ((j + 1 : Nat) : Int) := by omega
  rw [PWholeMul.spec_WholeMul.j2, if_pos rfl, e1, w64 _ (by omega) (by omega), if_pos (by omega), if_pos (by omega), digitAt_f X hX (by omega) i (by omega), Option.bind_some, digitAt_f Y hY (by omega) j (by omega), Option.bind_some,
    rd_at _ _ hp, Int.toNat_natCast, e2, w64 ((j + 1 : Nat) : Int) (by omega) (by omega)]
  rw [show ((be X / 10 ^ i % 10 : Nat) : Int) = dg (be X) i from rfl, show ((be Y / 10 ^ j % 10 : Nat) : Int) = dg (be Y) j from rfl]
  rw [w64 (dg (be X) i * dg (be Y) j) (by omega) (by omega), w64 (z[i + j] + dg (be X) i * dg (be Y) j) (by omega) (by omega), w64 (z[i + j] + dg (be X) i * dg (be Y) j + c) (by omega) (by omega), Int.tmod_eq_emod_of_nonneg (by omega), Int.tdiv_eq_ediv_of_nonneg (by omega), w64 _ (by omega) (by omega)]

theorem wm_l1 (x0 x1 : ByteArray) (X Y : List UInt8) (hX : isDig X) (hY : isDig Y) (hXm : X.length ≤ 1000000) (hYm : Y.length ≤ 1000000) (i : Nat) (hi : i < X.length) (n : Nat) :
    ∀ (k j : Nat) (z : List Int) (c : Int), j + n = Y.length → 2 * n + 4 < k → z.length = X.length + Y.length + 1 → digs z → 0 ≤ c → c ≤ 9 →
      le z + c * 10 ^ (i + j) = ((be X % 10 ^ i : Nat) : Int) * (be Y : Int) + dg (be X) i * ((be Y % 10 ^ j : Nat) : Int) * 10 ^ i → (∀ p (h : p < z.length), i + Y.length ≤ p → z[p] = 0) →
      ∃ (k' : Nat) (z' : List Int), k ≤ k' + 2 * n + 4 ∧ z'.length = X.length + Y.length + 1 ∧ digs z' ∧ le z' = ((be X % 10 ^ (i + 1) : Nat) : Int) * (be Y : Int) ∧ (∀ p (h : p < z'.length), i + 1 + Y.length ≤ p → z'[p] = 0) ∧
        PWholeMul.spec_WholeMul.l1 k x0 x1 (S X) (S Y) z (i : Int) c (j : Int) = PWholeMul.spec_WholeMul.l0 k' x0 x1 (S X) (S Y) z' ((i + 1 : Nat) : Int) := by
  have ei : (i : Int) + 1 = ((i + 1 : Nat) : Int) := by omega
  induction n with
  | zero =>
    intro k j z c hj hk hl hd hc0 hc9 hinv hzero
    have hjy : j = Y.length := by omega
    subst hjy
    rw [Nat.mod_eq_of_lt (be_lt Y hY)] at hinv
    have hend : ∀ (k : Nat) (z : List Int) (j : Nat), Y.length ≤ j → PWholeMul.spec_WholeMul.l1 (k + 2) x0 x1 (S X) (S Y) z (i : Int) 0 (j : Int) = PWholeMul.spec_WholeMul.l0 k x0 x1 (S X) (S Y) z ((i + 1 : Nat) : Int) := by
      intro k z j hj
      rw [PWholeMul.spec_WholeMul.l1, if_neg (by rw [S_size]; omega), PWholeMul.spec_WholeMul.j2, if_neg (by decide), ei, w64 _ (by omega) (by omega)]
    have hgoal : ((be X % 10 ^ (i + 1) : Nat) : Int) * (be Y : Int) = ((be X % 10 ^ i : Nat) : Int) * (be Y : Int) + dg (be X) i * (be Y : Int) * 10 ^ i := by
      rw [mod_step, Int.add_mul, Int.mul_assoc, Int.mul_comm (10 ^ i), ← Int.mul_assoc]
    by_cases hc : c = 0
    · subst hc
      obtain ⟨k, rfl⟩ : ∃ m, k = m + 2 := ⟨k - 2, by omega⟩
      refine ⟨k, z, by omega, hl, hd, ?_, fun p h hp => hzero p h (by omega), hend k z _ (Nat.le_refl _)⟩
      rw [hgoal, ← hinv]; omega
    · obtain ⟨k, rfl⟩ : ∃ m, k = m + 4 := ⟨k - 4, by omega⟩
      have hp : i + Y.length < z.length := by omega
      have hz0 := hzero _ hp (Nat.le_refl _)
      have hdy : dg (be Y) Y.length = 0 := by unfold dg; rw [digit_above Y hY _ (Nat.le_refl _)]; rfl
      refine ⟨k, z.set (i + Y.length) c, by omega, by simp [hl], digs_set hd _ _ hc0 hc9, ?_, ?_, ?_⟩
      · rw [le_set z _ _ hp, hz0, hgoal, ← hinv, Int.sub_zero]
      · intro p h hp2
        rw [List.getElem_set, if_neg (by omega)]
        exact hzero p (by simpa using h) (by omega)
      · rw [PWholeMul.spec_WholeMul.l1, if_neg (by rw [S_size]; omega), decide_eq_true (by omega : c > 0), step x0 x1 X Y hX hY hXm hYm (k + 2) i Y.length z c hd hp (by omega) (by omega) hc0 hc9, hz0, hdy]
        rw [show (0 + dg (be X) i * 0 + c) = c by omega, Int.emod_eq_of_lt hc0 (by omega), Int.ediv_eq_zero_of_lt hc0 (by omega)]
        exact hend k _ _ (by omega)
  | succ n ih =>
    intro k j z c hj hk hl hd hc0 hc9 hinv hzero
    obtain ⟨k, rfl⟩ : ∃ m, k = m + 2 := ⟨k - 2, by omega⟩
    have hp : i + j < z.length := by omega
    have hzp := hd z[i + j] (List.getElem_mem hp)
    obtain ⟨a0, a9⟩ := dg_bounds (be X) i
    obtain ⟨b0, b9⟩ := dg_bounds (be Y) j
    have hms := mulb a0 a9 b0 b9
    have key : PWholeMul.spec_WholeMul.l1 (k + 2) x0 x1 (S X) (S Y) z (i : Int) c (j : Int) = _ :=
      (show PWholeMul.spec_WholeMul.l1 (k + 2) x0 x1 (S X) (S Y) z (i : Int) c (j : Int) = PWholeMul.spec_WholeMul.j2 (k + 1) x0 x1 (S X) (S Y) z (i : Int) c (j : Int) true by
        rw [PWholeMul.spec_WholeMul.l1, if_pos (by rw [S_size]; omega)]).trans (step x0 x1 X Y hX hY hXm hYm k i j z c hd hp (by omega) (by omega) hc0 hc9)
    obtain ⟨s, hs⟩ : ∃ s, s = z[i + j] + dg (be X) i * dg (be Y) j + c := ⟨_, rfl⟩
    rw [← hs] at key
    rw [key]
    have hs' : s % 10 + 10 * (s / 10) = s := by omega
    obtain ⟨k', z', h1, h2, h3, h4, h5, h6⟩ := ih k (j + 1) (z.set (i + j) (s % 10)) (s / 10) (by omega) (by omega) (by simp [hl]) (digs_set hd _ _ (by omega) (by omega)) (by omega) (by omega) (by
      rw [le_set z _ _ hp, mod_step (be Y) j, show i + (j + 1) = (i + j) + 1 by omega, Int.pow_succ]
      have e3 : s / 10 * (10 ^ (i + j) * 10) = (10 * (s / 10)) * 10 ^ (i + j) := by
        rw [Int.mul_comm (10 ^ (i + j)) 10, ← Int.mul_assoc, Int.mul_comm (s / 10)]
      have e4 : dg (be X) i * (((be Y % 10 ^ j : Nat) : Int) + dg (be Y) j * 10 ^ j) * 10 ^ i = dg (be X) i * ((be Y % 10 ^ j : Nat) : Int) * 10 ^ i + (dg (be X) i * dg (be Y) j) * 10 ^ (i + j) := by
        rw [Int.mul_add, Int.add_mul, Int.pow_add, ← Int.mul_assoc (dg (be X) i) (dg (be Y) j), Int.mul_assoc (dg (be X) i * dg (be Y) j), Int.mul_comm (10 ^ j) (10 ^ i)]
      rw [e3, e4, ← Int.add_assoc (((be X % 10 ^ i : Nat) : Int) * (be Y : Int)), ← hinv]
      have e5 : (s % 10 - z[i + j]) * 10 ^ (i + j) + 10 * (s / 10) * 10 ^ (i + j) = c * 10 ^ (i + j) + dg (be X) i * dg (be Y) j * 10 ^ (i + j) := by
        rw [← Int.add_mul, ← Int.add_mul]
        congr 1
        omega
      omega) (by
      intro p h hp2
      rw [List.getElem_set, if_neg (by omega)]
      exact hzero p (by simpa using h) hp2)
    exact ⟨k', z', by omega, h2, h3, h4, h5, h6⟩

theorem wm_l0 (x0 x1 : ByteArray) (X Y : List UInt8) (hX : isDig X) (hY : isDig Y) (hXm : X.length ≤ 1000000) (hYm : Y.length ≤ 1000000) (b0 b1 : Bool) (h0 : PWholeMul.spec_below.f x0 = some b0) (h1 : PWholeMul.spec_below.f x1 = some b1) (n : Nat) :
    ∀ (k i : Nat) (z : List Int), i + n = X.length → n * (2 * Y.length + 6) + 2 * (X.length + Y.length + 1) + 10 ≤ k → z.length = X.length + Y.length + 1 → digs z → le z = ((be X % 10 ^ i : Nat) : Int) * (be Y : Int) → (∀ p (h : p < z.length), i + Y.length ≤ p → z[p] = 0) → (decDigits (be X * be Y)).length ≤ X.length + Y.length + 1 →
      PWholeMul.spec_WholeMul.l0 k x0 x1 (S X) (S Y) z (i : Int) = some (S (signedB (b0 != b1) (decDigits (be X * be Y)))) := by
  induction n with
  | zero =>
    intro k i z hi hk hl hd hinv hzero hlen
    obtain ⟨k, rfl⟩ : ∃ m, k = m + 1 := ⟨k - 1, by omega⟩
    have hix : i = X.length := by omega
    subst hix
    rw [Nat.mod_eq_of_lt (be_lt X hX)] at hinv
    have hz0 : z ≠ [] := fun e => by rw [e] at hl; simp at hl
    rw [PWholeMul.spec_WholeMul.l0, if_neg (by rw [S_size]; omega), h0, Option.bind_some, h1, Option.bind_some, textOf_f z hd hz0 (by omega) k (by omega), Option.bind_some, hinv]
    have e : ((be X : Int) * (be Y : Int)).toNat = be X * be Y := by rw [← Int.natCast_mul]; exact Int.toNat_natCast _
    rw [e, signed_f _ k _ (by omega) (by omega)]
    rfl
  | succ n ih =>
    intro k i z hi hk hl hd hinv hzero hlen
    rw [Nat.succ_mul] at hk
    obtain ⟨k, rfl⟩ : ∃ m, k = m + 1 := ⟨k - 1, by omega⟩
    have hil : i < X.length := by omega
    rw [PWholeMul.spec_WholeMul.l0, if_pos (by rw [S_size]; omega)]
    obtain ⟨k', z', h1, h2, h3, h4, h5, h6⟩ := wm_l1 x0 x1 X Y hX hY hXm hYm i hil Y.length k 0 z 0 (by omega) (by omega) hl hd (by omega) (by omega) (by rw [hinv]; simp [Nat.mod_one]) hzero
    have h7 : PWholeMul.spec_WholeMul.l1 k x0 x1 (S X) (S Y) z (i : Int) 0 0 = PWholeMul.spec_WholeMul.l0 k' x0 x1 (S X) (S Y) z' ((i + 1 : Nat) : Int) := h6
    rw [h7]
    exact ih k' (i + 1) z' (by omega) (by omega) h2 h3 h4 h5 hlen
theorem decDigits_len (n L : Nat) (h : n < 10 ^ L) : (decDigits n).length ≤ L + 1 := by
  by_cases h0 : n = 0
  · subst h0; rw [decDigits_zero]; simp
  · have hh := head_decDigits n h0
    have hd := isDig_decDigits n
    have hv := be_decDigits n
    cases hx : decDigits n with
    | nil => simp
    | cons c r =>
      rw [hx] at hh hd hv
      have h2 := be_pos hd (fun e => hh (by simp [e]))
      rw [hv] at h2
      have h3 : r.length < L := by
        by_cases hlt : r.length < L
        · exact hlt
        · have : 10 ^ L ≤ 10 ^ r.length := Nat.pow_le_pow_right (by decide) (by omega)
          omega
      simp only [List.length_cons]; omega
theorem prod_len (X Y : List UInt8) (hX : isDig X) (hY : isDig Y) : (decDigits (be X * be Y)).length ≤ X.length + Y.length + 1 := by
  refine decDigits_len _ _ ?_
  have h1 := be_lt X hX
  have h2 := be_lt Y hY
  rw [Nat.pow_add]
  exact Nat.mul_lt_mul'' h1 h2
theorem signedB_prod (m n : Int) : signedB (decide (m < 0) != decide (n < 0)) (decDigits (m.natAbs * n.natAbs)) = itoa (m * n) := by
  rw [signed_eq _ _ (isDig_decDigits _) (decDigits_ne_nil _), be_decDigits]
  congr 1
  rw [← Int.natAbs_mul]
  rcases Int.lt_or_le m 0 with hm | hm <;> rcases Int.lt_or_le n 0 with hn | hn
  · have := Int.mul_pos_of_neg_of_neg hm hn
    simp [hm, hn]; omega
  · have := Int.mul_nonpos_of_nonpos_of_nonneg (Int.le_of_lt hm) hn
    rw [decide_eq_true hm, decide_eq_false (by omega)]; simp; omega
  · have := Int.mul_nonpos_of_nonneg_of_nonpos hm (Int.le_of_lt hn)
    rw [decide_eq_true hn, decide_eq_false (by omega)]; simp; omega
  · have := Int.mul_nonneg hm hn
    rw [decide_eq_false (by omega), decide_eq_false (by omega)]; simp; omega
theorem wholeMul_f (m n : Int) (hm : (itoa m).length ≤ 100000) (hn : (itoa n).length ≤ 100000) :
    ∃ k, PWholeMul.spec_WholeMul.f k (S (itoa m)) (S (itoa n)) = some (S (itoa (m * n))) := by
  have hX := isDig_decDigits m.natAbs
  have hY := isDig_decDigits n.natAbs
  have hXl : (decDigits m.natAbs).length ≤ 100000 := by rw [← digits_itoa]; exact Nat.le_trans (Spec.digitsB_le _) hm
  have hYl : (decDigits n.natAbs).length ≤ 100000 := by rw [← digits_itoa]; exact Nat.le_trans (Spec.digitsB_le _) hn
  refine ⟨(decDigits m.natAbs).length * (2 * (decDigits n.natAbs).length + 6) + 2 * ((decDigits m.natAbs).length + (decDigits n.natAbs).length + 1) + 10, ?_⟩
  unfold PWholeMul.spec_WholeMul.f
  rw [digitsOf_f, Option.bind_some, digitsOf_f, Option.bind_some, digits_itoa, digits_itoa, S_size, S_size, w64 (((decDigits m.natAbs).length : Int) + ((decDigits n.natAbs).length : Int)) (by omega) (by omega), w64 _ (by omega) (by omega), if_pos (by omega), if_pos (by omega)]
  have e : (((decDigits m.natAbs).length : Int) + ((decDigits n.natAbs).length : Int) + 1).toNat = (decDigits m.natAbs).length + (decDigits n.natAbs).length + 1 := by omega
  rw [e]
  have hp := prod_len _ _ hX hY
  have h := wm_l0 (S (itoa m)) (S (itoa n)) _ _ hX hY (by omega) (by omega) (belowB (itoa m)) (belowB (itoa n)) (below_f _) (below_f _) (decDigits m.natAbs).length _ 0
    (List.replicate ((decDigits m.natAbs).length + (decDigits n.natAbs).length + 1) 0) (by omega) (Nat.le_refl _) (by simp) (fun d hd => by rw [List.eq_of_mem_replicate hd]; omega) (by
      have : ∀ k : Nat, le (List.replicate k 0) = 0 := fun k => by induction k with
        | zero => rfl
        | succ k ih => simp [List.replicate_succ, le, ih]
      rw [this]; simp [Nat.mod_one]) (fun p h _ => by simp) hp
  rw [be_decDigits, be_decDigits, below_itoa, below_itoa, signedB_prod] at h
  exact h
theorem wholeMul_any (m n : Int) (s t : ByteArray) (hs : s = S (itoa m)) (ht : t = S (itoa n)) (hm : (itoa m).length ≤ 80000) (hn : (itoa n).length ≤ 80000) (w : World) :
    Calls Tryz.prog 22 #[.string s, .string t] w fun e w' => e = .returned (.string (S (itoa (m * n)))) ∧ Below w.heap.size w w' := by
  subst hs; subst ht
  obtain ⟨k, hk⟩ := wholeMul_f m n (by omega) (by omega)
  refine (PWholeMul.spec_WholeMul.calls k _ _ _ w hk).mono ?_
  rintro e w' ⟨rfl, hd⟩
  exact ⟨rfl, hd⟩
end Go.Proofs.YtaiidipcmnejoaaGreatDoor.WmulP

namespace Go.Proofs.YtaiidipcmnejoaaGreatDoor.LawMul
open Go.RowKit Go.Lib Go.Proofs.YtaiidipcmnejoaaGreatDoorW.PrintWords Go.Proofs.YtaiidipcmnejoaaGreatDoorW.PrintLast Go.Proofs.YtaiidipcmnejoaaGreatDoorW.PrintMore
open Go.Proofs.YtaiidipcmnejoaaGreatDoor.Nt Go.Proofs.YtaiidipcmnejoaaGreatDoor.Dec Go.Proofs.YtaiidipcmnejoaaGreatDoor.IntW Go.Proofs.YtaiidipcmnejoaaGreatDoor.NumW Go.Proofs.YtaiidipcmnejoaaGreatDoor.NumV Go.Proofs.YtaiidipcmnejoaaGreatDoor.WholeW Go.Proofs.YtaiidipcmnejoaaGreatDoor.LawW
open Go.Proofs.YtaiidipcmnejoaaGreatDoor.Spec (S S_list S_toList S_size S_of S_ext)
theorem fnBigMul_any (a b : ByteArray) (w : World) (hE : Env w) : Calls Tryz.prog 5 #[.string a, .string b] w fun e w' => e = .returned (.bool true) ∧ Below w.heap.size w w' := by
  by_cases hbig : (2147483647 : Int) < a.size
  · have f1 : decide ((2147483647 : Int) < (a.size : Int)) = true := decide_eq_true hbig
    clear hbig hE
    go_enter Tryz.func5, Tryz.ntmps5
    go_wp2_with fail
    go_ret
    exact ⟨rfl, Below.refl _ _⟩
  by_cases hbig2 : (2147483647 : Int) < b.size
  · have f1 : decide ((2147483647 : Int) < (a.size : Int)) = false := decide_eq_false hbig
    have f2 : decide ((2147483647 : Int) < (b.size : Int)) = true := decide_eq_true hbig2
    clear hbig hbig2 hE
    go_enter Tryz.func5, Tryz.ntmps5
    go_wp2_with fail
    go_ret
    exact ⟨rfl, Below.refl _ _⟩
  have f1 : decide ((2147483647 : Int) < (a.size : Int)) = false := decide_eq_false hbig
  have f2 : decide ((2147483647 : Int) < (b.size : Int)) = false := decide_eq_false hbig2
  have HE := Lib.hid hE
  have HW := Lib.hid (wide_calls a b (by omega) (by omega) w)
  clear hbig hbig2 hE
  go_enter Tryz.func5, Tryz.ntmps5
  go_wp2_with fail
  refine HW.out.mono ?_
  rintro e w1 ⟨r, rfl, hb, hr⟩
  have HB1 := Lib.hid hb; clear hb
  cases r with
  | false =>
    clear hr
    go_wp2_with fail
    go_ret
    exact ⟨rfl, HB1.out⟩
  | true =>
    obtain ⟨m, n, rfl, rfl, hm, hn⟩ := hr rfl
    obtain ⟨s, hs⟩ : ∃ s, s = S (itoa m) := ⟨_, rfl⟩
    obtain ⟨t, ht⟩ : ∃ t, t = S (itoa n) := ⟨_, rfl⟩
    have HA := Lib.hid (fun w hE => OpMulW.bigMul m n s t hs ht (by omega) (by omega) w hE)
    have HX := Lib.hid (fun w => WmulP.wholeMul_any m n s t hs ht (by omega) (by omega) w)
    rw [← hs, ← ht]
    clear hr hm hn hs ht HW
    go_wp2_with fail
    refine (HA.out w1 (HE.out.below HB1.out)).mono ?_
    rintro e w2 ⟨rfl, hb⟩
    have HB2 := Lib.hid (HB1.out.trans (hb.mono HB1.out.size)); clear hb
    go_wp2_with fail
    refine (HX.out _).mono ?_
    rintro e w3 ⟨rfl, hb⟩
    have HB3 := Lib.hid (HB2.out.trans (hb.mono HB2.out.size)); clear hb
    go_wp2_with fail
    refine (exact_any _ _).mono ?_
    rintro e w4 ⟨rfl, hb⟩
    have HB4 := Lib.hid (HB3.out.trans (hb.mono HB3.out.size)); clear hb
    go_wp2_with fail
    go_ret
    exact ⟨rfl, HB4.out⟩
end Go.Proofs.YtaiidipcmnejoaaGreatDoor.LawMul
