/-
Floats that are a whole number of halves: fw h is the word of h / 2. Their order, sums, differences, doubles, halves and whole parts are those of the numbers. Plain: nothing of a program.
-/
import Derived.Laws.FloatArith
namespace Go.Proofs.YtdcgjfiknknjfaaGreatDoor.FloH
open Ieee

/-- The magnitude q has the 53 digits m, the first of them at place L. -/
def Ex (q L m : Nat) : Prop := m * 2 ^ L = q * 4503599627370496 ∧ 4503599627370496 ≤ m ∧ m < 9007199254740992
theorem Ex.pos {q L m : Nat} (h : Ex q L m) : 0 < q := by
  obtain ⟨h1, h2, _⟩ := h
  have : 0 < m * 2 ^ L := Nat.mul_pos (by omega) (Nat.two_pow_pos _)
  omega
theorem Ex.range {q L m : Nat} (h : Ex q L m) : 2 ^ L ≤ q ∧ q < 2 ^ (L + 1) := by
  obtain ⟨h1, h2, h3⟩ := h
  constructor
  · have : 4503599627370496 * 2 ^ L ≤ m * 2 ^ L := Nat.mul_le_mul_right _ h2
    omega
  · have h4 : m * 2 ^ L < 9007199254740992 * 2 ^ L := Nat.mul_lt_mul_of_pos_right h3 (Nat.two_pow_pos _)
    have : 2 ^ (L + 1) = 2 ^ L * 2 := Nat.pow_succ ..
    omega
theorem Ex.log {q L m : Nat} (h : Ex q L m) : q.log2 = L := by
  have h0 := h.pos
  exact (Nat.log2_eq_iff (by omega)).2 h.range
theorem cut_exact (neg : Bool) (a d : Nat) (ha : 0 < a) : Toward.even.cut neg (a * 2 ^ d) d = a := by
  have hl : d ≤ (a * 2 ^ d).log2 := by
    rw [Nat.le_log2 (by have : 0 < a * 2 ^ d := Nat.mul_pos ha (Nat.two_pow_pos _); omega)]
    calc 2 ^ d = 1 * 2 ^ d := by omega
      _ ≤ a * 2 ^ d := Nat.mul_le_mul_right _ ha
  unfold Toward.cut
  have hm : min d ((a * 2 ^ d).log2 + 2) = d := by omega
  rw [hm, Nat.one_shiftLeft]
  dsimp only
  have h1 : a * 2 ^ d / 2 ^ d = a := Nat.mul_div_cancel _ (Nat.two_pow_pos _)
  have h2 : a * 2 ^ d % 2 ^ d = 0 := Nat.mul_mod_left ..
  rw [h1, h2]
  have h3 : 0 < 2 ^ d := Nat.two_pow_pos _
  have h4 : (decide (2 ^ d < 2 * 0) || (2 ^ d == 2 * 0 && a % 2 == 1)) = false := by
    have : (2 ^ d == 2 * 0) = false := by rw [beq_eq_false_iff_ne]; omega
    rw [this, Bool.false_and, Bool.or_false, decide_eq_false]; omega
  simp only [h4]
  rfl
theorem nearest_ex (neg : Bool) (q : Nat) (p : Int) {L m : Nat} (h : Ex q L m) (h1 : -1022 ≤ p + L) (h2 : p + L ≤ 1000) :
    double.nearest neg q p = double.word neg ((p + L + 1022).toNat * 4503599627370496 + m) := by
  have h0 := h.pos
  have hl := h.log
  obtain ⟨e1, e2, e3⟩ := h
  unfold Format.nearest
  rw [if_neg (by omega)]
  dsimp only
  rw [hl]
  have c1 : double.leastPlace = -1074 := by decide
  have c2 : ((double.fractionBits : Nat) : Int) = 52 := rfl
  have c3 : double.binade = 4503599627370496 := by decide
  have c4 : double.infRung = 9218868437227405312 := by decide
  rw [c1, c2, c3, c4]
  have c5 : max (p + L - 52) (-1074) = p + L - 52 := by omega
  rw [c5]
  have key : Toward.even.cut neg (q <<< (p - (p + L - 52)).toNat) (p + L - 52 - p).toNat = m := by
    by_cases hL : L ≤ 52
    · have s1 : (p - (p + L - 52)).toNat = 52 - L := by omega
      have s2 : (p + L - 52 - p).toNat = 0 := by omega
      rw [s1, s2, Nat.shiftLeft_eq]
      have s3 : q * 2 ^ (52 - L) = m := by
        apply Nat.eq_of_mul_eq_mul_right (Nat.two_pow_pos L)
        rw [Nat.mul_assoc, ← Nat.pow_add, e1, show 52 - L + L = 52 from by omega]
      have s4 : m = m * 2 ^ 0 := by omega
      rw [s3]
      conv => lhs; rw [s4]
      exact cut_exact neg m 0 (by omega)
    · have s1 : (p - (p + L - 52)).toNat = 0 := by omega
      have s2 : (p + L - 52 - p).toNat = L - 52 := by omega
      rw [s1, s2, Nat.shiftLeft_eq]
      have s3 : q * 2 ^ 0 = m * 2 ^ (L - 52) := by
        apply Nat.eq_of_mul_eq_mul_right (show 0 < 4503599627370496 by omega)
        rw [Nat.pow_zero, Nat.mul_one, ← e1]
        have : (4503599627370496 : Nat) = 2 ^ 52 := by decide
        rw [this, Nat.mul_assoc, ← Nat.pow_add, show L - 52 + 52 = L from by omega]
      rw [s3]
      exact cut_exact neg m (L - 52) (by omega)
  rw [key]
  congr 1
  have s5 : (p + L - 52 - -1074).toNat = (p + L + 1022).toNat := by omega
  rw [s5]
  apply Nat.min_eq_left
  have : (p + L + 1022).toNat ≤ 2022 := by omega
  omega
theorem read_word (neg : Bool) (E m : Nat) (h1 : 4503599627370496 ≤ m) (h2 : m < 9007199254740992) (hE : E ≤ 2022) :
    double.read (double.word neg (E * 4503599627370496 + m)) = .number neg m ((E : Int) - 1074) := by
  have c0 : double.signWeight = 9223372036854775808 := by decide
  have c1 : double.leastPlace = -1074 := by decide
  have c3 : double.binade = 4503599627370496 := by decide
  have c4 : double.infRung = 9218868437227405312 := by decide
  unfold Format.read Format.word
  rw [c0, c1, c3, c4]
  dsimp only
  obtain ⟨r, hr⟩ : ∃ r, r = E * 4503599627370496 + m := ⟨_, rfl⟩
  rw [← hr]
  have hb : r < 9218868437227405312 := by omega
  have hge : 4503599627370496 ≤ r := by omega
  have w1 : (if neg = true then 9223372036854775808 + r else r) % 9223372036854775808 = r := by cases neg <;> simp only [Bool.false_eq_true, if_false, if_true] <;> omega
  have w2 : ((if neg = true then 9223372036854775808 + r else r) / 9223372036854775808 % 2 == 1) = neg := by
    cases neg
    · simp only [Bool.false_eq_true, if_false, beq_eq_false_iff_ne]; omega
    · simp only [if_true, beq_iff_eq]; omega
  rw [w1, w2, if_neg (by omega), if_pos hb]
  have d1 : r % 4503599627370496 = m - 4503599627370496 := by omega
  have d2 : r / 4503599627370496 = E + 1 := by omega
  have g1 : 4503599627370496 + (m - 4503599627370496) = m := by omega
  have g2 : (-1074 : Int) + ((E + 1 - 1 : Nat) : Int) = (E : Int) - 1074 := by omega
  rw [d1, d2, g1, g2]

/-- The word of h / 2. -/
def fw (h : Int) : Nat := double.nearest (decide (h < 0)) h.natAbs (-1)
/-- h / 2 is a float. -/
def HE (h : Int) : Prop := h = 0 ∨ ∃ L m, Ex h.natAbs L m ∧ L ≤ 100
theorem ex_small (q : Nat) (h0 : 0 < q) (h1 : q < 9007199254740992) : ∃ L m, Ex q L m ∧ L ≤ 52 := by
  have hl : q.log2 ≤ 52 := by
    have : q.log2 < 53 := (Nat.log2_lt (by omega)).2 (by omega)
    omega
  have r1 := Nat.log2_self_le (n := q) (by omega)
  have r2 := Nat.lt_log2_self (n := q)
  refine ⟨q.log2, q * 2 ^ (52 - q.log2), ⟨?_, ?_, ?_⟩, hl⟩
  · rw [Nat.mul_assoc, ← Nat.pow_add, show 52 - q.log2 + q.log2 = 52 from by omega]
  · have : 2 ^ q.log2 * 2 ^ (52 - q.log2) ≤ q * 2 ^ (52 - q.log2) := Nat.mul_le_mul_right _ r1
    rw [← Nat.pow_add, show q.log2 + (52 - q.log2) = 52 from by omega] at this
    omega
  · have : q * 2 ^ (52 - q.log2) < 2 ^ (q.log2 + 1) * 2 ^ (52 - q.log2) := Nat.mul_lt_mul_of_pos_right r2 (Nat.two_pow_pos _)
    rw [← Nat.pow_add, show q.log2 + 1 + (52 - q.log2) = 53 from by omega] at this
    omega
theorem Ex.two {q L m : Nat} (h : Ex q L m) : Ex (2 * q) (L + 1) m := by
  obtain ⟨h1, h2, h3⟩ := h
  refine ⟨?_, h2, h3⟩
  rw [Nat.pow_succ]
  have : m * (2 ^ L * 2) = m * 2 ^ L * 2 := by rw [Nat.mul_assoc]
  omega
theorem he_small (h : Int) (h1 : -9007199254740992 ≤ h) (h2 : h ≤ 9007199254740992) : HE h := by
  by_cases h0 : h = 0
  · exact .inl h0
  by_cases hq : h.natAbs = 9007199254740992
  · exact .inr ⟨53, 4503599627370496, ⟨by rw [hq], by omega, by omega⟩, by omega⟩
  · obtain ⟨L, m, hE, hL⟩ := ex_small h.natAbs (by omega) (by omega)
    exact .inr ⟨L, m, hE, by omega⟩
theorem he_two (h : Int) (hh : HE h) (hs : -1000000000000000000000 ≤ h) (hs2 : h ≤ 1000000000000000000000) : HE (2 * h) := by
  rcases hh with rfl | ⟨L, m, hE, hL⟩
  · exact .inl (by omega)
  · refine .inr ⟨L + 1, m, by rw [show (2 * h).natAbs = 2 * h.natAbs by omega]; exact hE.two, ?_⟩
    have := hE.range.1
    have : L < 70 := by
      refine Classical.byContradiction fun hn => ?_
      have : 2 ^ 70 ≤ 2 ^ L := Nat.pow_le_pow_right (by omega) (by omega)
      omega
    omega
theorem he_even (n : Int) (h1 : -9007199254740992 ≤ n) (h2 : n ≤ 9007199254740992) : HE (2 * n) := by
  by_cases hq : n.natAbs = 9007199254740992
  · refine .inr ⟨54, 4503599627370496, ⟨?_, by omega, by omega⟩, by omega⟩
    rw [show (2 * n).natAbs = 18014398509481984 by omega]
  · exact he_two n (he_small n (by omega) (by omega)) (by omega) (by omega)
theorem read_fw (h : Int) (hh : HE h) : ∃ (m : Nat) (i : Int), double.read (fw h) = .number (decide (h < 0)) m i ∧ -1074 ≤ i ∧ i ≤ 50 ∧ (∀ b : Int, b ≤ i → b ≤ -1 → m * 2 ^ (i - b).toNat = h.natAbs * 2 ^ (-1 - b).toNat) ∧ (h ≠ 0 → 4503599627370496 ≤ m ∧ m < 9007199254740992 ∧ -53 ≤ i) ∧ (h = 0 → m = 0) := by
  rcases hh with rfl | ⟨L, m, hE, hL⟩
  · refine ⟨0, -1074, by decide, by omega, by omega, fun b _ _ => by simp, fun h => absurd rfl h, fun _ => rfl⟩
  · have h0 := hE.pos
    have e := hE
    obtain ⟨e1, e2, e3⟩ := e
    refine ⟨m, (L : Int) - 53, ?_, by omega, by omega, ?_, fun _ => ⟨e2, e3, by omega⟩, fun h => by omega⟩
    · unfold fw
      rw [nearest_ex _ _ _ hE (by omega) (by omega), read_word _ _ _ e2 e3 (by omega)]
      congr 1
      omega
    · intro b hb hb1
      apply Nat.eq_of_mul_eq_mul_right (show 0 < 4503599627370496 * 2 ^ L from Nat.mul_pos (by omega) (Nat.two_pow_pos _))
      have k : (4503599627370496 : Nat) = 2 ^ 52 := by decide
      have a1 : m * 2 ^ ((L : Int) - 53 - b).toNat * (4503599627370496 * 2 ^ L) = m * 2 ^ L * (2 ^ ((L : Int) - 53 - b).toNat * 4503599627370496) := by ac_rfl
      have a2 : h.natAbs * 2 ^ (-1 - b).toNat * (4503599627370496 * 2 ^ L) = h.natAbs * 4503599627370496 * (2 ^ (-1 - b).toNat * 2 ^ L) := by ac_rfl
      rw [a1, a2, e1]
      congr 1
      rw [k, ← Nat.pow_add, ← Nat.pow_add]
      congr 1
      omega
theorem write_fw (h : Int) (hh : HE h) (neg : Bool) (mag : Nat) (base b : Int) (h1 : b ≤ base) (h2 : b ≤ -1) (hv : mag * 2 ^ (base - b).toNat = h.natAbs * 2 ^ (-1 - b).toNat) (hs : neg = decide (h < 0)) :
    double.write (.number neg mag base) = fw h := by
  subst hs
  show double.nearest _ mag base = _
  unfold fw
  rcases hh with rfl | ⟨L, m, hE, hL⟩
  · have : mag = 0 := by
      rcases Nat.mul_eq_zero.1 (hv.trans (by simp)) with h | h
      · exact h
      · have := Nat.two_pow_pos (base - b).toNat; omega
    subst this
    unfold Format.nearest
    rw [if_pos rfl, show Int.natAbs 0 = 0 from rfl, if_pos rfl]
  · have h0 := hE.pos
    have hr := hE.range
    have hm0 : 0 < mag := by
      refine Nat.pos_of_ne_zero fun e => ?_
      subst e
      have : 0 < h.natAbs * 2 ^ (-1 - b).toNat := Nat.mul_pos h0 (Nat.two_pow_pos _)
      omega
    have hx : (base - b).toNat < L + 1 + (-1 - b).toNat := by
      refine (Nat.pow_lt_pow_iff_right (a := 2) (by omega)).1 ?_
      calc 2 ^ (base - b).toNat = 1 * 2 ^ (base - b).toNat := by omega
        _ ≤ mag * 2 ^ (base - b).toNat := Nat.mul_le_mul_right _ hm0
        _ = h.natAbs * 2 ^ (-1 - b).toNat := hv
        _ < 2 ^ (L + 1) * 2 ^ (-1 - b).toNat := Nat.mul_lt_mul_of_pos_right hr.2 (Nat.two_pow_pos _)
        _ = 2 ^ (L + 1 + (-1 - b).toNat) := (Nat.pow_add ..).symm
    have e := hE
    obtain ⟨e1, e2, e3⟩ := e
    obtain ⟨L', hL'⟩ : ∃ L' : Nat, base + L' = -1 + L := ⟨(L - 1 - base).toNat, by omega⟩
    have hE' : Ex mag L' m := by
      refine ⟨?_, e2, e3⟩
      apply Nat.eq_of_mul_eq_mul_right (Nat.two_pow_pos (base - b).toNat)
      have a2 : mag * 4503599627370496 * 2 ^ (base - b).toNat = mag * 2 ^ (base - b).toNat * 4503599627370496 := by ac_rfl
      have a3 : h.natAbs * 2 ^ (-1 - b).toNat * 4503599627370496 = h.natAbs * 4503599627370496 * 2 ^ (-1 - b).toNat := by ac_rfl
      rw [a2, hv, a3, ← e1, Nat.mul_assoc, Nat.mul_assoc, ← Nat.pow_add, ← Nat.pow_add]
      congr 2
      omega
    rw [nearest_ex _ _ _ hE (by omega) (by omega), nearest_ex _ _ _ hE' (by omega) (by omega), hL']

theorem signed_val (h : Int) (s : Bool) (m u c y : Nat) (hs : s = decide (h < 0)) (hm : m * 2 ^ (u + c) = h.natAbs * 2 ^ y) : signed s m u * ((2 ^ c : Nat) : Int) = h * ((2 ^ y : Nat) : Int) := by
  have e : ((m <<< u : Nat) : Int) * ((2 ^ c : Nat) : Int) = (h.natAbs : Int) * ((2 ^ y : Nat) : Int) := by
    rw [← Int.natCast_mul, ← Int.natCast_mul, Nat.shiftLeft_eq, Nat.mul_assoc, ← Nat.pow_add, hm]
  unfold signed
  subst hs
  by_cases h0 : h < 0
  · rw [if_pos (decide_eq_true h0), Int.neg_mul, e, show (h.natAbs : Int) = -h by omega, Int.neg_mul, Int.neg_neg]
  · rw [if_neg (by simpa using h0), e, show (h.natAbs : Int) = h by omega]
theorem compare_scale {a b h k P Y : Int} (hP : 0 < P) (hY : 0 < Y) (e1 : a * P = h * Y) (e2 : b * P = k * Y) : compare a b = compare h k := by
  have l : a < b ↔ h < k := by
    rw [← Int.mul_lt_mul_right hP, e1, e2, Int.mul_lt_mul_right hY]
  have q : a = b ↔ h = k := by
    constructor
    · rintro rfl
      exact Int.eq_of_mul_eq_mul_right (by omega) (e1.symm.trans e2)
    · rintro rfl
      exact Int.eq_of_mul_eq_mul_right (by omega) (e1.trans e2.symm)
  show compareOfLessAndEq a b = compareOfLessAndEq h k
  unfold compareOfLessAndEq
  simp only [l, q]
theorem both (h k : Int) (hh : HE h) (hk : HE k) : ∃ (m n : Nat) (i j : Int) (P Y : Nat) (b : Int), double.read (fw h) = .number (decide (h < 0)) m i ∧ double.read (fw k) = .number (decide (k < 0)) n j ∧ 0 < P ∧ 0 < Y ∧ P = 2 ^ (min i j - b).toNat ∧ Y = 2 ^ (-1 - b).toNat ∧ b ≤ min i j ∧ b ≤ -1 ∧
    signed (decide (h < 0)) m (i - min i j).toNat * (P : Int) = h * (Y : Int) ∧ signed (decide (k < 0)) n (j - min i j).toNat * (P : Int) = k * (Y : Int) ∧ (h = 0 → m = 0) ∧ (k = 0 → n = 0) := by
  obtain ⟨m, i, r1, a1, a2, a3, a4, a5⟩ := read_fw h hh
  obtain ⟨n, j, r2, b1, b2, b3, b4, b5⟩ := read_fw k hk
  refine ⟨m, n, i, j, _, _, min (min i j) (-1), r1, r2, Nat.two_pow_pos _, Nat.two_pow_pos _, rfl, rfl, by omega, by omega, ?_, ?_, a5, b5⟩
  · refine signed_val h _ m _ _ _ rfl ?_
    rw [← a3 (min (min i j) (-1)) (by omega) (by omega)]
    congr 2
    omega
  · refine signed_val k _ n _ _ _ rfl ?_
    rw [← b3 (min (min i j) (-1)) (by omega) (by omega)]
    congr 2
    omega
theorem order_fw (h k : Int) (hh : HE h) (hk : HE k) : double.order (fw h) (fw k) = some (compare h k) := by
  obtain ⟨m, n, i, j, P, Y, b, r1, r2, p1, p2, _, _, _, _, e1, e2, _⟩ := both h k hh hk
  unfold Format.order
  rw [r1, r2]
  show some (compare _ _) = _
  rw [compare_scale (by omega) (by omega) e1 e2]
theorem sum_core (h k : Int) (h1 h2 : Bool) (t P Y : Int) (base b : Int) (hP : 0 < P) (hY : 0 < Y) (hPe : P = ((2 ^ (base - b).toNat : Nat) : Int)) (hYe : Y = ((2 ^ (-1 - b).toNat : Nat) : Int)) (hb : b ≤ base) (hb1 : b ≤ -1) (ht : t * P = (h + k) * Y) (hz : h + k = 0 → (h1 && h2) = false) (hE : HE (h + k)) :
    double.write (.number (if t = 0 then h1 && h2 else decide (t < 0)) t.natAbs base) = fw (h + k) := by
  have z : t = 0 ↔ h + k = 0 := by
    constructor
    · rintro rfl
      rw [Int.zero_mul] at ht
      rcases Int.mul_eq_zero.1 ht.symm with h | h <;> omega
    · intro e
      rw [e, Int.zero_mul] at ht
      rcases Int.mul_eq_zero.1 ht with h | h <;> omega
  have l : t < 0 ↔ h + k < 0 := by
    have l1 : t * P < 0 * P ↔ t < 0 := Int.mul_lt_mul_right hP
    have l2 : (h + k) * Y < 0 * Y ↔ h + k < 0 := Int.mul_lt_mul_right hY
    rw [← l1, ← l2, ht, Int.zero_mul, Int.zero_mul]
  refine write_fw (h + k) hE _ _ base b hb hb1 ?_ ?_
  · have := congrArg Int.natAbs ht
    rw [Int.natAbs_mul, Int.natAbs_mul, hPe, hYe, Int.natAbs_natCast, Int.natAbs_natCast] at this
    exact this
  · by_cases e : t = 0
    · rw [if_pos e, hz (z.1 e)]
      have := z.1 e
      exact (decide_eq_false (by omega)).symm
    · rw [if_neg e]
      exact decide_eq_decide.2 l
theorem add_fw (h k : Int) (hh : HE h) (hk : HE k) (hE : HE (h + k)) : double.add (fw h) (fw k) = some (fw (h + k)) := by
  obtain ⟨m, n, i, j, P, Y, b, r1, r2, p1, p2, q1, q2, u1, u2, e1, e2, z1, z2⟩ := both h k hh hk
  unfold Format.add
  rw [r1, r2]
  show some (double.write _) = _
  congr 1
  refine sum_core h k _ _ _ P Y (min i j) b (by omega) (by omega) (by rw [q1]) (by rw [q2]) u1 u2 (by rw [Int.add_mul, Int.add_mul, e1, e2]) ?_ hE
  intro e
  by_cases c : h < 0
  · rw [decide_eq_false (show ¬ k < 0 by omega), Bool.and_false]
  · rw [decide_eq_false c, Bool.false_and]
theorem signed_not (s : Bool) (m u : Nat) : signed (!s) m u = -signed s m u := by
  unfold signed
  cases s <;> simp
theorem sub_fw (h k : Int) (hh : HE h) (hk : HE k) (hE : HE (h - k)) : double.sub (fw h) (fw k) = some (fw (h - k)) := by
  obtain ⟨m, n, i, j, P, Y, b, r1, r2, p1, p2, q1, q2, u1, u2, e1, e2, z1, z2⟩ := both h k hh hk
  unfold Format.sub
  rw [r1, r2]
  show some (double.write (.number (if _ = 0 then _ else _) _ _)) = _
  have e0 : h - k = h + -k := by omega
  rw [e0] at hE ⊢
  congr 1
  refine sum_core h (-k) _ _ _ P Y (min i j) b (by omega) (by omega) (by rw [q1]) (by rw [q2]) u1 u2 ?_ ?_ hE
  · rw [signed_not, Int.add_mul, Int.add_mul, e1, Int.neg_mul, e2, Int.neg_mul]
  · intro e
    by_cases c : h < 0
    · rw [decide_eq_true (show k < 0 by omega)]; simp
    · rw [decide_eq_false c, Bool.false_and]
/-- The word of 2. -/
theorem two_read : double.read 4611686018427387904 = .number false 4503599627370496 (-51) := by decide
theorem double_fw (h : Int) (hh : HE h) (hE : HE (2 * h)) : double.mul 4611686018427387904 (fw h) = some (fw (2 * h)) := by
  obtain ⟨m, i, r1, a1, a2, a3, a4, a5⟩ := read_fw h hh
  unfold Format.mul
  rw [r1, two_read]
  show some (double.write (.number _ _ _)) = _
  congr 1
  refine write_fw (2 * h) hE _ _ _ (min (-51 + i) (-1)) (by omega) (by omega) ?_ ?_
  · have := a3 (min (-51 + i) (-1)) (by omega) (by omega)
    obtain ⟨b, hb⟩ : ∃ b, b = min (-51 + i) (-1) := ⟨_, rfl⟩
    rw [← hb] at this ⊢
    rw [show (2 * h).natAbs = 2 * h.natAbs by omega, Nat.mul_assoc 2, ← this]
    have k : (4503599627370496 : Nat) = 2 ^ 52 := by decide
    have a6 : 4503599627370496 * m * 2 ^ (-51 + i - b).toNat = m * (2 ^ (-51 + i - b).toNat * 2 ^ 52) := by rw [k]; ac_rfl
    have a7 : 2 * (m * 2 ^ (i - b).toNat) = m * (2 ^ (i - b).toNat * 2 ^ 1) := by rw [Nat.pow_one]; ac_rfl
    rw [a6, a7, ← Nat.pow_add, ← Nat.pow_add]
    congr 2
    omega
  · rw [Bool.false_xor]
    exact decide_eq_decide.2 (by omega)
theorem ofInt_fw (n : Int) (hE : HE (2 * n)) : floatOfInt .f64 n = fw (2 * n) := by
  show double.write (.number (decide (n < 0)) n.natAbs 0) = _
  refine write_fw (2 * n) hE _ _ _ (-1) (by omega) (by omega) ?_ (decide_eq_decide.2 (by omega))
  rw [show (2 * n).natAbs = n.natAbs * 2 by omega, show (0 - -1 : Int).toNat = 1 from rfl, show (-1 - -1 : Int).toNat = 0 from rfl, Nat.pow_one, Nat.pow_zero, Nat.mul_one]
theorem quot_core (s : Bool) (m : Nat) (i : Int) (h1 : 4503599627370496 ≤ m) (h2 : m < 9007199254740992) : Datum.quotient 54 (.number s m i) (.number false 4503599627370496 (-51)) = some (.number (s ^^ false) (2 * (m * 4)) (i - 4)) := by
  have hl : m.log2 = 52 := (Nat.log2_eq_iff (by omega)).2 ⟨by omega, by omega⟩
  have hl2 : Nat.log2 4503599627370496 = 52 := (Nat.log2_eq_iff (by omega)).2 ⟨by omega, by omega⟩
  obtain ⟨q, hq⟩ : ∃ q, q = 4503599627370496 := ⟨_, rfl⟩
  have d1 : m * 2 ^ 54 / q = m * 4 := by subst hq; omega
  have d2 : (m * 2 ^ 54 % q != 0) = false := by
    subst hq; rw [bne_eq_false_iff_eq]; omega
  rw [← hq] at hl2 ⊢
  have hq0 : ¬ q = 0 := by omega
  clear hq
  unfold Datum.quotient
  simp only
  rw [if_neg hq0, hl, hl2, show 54 + 52 - 52 = 54 from rfl, Nat.shiftLeft_eq, d1, d2]
  rw [Bool.toNat_false, Nat.add_zero, show i - -51 - ((54 : Nat) : Int) - 1 = i - 4 by omega]
theorem half_fw (h : Int) (h0 : h ≠ 0) (hE : HE h) (hE2 : HE (2 * h)) : double.div (fw (2 * h)) 4611686018427387904 = some (fw h) := by
  obtain ⟨m, i, r1, a1, a2, a3, a4, a5⟩ := read_fw (2 * h) hE2
  obtain ⟨g1, g2, g3⟩ := a4 (by omega)
  unfold Format.div
  rw [r1, two_read, show double.fractionBits + 2 = 54 from rfl, quot_core _ m i g1 g2]
  show some (double.write (.number _ _ _)) = _
  congr 1
  refine write_fw h hE _ _ _ (min (i - 4) (-1)) (by omega) (by omega) ?_ ?_
  · have := a3 (min (i - 4) (-1)) (by omega) (by omega)
    obtain ⟨b, hb⟩ : ∃ b, b = min (i - 4) (-1) := ⟨_, rfl⟩
    rw [← hb] at this ⊢
    rw [show (2 * h).natAbs = 2 * h.natAbs by omega, Nat.mul_assoc 2] at this
    apply Nat.eq_of_mul_eq_mul_left (show 0 < 2 by omega)
    rw [← this]
    have a6 : 2 * (2 * (m * 4) * 2 ^ (i - 4 - b).toNat) = m * (2 ^ (i - 4 - b).toNat * 2 ^ 4) := by
      have : (2 ^ 4 : Nat) = 16 := by decide
      rw [this]
      have : 2 * (2 * (m * 4) * 2 ^ (i - 4 - b).toNat) = 16 * (m * 2 ^ (i - 4 - b).toNat) := by
        generalize 2 ^ (i - 4 - b).toNat = z
        have : 2 * (m * 4) * z = 8 * (m * z) := by
          rw [show 2 * (m * 4) = 8 * m by omega, Nat.mul_assoc]
        omega
      rw [this]
      ac_rfl
    rw [a6, ← Nat.pow_add]
    congr 2
    omega
  · rw [Bool.xor_false]
    exact decide_eq_decide.2 (by omega)
theorem cut_zero_exact (neg : Bool) (a d : Nat) : Toward.zero.cut neg (a * 2 ^ d) d = a := by
  unfold Toward.cut
  by_cases ha : a = 0
  · subst ha
    simp
  · have hl : d ≤ (a * 2 ^ d).log2 := by
      have h0 : 0 < a * 2 ^ d := Nat.mul_pos (by omega) (Nat.two_pow_pos _)
      rw [Nat.le_log2 (by omega)]
      calc 2 ^ d = 1 * 2 ^ d := by omega
        _ ≤ a * 2 ^ d := Nat.mul_le_mul_right _ (by omega)
    have hm : min d ((a * 2 ^ d).log2 + 2) = d := by omega
    rw [hm, Nat.one_shiftLeft]
    dsimp only
    have h1 : a * 2 ^ d / 2 ^ d = a := Nat.mul_div_cancel _ (Nat.two_pow_pos _)
    rw [h1]
    rfl
theorem integral_fw (n : Int) (hE : HE (2 * n)) : (double.read (fw (2 * n))).integral .zero = .number (decide (n < 0)) n.natAbs 0 := by
  obtain ⟨m, i, r1, a1, a2, a3, a4, a5⟩ := read_fw (2 * n) hE
  rw [r1]
  unfold Datum.integral
  simp only
  rw [show decide (2 * n < 0) = decide (n < 0) from decide_eq_decide.2 (by omega)]
  congr 1
  by_cases h0 : n = 0
  · rw [a5 (by omega)]
    subst h0
    rw [Nat.zero_shiftLeft]
    simp [Toward.cut]
  by_cases hi : 0 ≤ i
  · have h2 := a3 (-1) (by omega) (by omega)
    have e : (-i).toNat = 0 := by omega
    rw [e, Nat.shiftLeft_eq]
    have e2 : m * 2 ^ i.toNat = n.natAbs * 2 ^ 0 := by
      rw [show (2 * n).natAbs = 2 * n.natAbs by omega, show (-1 - -1 : Int).toNat = 0 from rfl, show (i - -1).toNat = i.toNat + 1 by omega, Nat.pow_succ] at h2
      have : m * (2 ^ i.toNat * 2) = m * 2 ^ i.toNat * 2 := by rw [Nat.mul_assoc]
      omega
    rw [e2]
    exact cut_zero_exact _ _ 0
  · have h2 := a3 i (by omega) (by omega)
    have e : i.toNat = 0 := by omega
    rw [e, Nat.shiftLeft_eq, Nat.pow_zero, Nat.mul_one]
    have e2 : m = n.natAbs * 2 ^ (-i).toNat := by
      rw [show (i - i).toNat = 0 by omega, Nat.pow_zero, Nat.mul_one, show (2 * n).natAbs = n.natAbs * 2 by omega, Nat.mul_assoc, ← Nat.pow_succ'] at h2
      rw [h2]
      congr 2
      omega
    rw [e2]
    exact cut_zero_exact _ _ _
/-- The whole part of a whole number is the number. -/
theorem trunc_fw (n : Int) (hE : HE (2 * n)) : FloatKind.f64.encode ((FloatKind.f64.decode (fw (2 * n))).integral .zero) = fw (2 * n) := by
  show double.write ((double.read (fw (2 * n))).integral .zero) = _
  rw [integral_fw n hE]
  exact ofInt_fw n hE
theorem toInt_fw (n : Int) (hE : HE (2 * n)) (h1 : -9223372036854775808 ≤ n) (h2 : n ≤ 9223372036854775807) : floatToIntVal .f64 (fw (2 * n)) .i64 = some n := by
  unfold floatToIntVal
  have : (FloatKind.f64.decode (fw (2 * n))).toInt .zero = some n := by
    show (double.read (fw (2 * n))).toInt .zero = some n
    unfold Datum.toInt
    rw [integral_fw n hE]
    simp only [signed, Nat.shiftLeft_zero]
    by_cases c : n < 0
    · rw [if_pos (decide_eq_true c)]; congr 1; omega
    · rw [if_neg (by simpa using c)]; congr 1; omega
  rw [this]
  simp only
  rw [if_pos ⟨h1, h2⟩]
theorem word_lt (neg : Bool) (r : Nat) (h : r < 9223372036854775808) : double.word neg r ^^^ 9223372036854775808 = double.word (!neg) r := by
  have c0 : double.signWeight = 9223372036854775808 := by decide
  unfold Format.word
  rw [c0]
  have k : (9223372036854775808 : Nat) = 2 ^ 63 := by decide
  have e : 9223372036854775808 + r = 9223372036854775808 ^^^ r := by
    rw [k] at h ⊢
    apply Nat.eq_of_testBit_eq
    intro j
    rw [Nat.testBit_xor]
    by_cases hj : j < 63
    · rw [Nat.testBit_two_pow_add_gt hj, Nat.testBit_two_pow_of_ne (by omega), Bool.false_xor]
    · by_cases hj2 : j = 63
      · subst hj2
        rw [Nat.testBit_two_pow_add_eq, Nat.testBit_two_pow_self, Nat.testBit_lt_two_pow h]; rfl
      · have hr : r.testBit j = false := Nat.testBit_lt_two_pow (Nat.lt_of_lt_of_le h (Nat.pow_le_pow_right (by omega) (by omega)))
        rw [hr, Nat.testBit_two_pow_of_ne (by omega)]
        refine Nat.testBit_lt_two_pow (Nat.lt_of_lt_of_le (m := 2 ^ 64) ?_ (Nat.pow_le_pow_right (by omega) (by omega)))
        omega
  cases neg
  · simp only [Bool.false_eq_true, if_false, Bool.not_false, if_true]
    rw [e, Nat.xor_comm]
  · simp only [Bool.false_eq_true, if_false, Bool.not_true, if_true]
    rw [e, Nat.xor_comm, ← Nat.xor_assoc, Nat.xor_self, Nat.zero_xor]
/-- The opposite of a number that is not 0. -/
theorem neg_fw (h : Int) (h0 : h ≠ 0) (hE : HE h) : Op.negFloat .f64 (fw h) = fw (-h) := by
  rcases hE with rfl | ⟨L, m, hE, hL⟩
  · exact absurd rfl h0
  · have e := hE
    obtain ⟨e1, e2, e3⟩ := e
    unfold fw
    rw [Int.natAbs_neg, nearest_ex _ _ _ hE (by omega) (by omega), nearest_ex _ _ _ hE (by omega) (by omega)]
    show _ ^^^ 9223372036854775808 = _
    rw [word_lt _ _ (by omega)]
    congr 1
    by_cases c : h < 0
    · rw [decide_eq_true c, decide_eq_false (by omega)]; rfl
    · rw [decide_eq_false c, decide_eq_true (by omega)]; rfl
end Go.Proofs.YtdcgjfiknknjfaaGreatDoor.FloH
