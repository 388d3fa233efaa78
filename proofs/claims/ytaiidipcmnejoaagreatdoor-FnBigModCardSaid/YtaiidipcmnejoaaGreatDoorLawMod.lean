/- The law FnBigMod answers true at every two texts; with all that it rests on: long division, the rest of big integers, WholeDiv, WholeCmp. -/
import Derived.Test.YtaiidipcmnejoaaGreatDoorNatM
import Derived.Test.YtaiidipcmnejoaaGreatDoorDivE
import Derived.Test.YtaiidipcmnejoaaGreatDoorDivM
import Derived.Test.YtaiidipcmnejoaaGreatDoorIntM
import Derived.Test.YtaiidipcmnejoaaGreatDoorBinM
import Derived.Test.YtaiidipcmnejoaaGreatDoorWdAllM
import Derived.Test.YtaiidipcmnejoaaGreatDoorWholeM

/- Plain mathematics of long division by digits of 32 bits: the guess of a digit, the rounds of taking away and of putting back. No program. -/
set_option linter.unusedVariables false
set_option linter.unusedSimpArgs false
namespace Go.Proofs.YtaiidipcmnejoaaGreatDoor.Kn
theorem ring1 (a p v1 v2 u2 ur vr B M : Int) : a * (B * M) + u2 * M + ur - p * (v1 * (B * M) + v2 * M + vr) = ((a - p * v1) * B + u2 - p * v2) * M + ur - p * vr := by
 simp only [Int.add_mul, Int.sub_mul, Int.mul_add, Int.mul_assoc]
 omega
/-- The guess is too great. -/
theorem tooGreat {a p v1 v2 u2 ur vr B M : Int} (hM : 0 < M) (hur : ur < M) (hvr : 0 ≤ vr) (hp : 0 ≤ p) (h : (a - p * v1) * B + u2 < p * v2) :
  a * (B * M) + u2 * M + ur < p * (v1 * (B * M) + v2 * M + vr) := by
 have e := ring1 a p v1 v2 u2 ur vr B M
 have h1 : ((a - p * v1) * B + u2 - p * v2) * M ≤ (-1) * M := Int.mul_le_mul_of_nonneg_right (by omega) (by omega)
 have h2 : 0 ≤ p * vr := Int.mul_nonneg hp hvr
 omega
/-- The guess is at most one too great. -/
theorem nearly {a p v1 v2 u2 ur vr B M : Int} (hM : 0 < M) (hB : 0 < B) (hur : 0 ≤ ur) (hvr : 0 ≤ vr) (hvr1 : vr < M) (hv2 : 0 ≤ v2) (hv1 : 1 ≤ v1) (hp : 0 ≤ p) (hpB : p < B) (h : p * v2 ≤ (a - p * v1) * B + u2) :
  p * (v1 * (B * M) + v2 * M + vr) < a * (B * M) + u2 * M + ur + (v1 * (B * M) + v2 * M + vr) := by
 have e := ring1 a p v1 v2 u2 ur vr B M
 have h1 : 0 ≤ ((a - p * v1) * B + u2 - p * v2) * M := Int.mul_nonneg (by omega) (by omega)
 have h2 : p * vr ≤ B * vr := Int.mul_le_mul_of_nonneg_right (by omega) hvr
 have h3 : B * vr < B * M := Int.mul_lt_mul_of_pos_left hvr1 hB
 have h0 : 0 < B * M := Int.mul_pos hB hM
 have h4 : 1 * (B * M) ≤ v1 * (B * M) := Int.mul_le_mul_of_nonneg_right hv1 (by omega)
 have h5 : 0 ≤ v2 * M := Int.mul_nonneg hv2 (by omega)
 omega
/-- The first guess is not too small. -/
theorem first {a v1 v2 u2 ur vr B M : Int} (hM : 0 < M) (hB : 0 < B) (hur1 : ur < M) (hu2 : u2 < B) (hvr : 0 ≤ vr) (hv2 : 0 ≤ v2) (hv1 : 1 ≤ v1) (ha : 0 ≤ a) :
  a * (B * M) + u2 * M + ur < (a / v1 + 1) * (v1 * (B * M) + v2 * M + vr) := by
 obtain ⟨p, hp⟩ : ∃ p, p = a / v1 := ⟨_, rfl⟩
 have hp0 : 0 ≤ p := by rw [hp]; exact Int.ediv_nonneg ha (by omega)
 have hlt : a < (p + 1) * v1 := by rw [hp]; exact Int.lt_ediv_add_one_mul_self a (by omega)
 rw [← hp]
 have h0 : 0 < B * M := Int.mul_pos hB hM
 have h1 : (a + 1) * (B * M) ≤ ((p + 1) * v1) * (B * M) := Int.mul_le_mul_of_nonneg_right (by omega) (by omega)
 have h2 : (u2 + 1) * M ≤ B * M := Int.mul_le_mul_of_nonneg_right (by omega) (by omega)
 have h3 : 0 ≤ (p + 1) * (v2 * M + vr) := Int.mul_nonneg (by omega) (by have := Int.mul_nonneg hv2 (Int.le_of_lt hM); omega)
 have e : (p + 1) * (v1 * (B * M) + v2 * M + vr) = ((p + 1) * v1) * (B * M) + (p + 1) * (v2 * M + vr) := by
  rw [Int.add_assoc, Int.mul_add (p + 1), ← Int.mul_assoc]
 rw [e]
 rw [Int.add_mul] at h1 h2
 omega
/-- What the rest's first digits are. -/
theorem firstLt {a v1 v2 u2 ur vr B M : Int} (hM : 0 < M) (hB : 0 < B) (hur : 0 ≤ ur) (hu2 : 0 ≤ u2) (hvr1 : vr < M) (hv2 : v2 < B)
  (h : a * (B * M) + u2 * M + ur < (v1 * (B * M) + v2 * M + vr) * B) : a < (v1 + 1) * B := by
 have h0 : 0 < B * M := Int.mul_pos hB hM
 have h1 : 0 ≤ u2 * M := Int.mul_nonneg hu2 (by omega)
 have h2 : (v2 + 1) * M ≤ B * M := Int.mul_le_mul_of_nonneg_right (by omega) (by omega)
 rw [Int.add_mul] at h2
 have h3 : (v1 * (B * M) + v2 * M + vr) * B < ((v1 + 1) * (B * M)) * B := by
  refine Int.mul_lt_mul_of_pos_right ?_ hB
  rw [Int.add_mul v1 1]; omega
 have h4 : a * (B * M) < ((v1 + 1) * B) * (B * M) := by
  have : ((v1 + 1) * (B * M)) * B = ((v1 + 1) * B) * (B * M) := by
   rw [Int.mul_assoc (v1 + 1), Int.mul_assoc (v1 + 1), Int.mul_comm (B * M) B]
  omega
 exact Int.lt_of_mul_lt_mul_right h4 (by omega)
end Go.Proofs.YtaiidipcmnejoaaGreatDoor.Kn
namespace Go.Proofs.YtaiidipcmnejoaaGreatDoor.Kn
open Go.Proofs.YtaiidipcmnejoaaGreatDoor.Nt
theorem nvSet : ∀ (l : List Int) (p : Nat) (v : Int) (h : p < l.length), nv (l.set p v) = nv l + (v - l[p]) * 4294967296 ^ p
 | [], p, v, h => by simp at h
 | d :: l, 0, v, h => by simp [nv]; omega
 | d :: l, p + 1, v, h => by
  have hp : p < l.length := by simpa using h
  have ih := nvSet l p v hp
  simp only [List.set_cons_succ, nv, List.getElem_cons_succ, ih, Int.pow_succ, Int.mul_add]
  rw [show 4294967296 * ((v - l[p]) * 4294967296 ^ p) = (v - l[p]) * (4294967296 ^ p * 4294967296) by
   rw [Int.mul_comm 4294967296, Int.mul_assoc]]
  omega
theorem isUSet {l : List Int} (h : isU l) (p : Nat) (v : Int) (h0 : 0 ≤ v) (h1 : v < 4294967296) : isU (l.set p v) := fun x hx => by
 rcases List.mem_or_eq_of_mem_set hx with h2 | h2
 ·
  exact h x h2
 ·
  subst h2; exact ⟨h0, h1⟩
theorem zero_drop : ∀ (l : List Int), (∀ d ∈ l, d = 0) → nv l = 0
 | [], _ => rfl
 | d :: r, h => by
  rw [nv, h d (List.mem_cons_self ..), zero_drop r fun x hx => h x (List.mem_cons_of_mem _ hx)]; rfl
theorem nv_take_zero (z : List Int) (t : Nat) (h : ∀ p (hp : p < z.length), t ≤ p → z[p] = 0) : nv z = nv (z.take t) := by
 by_cases hl : t < z.length
 ·
  have e := List.take_append_drop t z
  have h2 : nv (z.drop t) = 0 := zero_drop _ fun d hd => by
   obtain ⟨i, hi, rfl⟩ := List.getElem_of_mem hd
   rw [List.getElem_drop]
   exact h _ _ (by omega)
  have h3 := nv_append (z.take t) (z.drop t)
  rw [e, h2, Int.zero_mul, Int.add_zero] at h3
  exact h3
 ·
  rw [List.take_of_length_le (by omega)]
theorem isU_take {l : List Int} (h : isU l) (k : Nat) : isU (l.take k) := fun x hx => h x (List.mem_of_mem_take hx)
theorem take_lt {l : List Int} (h : isU l) (k : Nat) (hk : k ≤ l.length) : 0 ≤ nv (l.take k) ∧ nv (l.take k) < 4294967296 ^ k := by
 have h1 := nv_lt _ (isU_take h k)
 rw [Nt.take_len l k hk] at h1
 exact ⟨nv_nonneg _ (isU_take h k), h1⟩
/-- The three highest digits. -/
theorem top3 (z : List Int) (m : Nat) (hl : m + 2 < z.length) (h : ∀ p (hp : p < z.length), m + 3 ≤ p → z[p] = 0) :
  nv z = (z[m + 2] * 4294967296 + z[m + 1]) * (4294967296 * 4294967296 ^ m) + z[m] * 4294967296 ^ m + nv (z.take m) := by
 have p1 : (4294967296 : Int) ^ (m + 1) = 4294967296 * 4294967296 ^ m := by rw [Int.pow_succ, Int.mul_comm]
 have p2 : (4294967296 : Int) ^ (m + 2) = 4294967296 * (4294967296 * 4294967296 ^ m) := by rw [← p1, Int.pow_succ, Int.mul_comm]
 rw [nv_take_zero z (m + 3) h, nv_take z (m + 2) hl, nv_take z (m + 1) (by omega), nv_take z m (by omega), p2, p1, Int.add_mul, Int.mul_assoc]
 omega
theorem top2 (v : List Int) (m : Nat) (hl : v.length = m + 2) : nv v = v[m + 1] * (4294967296 * 4294967296 ^ m) + v[m] * 4294967296 ^ m + nv (v.take m) := by
 have e : v.take (m + 2) = v := List.take_of_length_le (by omega)
 have h := nv_take v (m + 1) (by omega)
 rw [e] at h
 rw [h, nv_take v m (by omega), Int.pow_succ, Int.mul_comm (4294967296 ^ m) 4294967296]
 omega
/-- One round of taking p times a digit away. -/
theorem take_step (z v : List Int) (p c b : Int) (i j : Nat) (z0 : Int) (hz : isU z) (hv : isU v) (hi : i < v.length) (hj : i + j < z.length) (hp0 : 0 ≤ p) (hp1 : p < 4294967296) (hc0 : 0 ≤ c) (hc1 : c < 4294967296) (hb0 : 0 ≤ b) (hb1 : b ≤ 1)
  (hinv : nv z = z0 - p * nv (v.take i) * 4294967296 ^ j + (c + b) * 4294967296 ^ (i + j)) (s d : Int) (hs : s = c + p * v[i]) (hd : d = (z[i + j] - s % 4294967296 - b) % 18446744073709551616) :
  (0 ≤ p * v[i] ∧ 0 ≤ s ∧ s < 18446744073709551616 ∧ 0 ≤ s / 4294967296 ∧ s / 4294967296 < 4294967296 ∧ 0 ≤ d / 9223372036854775808 ∧ d / 9223372036854775808 ≤ 1) ∧
  nv (z.set (i + j) (d % 4294967296)) = z0 - p * nv (v.take (i + 1)) * 4294967296 ^ j + (s / 4294967296 + d / 9223372036854775808) * 4294967296 ^ (i + 1 + j) := by
 have hvi := hv v[i] (List.getElem_mem hi)
 have hzi := hz z[i + j] (List.getElem_mem hj)
 have h1 : 0 ≤ p * v[i] := Int.mul_nonneg hp0 hvi.1
 have h2 : p * v[i] ≤ 4294967295 * 4294967295 := Int.mul_le_mul (by omega) (by omega) hvi.1 (by omega)
 refine ⟨by omega, ?_⟩
 rw [nvSet z _ _ hj, hinv, nv_take v i hi, show i + 1 + j = (i + j) + 1 by omega, Int.pow_succ]
 obtain ⟨u, hu⟩ : ∃ u : Int, u = z[i + j] := ⟨_, rfl⟩
 obtain ⟨x, hx⟩ : ∃ x : Int, x = p * v[i] := ⟨_, rfl⟩
 have e1 : p * (nv (v.take i) + v[i] * 4294967296 ^ i) * 4294967296 ^ j = p * nv (v.take i) * 4294967296 ^ j + x * 4294967296 ^ (i + j) := by
  rw [Int.mul_add, Int.add_mul, ← Int.mul_assoc p v[i], ← hx, Int.mul_assoc x, ← Int.pow_add]
 rw [e1, ← hu]
 rw [← hx] at hs
 rw [← hu] at hd hzi
 have e2 : d % 4294967296 - u = - (s % 4294967296) - b + (d / 9223372036854775808) * 4294967296 := by omega
 have e3 : (s / 4294967296 + d / 9223372036854775808) * (4294967296 ^ (i + j) * 4294967296) = ((s / 4294967296 + d / 9223372036854775808) * 4294967296) * 4294967296 ^ (i + j) := by
  rw [Int.mul_comm (4294967296 ^ (i + j)) 4294967296, Int.mul_assoc]
 rw [e3, e2]
 have e4 : (c + b) * 4294967296 ^ (i + j) + (-(s % 4294967296) - b + d / 9223372036854775808 * 4294967296) * 4294967296 ^ (i + j) = (s / 4294967296 + d / 9223372036854775808) * 4294967296 * 4294967296 ^ (i + j) - x * 4294967296 ^ (i + j) := by
  rw [← Int.add_mul, ← Int.sub_mul]
  congr 1
  omega
 omega
/-- One round of putting back. -/
theorem back_step (z v : List Int) (c : Int) (i j : Nat) (z0 : Int) (hz : isU z) (hv : isU v) (hi : i < v.length) (hj : i + j < z.length) (hc0 : 0 ≤ c) (hc1 : c ≤ 1)
  (hinv : nv z = z0 + nv (v.take i) * 4294967296 ^ j - c * 4294967296 ^ (i + j)) (s : Int) (hs : s = c + (z[i + j] + v[i])) :
  (0 ≤ s ∧ s < 18446744073709551616 ∧ 0 ≤ s / 4294967296 ∧ s / 4294967296 ≤ 1) ∧
  nv (z.set (i + j) (s % 4294967296)) = z0 + nv (v.take (i + 1)) * 4294967296 ^ j - s / 4294967296 * 4294967296 ^ (i + 1 + j) := by
 have hvi := hv v[i] (List.getElem_mem hi)
 have hzi := hz z[i + j] (List.getElem_mem hj)
 refine ⟨by omega, ?_⟩
 rw [nvSet z _ _ hj, hinv, nv_take v i hi, show i + 1 + j = (i + j) + 1 by omega, Int.pow_succ]
 obtain ⟨u, hu⟩ : ∃ u : Int, u = z[i + j] := ⟨_, rfl⟩
 obtain ⟨x, hx⟩ : ∃ x : Int, x = v[i] := ⟨_, rfl⟩
 rw [← hu, ← hx] at hs
 rw [← hu, ← hx]
 have e1 : (nv (v.take i) + x * 4294967296 ^ i) * 4294967296 ^ j = nv (v.take i) * 4294967296 ^ j + x * 4294967296 ^ (i + j) := by
  rw [Int.add_mul, Int.mul_assoc x, ← Int.pow_add]
 have e3 : s / 4294967296 * (4294967296 ^ (i + j) * 4294967296) = (s / 4294967296 * 4294967296) * 4294967296 ^ (i + j) := by
  rw [Int.mul_comm (4294967296 ^ (i + j)) 4294967296, Int.mul_assoc]
 rw [e1, e3]
 have e4 : (s % 4294967296 - u) * 4294967296 ^ (i + j) + (s / 4294967296 * 4294967296) * 4294967296 ^ (i + j) = c * 4294967296 ^ (i + j) + x * 4294967296 ^ (i + j) := by
  rw [← Int.add_mul, ← Int.add_mul]
  congr 1
  omega
 omega
end Go.Proofs.YtaiidipcmnejoaaGreatDoor.Kn
namespace Go.Proofs.YtaiidipcmnejoaaGreatDoor.Kn
open Go.Proofs.YtaiidipcmnejoaaGreatDoor.Nt
theorem zeros_above (z : List Int) (k : Nat) (hz : isU z) (h : nv z < 4294967296 ^ k) : ∀ p (hp : p < z.length), k ≤ p → z[p] = 0 := by
 intro p hp hkp
 have e := List.take_append_drop p z
 have h1 := nv_append (z.take p) (z.drop p)
 rw [e, Nt.take_len z p (by omega), List.drop_eq_getElem_cons hp, nv] at h1
 have h2 := nv_nonneg _ (isU_take hz p)
 have h3 : 0 ≤ nv (z.drop (p + 1)) := nv_nonneg _ fun x hx => hz x (List.mem_of_mem_drop hx)
 have hzp := hz z[p] (List.getElem_mem hp)
 by_cases h0 : z[p] = 0
 ·
  exact h0
 ·
  exfalso
  have h4 : 1 * 4294967296 ^ p ≤ (z[p] + 4294967296 * nv (z.drop (p + 1))) * 4294967296 ^ p := Int.mul_le_mul_of_nonneg_right (by omega) (by have := W_pos p; omega)
  have h5 := W_mono hkp
  omega
theorem lt_of_zeros (z : List Int) (k : Nat) (hz : isU z) (hk : k ≤ z.length) (h : ∀ p (hp : p < z.length), k ≤ p → z[p] = 0) : nv z < 4294967296 ^ k := by
 rw [nv_take_zero z k h]
 exact (take_lt hz k hk).2
/-- The last digit of taking away. -/
theorem fin_sub (z : List Int) (t : Nat) (N D p c b : Int) (hz : isU z) (ht : t < z.length) (h0 : ∀ q (hq : q < z.length), t < q → z[q] = 0) (hc0 : 0 ≤ c) (hc1 : c < 4294967296) (hb0 : 0 ≤ b) (hb1 : b ≤ 1)
  (hinv : nv z = N - p * D + (c + b) * 4294967296 ^ t) (hN : 0 ≤ N) (hlo : N < (p + 1) * D) (hhi : p * D < N + D) (d : Int) (hd : d = (z[t] - c - b) % 18446744073709551616) :
  isU (z.set t (d % 4294967296)) ∧ (∀ q (hq : q < (z.set t (d % 4294967296)).length), t < q → (z.set t (d % 4294967296))[q] = 0) ∧
  ((d / 9223372036854775808 = 0 ∧ nv (z.set t (d % 4294967296)) = N - p * D ∧ 0 ≤ N - p * D ∧ N - p * D < D) ∨
   (d / 9223372036854775808 = 1 ∧ nv (z.set t (d % 4294967296)) = N - p * D + 4294967296 ^ (t + 1) ∧ N - p * D < 0)) := by
 have hzt := hz z[t] (List.getElem_mem ht)
 have hu := isUSet hz t (d % 4294967296) (by omega) (by omega)
 have h0' : ∀ q (hq : q < (z.set t (d % 4294967296)).length), t < q → (z.set t (d % 4294967296))[q] = 0 := by
  intro q hq htq
  rw [List.getElem_set, if_neg (by omega)]
  exact h0 q (by simpa using hq) htq
 have hv := nvSet z t (d % 4294967296) ht
 have e2 : d % 4294967296 - z[t] = -(c + b) + (d / 9223372036854775808) * 4294967296 := by omega
 rw [hinv, e2, Int.add_mul (-(c + b)), Int.neg_mul, Int.mul_assoc (d / 9223372036854775808), Int.mul_comm 4294967296, ← Int.pow_succ] at hv
 have hlt := lt_of_zeros _ (t + 1) hu (by simp; omega) (fun q hq h => h0' q hq (by omega))
 have hnn := nv_nonneg _ hu
 rw [Int.add_mul, Int.one_mul] at hlo
 refine ⟨hu, h0', ?_⟩
 rcases (show d / 9223372036854775808 = 0 ∨ d / 9223372036854775808 = 1 by omega) with h | h
 ·
  rw [h] at hv
  exact .inl ⟨h, by omega, by omega, by omega⟩
 ·
  rw [h] at hv
  exact .inr ⟨h, by omega, by omega⟩
/-- The last digit of putting back. -/
theorem fin_back (z : List Int) (t : Nat) (N D p c : Int) (hz : isU z) (ht : t < z.length) (h0 : ∀ q (hq : q < z.length), t < q → z[q] = 0) (hc0 : 0 ≤ c) (hc1 : c ≤ 1)
  (hinv : nv z = N - p * D + 4294967296 ^ (t + 1) + D - c * 4294967296 ^ t) (hneg : N - p * D < 0) (hhi : p * D < N + D) :
  isU (z.set t ((z[t] + c) % 4294967296)) ∧ (∀ q (hq : q < (z.set t ((z[t] + c) % 4294967296)).length), t < q → (z.set t ((z[t] + c) % 4294967296))[q] = 0) ∧
  nv (z.set t ((z[t] + c) % 4294967296)) = N - (p - 1) * D ∧ 0 ≤ N - (p - 1) * D ∧ N - (p - 1) * D < D := by
 have hzt := hz z[t] (List.getElem_mem ht)
 have hu := isUSet hz t ((z[t] + c) % 4294967296) (by omega) (by omega)
 have h0' : ∀ q (hq : q < (z.set t ((z[t] + c) % 4294967296)).length), t < q → (z.set t ((z[t] + c) % 4294967296))[q] = 0 := by
  intro q hq htq
  rw [List.getElem_set, if_neg (by omega)]
  exact h0 q (by simpa using hq) htq
 have hv := nvSet z t ((z[t] + c) % 4294967296) ht
 have e2 : (z[t] + c) % 4294967296 - z[t] = c - ((z[t] + c) / 4294967296) * 4294967296 := by omega
 rw [hinv, e2, Int.sub_mul, Int.mul_assoc, Int.mul_comm 4294967296, ← Int.pow_succ] at hv
 have hlt := lt_of_zeros _ (t + 1) hu (by simp; omega) (fun q hq h => h0' q hq (by omega))
 have hnn := nv_nonneg _ hu
 rw [Int.sub_mul, Int.one_mul]
 have hp := W_pos (t + 1)
 refine ⟨hu, h0', ?_⟩
 rcases (show (z[t] + c) / 4294967296 = 0 ∨ (z[t] + c) / 4294967296 = 1 by omega) with h | h
 ·
  rw [h] at hv
  exfalso; omega
 ·
  rw [h] at hv
  refine ⟨?_, ?_, ?_⟩ <;> omega
/-- A guess that is not too small, and at most one too great. -/
def Good (N D p : Int) : Prop := 0 ≤ p ∧ p < 4294967296 ∧ N < (p + 1) * D ∧ p * D < N + D
/-- The state of the search of the guess: t is what the highest digits leave. -/
def Guess (N D a v1 p t : Int) : Prop := 0 ≤ p ∧ 0 ≤ t ∧ t = a - p * v1 ∧ N < (p + 1) * D
theorem guess_first {a v1 v2 u2 ur vr M N D : Int} (hM : 0 < M) (hN : N = a * (4294967296 * M) + u2 * M + ur) (hD : D = v1 * (4294967296 * M) + v2 * M + vr) (hur1 : ur < M) (hu2 : u2 < 4294967296) (hvr : 0 ≤ vr) (hv2 : 0 ≤ v2) (hv1 : 1 ≤ v1) (ha : 0 ≤ a) :
  Guess N D a v1 (a / v1) (a % v1) := by
 refine ⟨Int.ediv_nonneg ha (by omega), Int.emod_nonneg _ (by omega), ?_, ?_⟩
 ·
  have := Int.mul_ediv_add_emod a v1
  rw [Int.mul_comm] at this; omega
 ·
  rw [hN, hD]; exact first hM (by omega) hur1 hu2 hvr hv2 hv1 ha
theorem guess_next {a v1 v2 u2 ur vr M N D p t : Int} (hM : 0 < M) (hN : N = a * (4294967296 * M) + u2 * M + ur) (hD : D = v1 * (4294967296 * M) + v2 * M + vr) (hur1 : ur < M) (hu20 : 0 ≤ u2) (hvr : 0 ≤ vr) (hv20 : 0 ≤ v2) (hv1 : 1 ≤ v1) (hlt : N < D * 4294967296)
  (hg : Guess N D a v1 p t) (h : 4294967296 ≤ p ∨ t * 4294967296 + u2 < p * v2) : Guess N D a v1 (p - 1) (t + v1) ∧ 1 ≤ p := by
 obtain ⟨hp, ht, hte, hlo⟩ := hg
 have h0 : 0 < 4294967296 * M := by omega
 have hD0 : 0 ≤ D := by
  rw [hD]
  have h1 := Int.mul_nonneg (show 0 ≤ v1 by omega) (Int.le_of_lt h0)
  have h2 := Int.mul_nonneg hv20 (Int.le_of_lt hM)
  omega
 have key : N < p * D := by
  rcases h with h | h
  ·
   have h1 : 4294967296 * D ≤ p * D := Int.mul_le_mul_of_nonneg_right h hD0
   rw [Int.mul_comm D] at hlt; omega
  ·
   rw [hN, hD]
   exact tooGreat hM hur1 hvr hp (by rw [← hte]; exact h)
 have hp1 : 1 ≤ p := by
  by_cases h1 : 1 ≤ p
  ·
   exact h1
  ·
   have : p = 0 := by omega
   subst this
   rcases h with h | h
   ·
    omega
   ·
    rw [Int.zero_mul] at h
    have := Int.mul_nonneg ht (show (0 : Int) ≤ 4294967296 by omega)
    omega
 refine ⟨⟨by omega, by omega, ?_, by rw [Int.sub_add_cancel]; exact key⟩, hp1⟩
 rw [hte, Int.sub_mul, Int.one_mul]; omega
theorem guess_good {a v1 v2 u2 ur vr M N D p t : Int} (hM : 0 < M) (hN : N = a * (4294967296 * M) + u2 * M + ur) (hD : D = v1 * (4294967296 * M) + v2 * M + vr) (hur0 : 0 ≤ ur) (hvr : 0 ≤ vr) (hvr1 : vr < M) (hv20 : 0 ≤ v2) (hv1 : 1 ≤ v1)
  (hg : Guess N D a v1 p t) (h1 : p < 4294967296) (h2 : p * v2 ≤ t * 4294967296 + u2) : Good N D p := by
 obtain ⟨hp, ht, hte, hlo⟩ := hg
 refine ⟨hp, h1, hlo, ?_⟩
 rw [hN, hD]
 exact nearly hM (by omega) hur0 hvr hvr1 hv20 hv1 hp h1 (by rw [← hte]; exact h2)
/-- The search ends too where the rest has more than one digit. -/
theorem guess_over {a v1 v2 u2 ur vr M N D p t : Int} (hM : 0 < M) (hN : N = a * (4294967296 * M) + u2 * M + ur) (hD : D = v1 * (4294967296 * M) + v2 * M + vr) (hur0 : 0 ≤ ur) (hu20 : 0 ≤ u2) (hvr : 0 ≤ vr) (hvr1 : vr < M) (hv20 : 0 ≤ v2) (hv2 : v2 < 4294967296) (hv1 : 1 ≤ v1) (hlt : N < D * 4294967296)
  (hg : Guess N D a v1 p t) (h : 4294967296 ≤ t) : Good N D p := by
 obtain ⟨hp, ht, hte, hlo⟩ := hg
 have ha := firstLt (a := a) (v1 := v1) (v2 := v2) (u2 := u2) (ur := ur) (vr := vr) (B := 4294967296) (M := M) hM (by omega) hur0 hu20 hvr1 hv2 (by rw [← hN, ← hD]; exact hlt)
 have h1 : p < 4294967296 := by
  by_cases h1 : p < 4294967296
  ·
   exact h1
  ·
   have : 4294967296 * v1 ≤ p * v1 := Int.mul_le_mul_of_nonneg_right (by omega) (by omega)
   rw [Int.add_mul, Int.mul_comm v1] at ha; omega
 refine guess_good hM hN hD hur0 hvr hvr1 hv20 hv1 ⟨hp, ht, hte, hlo⟩ h1 ?_
 have h3 : p * v2 ≤ 4294967295 * 4294967295 := Int.mul_le_mul (by omega) (by omega) hv20 (by omega)
 omega
end Go.Proofs.YtaiidipcmnejoaaGreatDoor.Kn

/- Plain mathematics: what the long division of digit lists gives. No program. -/
set_option linter.unusedVariables false
set_option linter.unusedSimpArgs false
namespace Go.Proofs.YtaiidipcmnejoaaGreatDoor.DivP
open Go.RowKit Go.Lib Go.Proofs.YtaiidipcmnejoaaGreatDoorW.PrintWords Go.Proofs.YtaiidipcmnejoaaGreatDoorW.PrintLast Go.Proofs.YtaiidipcmnejoaaGreatDoorW.PrintMore
open Go.Proofs.YtaiidipcmnejoaaGreatDoor.Nt Go.Proofs.YtaiidipcmnejoaaGreatDoor.Kn

/-! ### The same functions, printed twice -/
theorem norm_f (k : Nat) (l : List Int) (h : isU l) (hl : l.length ≤ 140737488355328) (hk : l.length < k) : ∃ r, Pdiv.smallbig_nat_norm.f k l = some r ∧ isN r ∧ nv r = nv l ∧ r.length ≤ l.length := by
 unfold Pdiv.smallbig_nat_norm.f
 exact norm_g Pdiv.smallbig_nat_norm.l0 (fun _ _ => rfl) k l h hl hk

/-! ### How many bits -/
theorem bitLen_l0 (n : Nat) : ∀ (d : Int) (k : Nat) (x : Int), 0 ≤ d → d < 2 ^ n → n < k → 0 ≤ x → x + n ≤ 4611686018427387904 →
  ∃ b : Nat, b ≤ n ∧ Pdiv.smallbig_nat_bitLen.l0 k x d = some (x + (b : Int)) ∧ d < 2 ^ b ∧ (0 < d → (2 : Int) ^ b ≤ 2 * d) ∧ (d = 0 → b = 0) := by
 induction n with
 | zero =>
  intro d k x h0 h1 hk hx0 hx1
  obtain ⟨k, rfl⟩ : ∃ m, k = m + 1 := ⟨k - 1, by omega⟩
  have hd : d = 0 := by simp at h1; omega
  subst hd
  exact ⟨0, Nat.le_refl _, by rw [Pdiv.smallbig_nat_bitLen.l0, if_pos rfl]; simp, by simp, fun h => by omega, fun _ => rfl⟩
 | succ n ih =>
  intro d k x h0 h1 hk hx0 hx1
  obtain ⟨k, rfl⟩ : ∃ m, k = m + 1 := ⟨k - 1, by omega⟩
  by_cases hd : d = 0
  ·
   subst hd
   exact ⟨0, by omega, by rw [Pdiv.smallbig_nat_bitLen.l0, if_pos rfl]; simp, by simp, fun h => by omega, fun _ => rfl⟩
  ·
   rw [Int.pow_succ] at h1
   obtain ⟨b, hb, e, h2, h3, h4⟩ := ih (d / 2) k (x + 1) (by omega) (by omega) (by omega) (by omega) (by omega)
   refine ⟨b + 1, by omega, ?_, ?_, ?_, fun h => absurd h hd⟩
   ·
    rw [Pdiv.smallbig_nat_bitLen.l0, if_neg hd, w64 _ (by omega) (by omega), e]
    congr 1; omega
   ·
    rw [Int.pow_succ]; omega
   ·
    intro _
    rw [Int.pow_succ]
    by_cases h : d / 2 = 0
    ·
     rw [h4 h]; simp; omega
    ·
     have := h3 (by omega); omega
/-- The shift that sets the highest bit. -/
theorem shift_f (y : List Int) (hy : isN y) (hm : y.length ≤ 1000000) (h0 : y ≠ []) (k : Nat) (hk : 40 ≤ k) :
  ∃ s : Nat, s ≤ 31 ∧ Pdiv.smallbig_nat_bitLen.f k y = some (32 * (y.length : Int) - (s : Int)) ∧ 2147483648 * 4294967296 ^ (y.length - 1) ≤ nv y * 2 ^ s ∧ nv y * 2 ^ s < 4294967296 ^ y.length := by
 rcases snoc_cases y with rfl | ⟨r, d, rfl⟩
 ·
  exact absurd rfl h0
 have hd0 : d ≠ 0 := fun e => hy.2 (by rw [e]; simp)
 have hd := isU_right hy.1 d (by simp)
 have hlen : (r ++ [d]).length = r.length + 1 := by simp
 have hrd : rd (r ++ [d]) (r.length : Int) = d := by rw [rd_at _ _ (by simp)]; simp
 obtain ⟨b, hb, e, h2, h3, h4⟩ := bitLen_l0 32 d k (32 * (r.length : Int)) hd.1 (by omega) (by omega) (by omega) (by rw [hlen] at hm; omega)
 have hb1 : 1 ≤ b := by
  by_cases h : 1 ≤ b
  ·
   exact h
  ·
   have : b = 0 := by omega
   subst this; simp at h2; omega
 have hp : (2 : Int) ^ b * 2 ^ (32 - b) = 4294967296 := by rw [← Int.pow_add, show b + (32 - b) = 32 by omega]; rfl
 have hp2 : (0 : Int) < 2 ^ (32 - b) := Int.pow_pos (by omega)
 have hlt := nv_lt r (isU_left hy.1)
 have hnn := nv_nonneg r (isU_left hy.1)
 have hW := W_pos r.length
 refine ⟨32 - b, by omega, ?_, ?_, ?_⟩
 ·
  unfold Pdiv.smallbig_nat_bitLen.f
  rw [hlen, if_neg (by omega), show (((r.length + 1 : Nat) : Int) - 1) = (r.length : Int) by omega, w64 _ (by omega) (by rw [hlen] at hm; omega), if_pos (by omega), if_pos (by omega), hrd, w64 _ (by omega) (by rw [hlen] at hm; omega), e]
  congr 1; omega
 ·
  rw [nv_snoc, hlen, Nat.add_sub_cancel]
  have h5 : 2147483648 ≤ d * 2 ^ (32 - b) := by
   have h6 : (2 : Int) ^ b * 2 ^ (32 - b) ≤ (2 * d) * 2 ^ (32 - b) := Int.mul_le_mul_of_nonneg_right (h3 (by omega)) (by omega)
   rw [hp, Int.mul_assoc] at h6; omega
  have h7 : 2147483648 * 4294967296 ^ r.length ≤ (d * 2 ^ (32 - b)) * 4294967296 ^ r.length := Int.mul_le_mul_of_nonneg_right h5 (by omega)
  have h8 : 0 ≤ nv r * 2 ^ (32 - b) := Int.mul_nonneg hnn (by omega)
  rw [Int.add_mul, Int.mul_right_comm d]
  omega
 ·
  rw [nv_snoc, hlen, Int.pow_succ]
  have h5 : (d + 1) * 2 ^ (32 - b) ≤ 2 ^ b * 2 ^ (32 - b) := Int.mul_le_mul_of_nonneg_right (by omega) (by omega)
  rw [hp] at h5
  have h6 : nv r + d * 4294967296 ^ r.length < (d + 1) * 4294967296 ^ r.length := by rw [Int.add_mul d 1]; omega
  have h7 : (nv r + d * 4294967296 ^ r.length) * 2 ^ (32 - b) < ((d + 1) * 4294967296 ^ r.length) * 2 ^ (32 - b) := Int.mul_lt_mul_of_pos_right h6 hp2
  rw [Int.mul_right_comm (d + 1)] at h7
  have h8 : ((d + 1) * 2 ^ (32 - b)) * 4294967296 ^ r.length ≤ 4294967296 * 4294967296 ^ r.length := Int.mul_le_mul_of_nonneg_right h5 (by omega)
  rw [Int.mul_comm (4294967296 ^ r.length) 4294967296]
  omega

/-! ### Shifts -/
theorem shl_s (x : Int) (s : Nat) (hs : s ≤ 31) (h0 : 0 ≤ x) (h1 : x < 4294967296) : shl .u64 x (s : Int) = x * 2 ^ s := by
 unfold shl
 rw [Int.toNat_natCast, Nat.min_eq_left (by show s ≤ 64; omega)]
 have h2 : (2 : Int) ^ s ≤ 2 ^ 31 := by
  have := Nat.pow_le_pow_right (show 0 < 2 by omega) hs
  exact_mod_cast this
 have h3 : (0 : Int) < 2 ^ s := Int.pow_pos (by omega)
 have h4 : x * 2 ^ s ≤ 4294967295 * 2 ^ 31 := Int.mul_le_mul (by omega) h2 (by omega) (by omega)
 exact u64w _ (Int.mul_nonneg h0 (by omega)) (by omega)
theorem or_plus (c e : Int) (s : Nat) (hs : s ≤ 31) (h0 : 0 ≤ c) (h1 : c < 2 ^ s) (h2 : 0 ≤ e) (h3 : e * 2 ^ s < 4294967296) : Go.bits .or .u32 c (e * 2 ^ s) = c + e * 2 ^ s := by
 have hp : (0 : Int) < 2 ^ s := Int.pow_pos (by omega)
 have h4 : 0 ≤ e * 2 ^ s := Int.mul_nonneg h2 (by omega)
 have h5 : (2 : Int) ^ s ≤ 2 ^ 31 := by
  have := Nat.pow_le_pow_right (show 0 < 2 by omega) hs
  exact_mod_cast this
 rw [u32_or _ _ h0 (by omega) h4 h3]
 have h6 : (e * 2 ^ s).toNat = 2 ^ s * e.toNat := by
  obtain ⟨n, rfl⟩ : ∃ n : Nat, e = n := ⟨e.toNat, by omega⟩
  rw [Int.toNat_natCast, Nat.mul_comm]
  have : ((n : Int) * 2 ^ s) = ((n * 2 ^ s : Nat) : Int) := by push_cast; rfl
  rw [this, Int.toNat_natCast]
 have h7 : c.toNat < 2 ^ s := by
  have : ((c.toNat : Nat) : Int) < ((2 ^ s : Nat) : Int) := by push_cast; omega
  exact_mod_cast this
 rw [h6, Nat.or_comm, ← Nat.two_pow_add_eq_or_of_lt h7, ← h6]
 omega
theorem lsh_l0 (x : List Int) (hx : isU x) (s : Nat) (hs : s ≤ 31) (hm : x.length ≤ 1000000) (n : Nat) : ∀ (k i : Nat) (z : List Int), i + n = x.length → n + x.length + 4 ≤ k → z.length = x.length + 1 → isU z → nv z = nv (x.take i) * 2 ^ s →
  (∀ p (h : p < z.length), p = i → z[p] < 2 ^ s) → (∀ p (h : p < z.length), i < p → z[p] = 0) →
  ∃ r, Pdiv.smallbig_nat_lsh.l0 k 0 (s : Int) z x (x.length : Int) (i : Int) = some r ∧ isN r ∧ nv r = nv x * 2 ^ s ∧ r.length ≤ x.length + 1 := by
 have hp : (0 : Int) < 2 ^ s := Int.pow_pos (by omega)
 induction n with
 | zero =>
  intro k i z hi hk hl hu hinv htop hzero
  obtain ⟨k, rfl⟩ : ∃ m, k = m + 1 := ⟨k - 1, by omega⟩
  have : i = x.length := by omega
  subst this
  rw [Pdiv.smallbig_nat_lsh.l0, if_neg (by omega)]
  obtain ⟨r, e, h2, h3, h4⟩ := norm_f k z hu (by omega) (by omega)
  rw [e, Option.bind_some]
  exact ⟨r, rfl, h2, by rw [h3, hinv, List.take_length], by omega⟩
 | succ n ih =>
  intro k i z hi hk hl hu hinv htop hzero
  obtain ⟨k, rfl⟩ : ∃ m, k = m + 1 := ⟨k - 1, by omega⟩
  have hix : i < x.length := by omega
  have hxi := hx x[i] (List.getElem_mem hix)
  have hz : i < z.length := by omega
  have hz1 : i + 1 < z.length := by omega
  have hzi := hu z[i] (List.getElem_mem hz)
  have hlt := htop i hz rfl
  have e2 : (i : Int) + 1 = ((i + 1 : Nat) : Int) := by omega
  obtain ⟨v, hv⟩ : ∃ v : Int, v = x[i] * 2 ^ s := ⟨_, rfl⟩
  have hv0 : 0 ≤ v := by rw [hv]; exact Int.mul_nonneg hxi.1 (by omega)
  have hps : (2 : Int) ^ s * 2 ^ (32 - s) = 4294967296 := by rw [← Int.pow_add, show s + (32 - s) = 32 by omega]; rfl
  have hp3 : (0 : Int) < 2 ^ (32 - s) := Int.pow_pos (by omega)
  have hmod : v % 4294967296 = (x[i] % 2 ^ (32 - s)) * 2 ^ s := by
   rw [hv, ← hps, Int.mul_comm x[i], Int.mul_emod_mul_of_pos _ _ hp, Int.mul_comm]
  have hdiv : v / 4294967296 < 2 ^ s := by
   apply Int.ediv_lt_of_lt_mul (by omega)
   rw [hv, Int.mul_comm]
   exact Int.mul_lt_mul_of_pos_left hxi.2 hp
  have hdiv0 : 0 ≤ v / 4294967296 := Int.ediv_nonneg hv0 (by omega)
  have hs31 : (2 : Int) ^ s ≤ 2 ^ 31 := by
   have := Nat.pow_le_pow_right (show 0 < 2 by omega) hs
   exact_mod_cast this
  have hor : Go.bits .or .u32 z[i] (v % 4294967296) = z[i] + v % 4294967296 := by
   rw [hmod]
   exact or_plus z[i] _ s hs hzi.1 hlt (Int.emod_nonneg _ (by omega)) (by rw [← hmod]; omega)
  have hsum : z[i] + v % 4294967296 < 4294967296 := by
   rw [hmod]
   have h1 : x[i] % 2 ^ (32 - s) < 2 ^ (32 - s) := Int.emod_lt_of_pos _ hp3
   have h2 : (x[i] % 2 ^ (32 - s) + 1) * 2 ^ s ≤ 2 ^ (32 - s) * 2 ^ s := Int.mul_le_mul_of_nonneg_right (by omega) (by omega)
   rw [Int.mul_comm (2 ^ (32 - s)), hps, Int.add_mul] at h2
   omega
  rw [Pdiv.smallbig_nat_lsh.l0, if_pos (by omega), if_pos (by omega), if_pos (by omega), if_pos (by omega), Int.add_zero, w64 (i : Int) (by omega) (by omega), if_pos (by omega), if_pos (by omega), e2, w64 _ (by omega) (by omega), if_pos (by omega), if_pos (by omega),
   rd_at _ _ hix, rd_at _ _ hz, u64w x[i] hxi.1 (by omega), shl_s x[i] s hs hxi.1 hxi.2, ← hv, Int.toNat_natCast, Int.toNat_natCast, hor, show v / 4294967296 % 4294967296 = v / 4294967296 by omega]
  have hl1 : i + 1 < (z.set i (z[i] + v % 4294967296)).length := by simp; omega
  have hu1 : isU (z.set i (z[i] + v % 4294967296)) := isUSet hu _ _ (by omega) hsum
  refine ih k (i + 1) _ (by omega) (by omega) (by simp [hl]) (isUSet hu1 _ _ hdiv0 (by omega)) ?_ ?_ ?_
  ·
   rw [nvSet _ _ _ hl1, nvSet z i _ hz, hinv, nv_take x i hix, List.getElem_set, if_neg (by omega), hzero _ hz1 (by omega), Int.add_mul, Int.mul_right_comm x[i], ← hv, Int.pow_succ]
   have e3 : (v / 4294967296 - 0) * (4294967296 ^ i * 4294967296) = (4294967296 * (v / 4294967296)) * 4294967296 ^ i := by
    rw [Int.sub_zero, Int.mul_comm (4294967296 ^ i) 4294967296, ← Int.mul_assoc, Int.mul_comm (v / 4294967296)]
   have e4 : z[i] + v % 4294967296 - z[i] = v % 4294967296 := by omega
   rw [e3, e4, Int.add_assoc, ← Int.add_mul]
   congr 2
   omega
  ·
   intro p h hpe
   subst hpe
   rw [List.getElem_set, if_pos rfl]; exact hdiv
  ·
   intro p h hpi
   rw [List.getElem_set, if_neg (by omega), List.getElem_set, if_neg (by omega)]
   exact hzero p (by simpa using h) (by omega)
theorem lsh_f (x : List Int) (hx : isN x) (s : Nat) (hs : s ≤ 31) (hm : x.length ≤ 1000000) (k : Nat) (hk : 2 * x.length + 4 ≤ k) :
  ∃ r, Pdiv.smallbig_nat_lsh.f k x (s : Int) = some r ∧ isN r ∧ nv r = nv x * 2 ^ s ∧ r.length ≤ x.length + 1 := by
 have et : Int.tdiv (s : Int) 32 = 0 := by rw [Int.tdiv_eq_ediv_of_nonneg (by omega)]; omega
 have em : Int.tmod (s : Int) 32 = (s : Int) := by rw [Int.tmod_eq_emod_of_nonneg (by omega)]; omega
 unfold Pdiv.smallbig_nat_lsh.f
 by_cases h0 : x = []
 ·
  subst h0
  exact ⟨[], by rw [if_pos (by simp)], isN_nil, by simp [nv], by simp⟩
 ·
  have hl : 1 ≤ x.length := by
   cases x with
   | nil => exact absurd rfl h0
   | cons _ _ => simp
  rw [if_neg (by omega), et, em, u64w 0 (by omega) (by omega), w64 0 (by omega) (by omega), Int.add_zero, w64 (x.length : Int) (by omega) (by omega), show ((x.length : Int) + 1) = ((x.length + 1 : Nat) : Int) by omega, w64 _ (by omega) (by omega), if_pos (by omega), Int.toNat_natCast, if_pos (by omega)]
  have hp : (0 : Int) < 2 ^ s := Int.pow_pos (by omega)
  exact lsh_l0 x hx.1 s hs hm x.length k 0 (List.replicate (x.length + 1) 0) (by omega) (by omega) (by simp) (isU_rep _) (by rw [nv_rep]; simp [nv]) (fun p h _ => by simp; exact hp) (fun p h _ => by simp)
theorem shr_s (x : Int) (s : Nat) (hs : s ≤ 31) : shr .u64 x (s : Int) = x / 2 ^ s := by
 unfold shr
 rw [Int.toNat_natCast, Nat.min_eq_left (by show s ≤ 64; omega)]
theorem or_low' (c d : Int) (h0 : 0 ≤ c) (h1 : c < 4294967296) (h2 : 0 ≤ d) (h3 : d < 4294967296) : Go.bits .or .u64 d (c * 4294967296) = c * 4294967296 + d := by
 rw [u64_or _ _ (by omega) (by omega) (by omega) (by omega)]
 have : (c * 4294967296).toNat = 2 ^ 32 * c.toNat := by omega
 rw [this, Nat.or_comm, ← Nat.two_pow_add_eq_or_of_lt (by omega : d.toNat < 2 ^ 32)]
 omega
theorem rsh_step (a b T : Int) (s : Nat) (hs : s ≤ 31) (ha0 : 0 ≤ a) (ha1 : a < 4294967296) (hb0 : 0 ≤ b) (hb1 : b < 4294967296) :
  ((b * 4294967296 + a) / 2 ^ s) % 4294967296 + 4294967296 * ((b + 4294967296 * T) / 2 ^ s) = (a + 4294967296 * (b + 4294967296 * T)) / 2 ^ s := by
 obtain ⟨P, hP⟩ : ∃ P : Int, P = 2 ^ s := ⟨_, rfl⟩
 obtain ⟨Q, hQ⟩ : ∃ Q : Int, Q = 2 ^ (32 - s) := ⟨_, rfl⟩
 have hPQ : P * Q = 4294967296 := by rw [hP, hQ, ← Int.pow_add, show s + (32 - s) = 32 by omega]; rfl
 have hP0 : 0 < P := by rw [hP]; exact Int.pow_pos (by omega)
 have hQ0 : 0 < Q := by rw [hQ]; exact Int.pow_pos (by omega)
 rw [← hP]
 have e1 : (b + 4294967296 * T) / P = b / P + Q * T := by rw [← hPQ, Int.mul_assoc, Int.add_mul_ediv_left _ _ (by omega)]
 have e2 : (b * 4294967296 + a) / P = a / P + Q * b := by rw [Int.add_comm, Int.mul_comm, ← hPQ, Int.mul_assoc, Int.add_mul_ediv_left _ _ (by omega)]
 have e3 : (a + 4294967296 * (b + 4294967296 * T)) / P = a / P + Q * (b + 4294967296 * T) := by
  have : a + 4294967296 * (b + 4294967296 * T) = a + P * (Q * (b + 4294967296 * T)) := by rw [← Int.mul_assoc, hPQ]
  rw [this, Int.add_mul_ediv_left _ _ (by omega)]
 rw [e1, e2, e3, Int.mul_add Q]
 obtain ⟨m, hm⟩ : ∃ m, m = b / P := ⟨_, rfl⟩
 obtain ⟨r, hr⟩ : ∃ r, r = b % P := ⟨_, rfl⟩
 have hb : b = P * m + r := by have := Int.mul_ediv_add_emod b P; rw [hm, hr]; omega
 have hr0 : 0 ≤ r := by rw [hr]; exact Int.emod_nonneg _ (by omega)
 have hr1 : r < P := by rw [hr]; exact Int.emod_lt_of_pos _ hP0
 have hq : Q * b = 4294967296 * m + Q * r := by rw [hb, Int.mul_add, ← Int.mul_assoc, Int.mul_comm Q P, hPQ]
 have hqr : Q * r ≤ Q * (P - 1) := Int.mul_le_mul_of_nonneg_left (by omega) (by omega)
 rw [Int.mul_sub, Int.mul_comm Q P, hPQ] at hqr
 have hqr0 : 0 ≤ Q * r := Int.mul_nonneg (by omega) hr0
 have haP : a / P < Q := Int.ediv_lt_of_lt_mul hP0 (by rw [Int.mul_comm, hPQ]; exact ha1)
 have haP0 : 0 ≤ a / P := Int.ediv_nonneg ha0 (by omega)
 have e4 : Q * (4294967296 * T) = 4294967296 * (Q * T) := by rw [← Int.mul_assoc, Int.mul_comm Q, Int.mul_assoc]
 rw [← hm, hq, e4]
 omega
theorem rsh_l0 (x : List Int) (hx : isU x) (s : Nat) (hs : s ≤ 31) (hm : x.length ≤ 1000000) (n : Nat) : ∀ (k i : Nat) (z : List Int), i + n = x.length → n + x.length + 4 ≤ k → z.length = x.length → isU z →
  nv z + (nv (x.drop i) / 2 ^ s) * 4294967296 ^ i = nv x / 2 ^ s → (∀ p (h : p < z.length), i ≤ p → z[p] = 0) →
  ∃ r, Pdiv.smallbig_nat_rsh.l0 k x (s : Int) z (x.length : Int) (i : Int) = some r ∧ isN r ∧ nv r = nv x / 2 ^ s ∧ r.length ≤ x.length := by
 have hp : (0 : Int) < 2 ^ s := Int.pow_pos (by omega)
 induction n with
 | zero =>
  intro k i z hi hk hl hu hinv hzero
  obtain ⟨k, rfl⟩ : ∃ m, k = m + 1 := ⟨k - 1, by omega⟩
  have : i = x.length := by omega
  subst this
  rw [Pdiv.smallbig_nat_rsh.l0, if_neg (by omega)]
  obtain ⟨r, e, h2, h3, h4⟩ := norm_f k z hu (by omega) (by omega)
  rw [e, Option.bind_some]
  rw [List.drop_length] at hinv
  simp only [nv, Int.zero_ediv, Int.zero_mul, Int.add_zero] at hinv
  exact ⟨r, rfl, h2, by rw [h3, hinv], by omega⟩
 | succ n ih =>
  intro k i z hi hk hl hu hinv hzero
  obtain ⟨k, rfl⟩ : ∃ m, k = m + 1 := ⟨k - 1, by omega⟩
  have hix : i < x.length := by omega
  have hxi := hx x[i] (List.getElem_mem hix)
  have hz : i < z.length := by omega
  have hz0 := hzero i hz (Nat.le_refl _)
  have e2 : (i : Int) + 1 = ((i + 1 : Nat) : Int) := by omega
  have hd : nv (x.drop i) = x[i] + 4294967296 * nv (x.drop (i + 1)) := by rw [List.drop_eq_getElem_cons hix, nv]
  -- what is stored
  have key : ∃ w : Int, 0 ≤ w ∧ w < 4294967296 ∧ w + 4294967296 * (nv (x.drop (i + 1)) / 2 ^ s) = nv (x.drop i) / 2 ^ s ∧
    Pdiv.smallbig_nat_rsh.l0 (k + 1) x (s : Int) z (x.length : Int) (i : Int) = Pdiv.smallbig_nat_rsh.l0 k x (s : Int) (z.set i w) (x.length : Int) ((i + 1 : Nat) : Int) := by
   by_cases h1 : i + 1 < x.length
   ·
    have hxj := hx x[i + 1] (List.getElem_mem h1)
    refine ⟨((x[i + 1] * 4294967296 + x[i]) / 2 ^ s) % 4294967296, by omega, by omega, ?_, ?_⟩
    ·
     have hd2 : nv (x.drop (i + 1)) = x[i + 1] + 4294967296 * nv (x.drop (i + 2)) := by rw [List.drop_eq_getElem_cons h1, nv]
     rw [hd, hd2]
     exact rsh_step _ _ _ s hs hxi.1 hxi.2 hxj.1 hxj.2
    ·
     rw [Pdiv.smallbig_nat_rsh.l0, if_pos (by omega), if_pos (by omega), if_pos (by omega), e2, w64 _ (by omega) (by omega), if_pos (by omega), if_pos (by omega), if_pos (by omega), if_pos (by omega), rd_at _ _ hix, rd_at _ _ h1, Int.toNat_natCast,
      u64w x[i] hxi.1 (by omega), u64w x[i + 1] hxj.1 (by omega), u64w (x[i + 1] * 4294967296) (by omega) (by omega), or_low' _ _ hxj.1 hxj.2 hxi.1 hxi.2, shr_s _ s hs]
   ·
    have he : i + 1 = x.length := by omega
    have hd2 : nv (x.drop (i + 1)) = 0 := by rw [he, List.drop_length]; rfl
    have hw0 : 0 ≤ x[i] / 2 ^ s := Int.ediv_nonneg hxi.1 (by omega)
    have hw1 : x[i] / 2 ^ s ≤ x[i] := Int.ediv_le_self _ hxi.1
    refine ⟨x[i] / 2 ^ s, hw0, by omega, ?_, ?_⟩
    ·
     rw [hd, hd2]; simp
    ·
     rw [Pdiv.smallbig_nat_rsh.l0, if_pos (by omega), if_pos (by omega), if_pos (by omega), e2, w64 _ (by omega) (by omega), if_neg (by omega), if_pos (by omega), if_pos (by omega), rd_at _ _ hix, Int.toNat_natCast,
      u64w x[i] hxi.1 (by omega), shr_s _ s hs, show x[i] / 2 ^ s % 4294967296 = x[i] / 2 ^ s by omega]
  obtain ⟨w, hw0, hw1, hw, e⟩ := key
  rw [e]
  refine ih k (i + 1) _ (by omega) (by omega) (by simp [hl]) (isUSet hu _ _ hw0 hw1) ?_ ?_
  ·
   rw [nvSet _ _ _ hz, hz0, Int.sub_zero, ← hinv, ← hw, Int.pow_succ, Int.add_mul, Int.mul_right_comm 4294967296, Int.mul_comm (4294967296 ^ i) 4294967296, ← Int.mul_assoc, Int.mul_comm (nv (x.drop (i + 1)) / 2 ^ s) 4294967296, Int.mul_right_comm 4294967296]
   omega
  ·
   intro p h hpi
   rw [List.getElem_set, if_neg (by omega)]
   exact hzero p (by simpa using h) (by omega)
theorem rsh_f (x : List Int) (hx : isN x) (s : Nat) (hs : s ≤ 31) (hm : x.length ≤ 1000000) (k : Nat) (hk : 2 * x.length + 4 ≤ k) :
  ∃ r, Pdiv.smallbig_nat_rsh.f k x (s : Int) = some r ∧ isN r ∧ nv r = nv x / 2 ^ s ∧ r.length ≤ x.length := by
 have et : Int.tdiv (s : Int) 32 = 0 := by rw [Int.tdiv_eq_ediv_of_nonneg (by omega)]; omega
 have em : Int.tmod (s : Int) 32 = (s : Int) := by rw [Int.tmod_eq_emod_of_nonneg (by omega)]; omega
 unfold Pdiv.smallbig_nat_rsh.f
 rw [et, em, u64w 0 (by omega) (by omega), u64w (x.length : Int) (by omega) (by omega)]
 by_cases h0 : x = []
 ·
  subst h0
  exact ⟨[], by rw [if_pos (by simp)], isN_nil, by simp [nv], by simp⟩
 ·
  have hl : 1 ≤ x.length := by
   cases x with
   | nil => exact absurd rfl h0
   | cons _ _ => simp
  rw [if_neg (by omega), if_pos (by omega), if_pos (by omega), show ((0 : Int)).toNat = 0 from rfl, List.drop_zero, if_pos (by omega), Int.toNat_natCast, if_pos (by omega)]
  exact rsh_l0 x hx.1 s hs hm x.length k 0 (List.replicate x.length 0) (by omega) (by omega) (by simp) (isU_rep _) (by rw [nv_rep]; simp) (fun p h _ => by simp)

/-! ### Long division -/
theorem sub_lt_of {m n : Nat} (h : m < n) : ((n : Int) - ((m + 1 : Nat) : Int)) = ((n - (m + 1) : Nat) : Int) := by omega
/-- The search of the guess. -/
theorem div_l1 (x4 v z : List Int) (s : Int) (hv : isU v) (hz : isU z) (m j : Nat) (hvl : v.length = m + 2) (hzl : m + 2 + j < z.length) (hzm : z.length ≤ 2000000) (N D a : Int) (ur vr M : Int)
  (hM : 0 < M) (hN : N = a * (4294967296 * M) + z[m + j] * M + ur) (hD : D = v[m + 1] * (4294967296 * M) + v[m] * M + vr) (hur0 : 0 ≤ ur) (hur1 : ur < M) (hvr0 : 0 ≤ vr) (hvr1 : vr < M)
  (hv1 : 2147483648 ≤ v[m + 1]) (hlt : N < D * 4294967296) (ha0 : 0 ≤ a) (ha1 : a < 18446744073709551616) (n : Nat) :
  ∀ (k : Nat) (p t : Int), Guess N D a v[m + 1] p t → t < 4294967296 → 4294967296 ≤ t + (n : Int) * 2147483648 → 2 * n + 2 ≤ k →
   ∃ (k' : Nat) (p' : Int), k ≤ k' + 2 * n ∧ Kn.Good N D p' ∧ Pdiv.smallbig_nat_div.l1 k x4 s v z ((m + 2 : Nat) : Int) (j : Int) p t = Pdiv.smallbig_nat_div.j3 k' x4 s v z ((m + 2 : Nat) : Int) (j : Int) p' := by
 have hm1 : m + 1 < v.length := by omega
 have hm0 : m < v.length := by omega
 have hmj : m + j < z.length := by omega
 have b1 := hv v[m + 1] (List.getElem_mem hm1)
 have b0 := hv v[m] (List.getElem_mem hm0)
 have bz := hz z[m + j] (List.getElem_mem hmj)
 have i1 : ((m + 2 : Nat) : Int) - 1 = ((m + 1 : Nat) : Int) := by omega
 have i2 : ((m + 2 : Nat) : Int) - 2 = ((m : Nat) : Int) := by omega
 have i3 : (j : Int) + ((m + 2 : Nat) : Int) = ((m + 2 + j : Nat) : Int) := by omega
 have i4 : ((m + 2 + j : Nat) : Int) - 2 = ((m + j : Nat) : Int) := by omega
 induction n with
 | zero => intro k p t _ h1 h2; omega
 | succ n ih =>
  intro k p t hg htB hmeas hk
  obtain ⟨k, rfl⟩ : ∃ m, k = m + 2 := ⟨k - 2, by omega⟩
  obtain ⟨hp0, ht0, hte, hlo⟩ := id hg
  have hpa : p ≤ a := by
   have : p * 1 ≤ p * v[m + 1] := Int.mul_le_mul_of_nonneg_left (by omega) hp0
   omega
  -- one more round
  have again : (4294967296 ≤ p ∨ t * 4294967296 + z[m + j] < p * v[m]) → ∃ (k' : Nat) (p' : Int), k + 2 ≤ k' + 2 * (n + 1) ∧ Kn.Good N D p' ∧ Pdiv.smallbig_nat_div.j2 (k + 1) x4 s v z ((m + 2 : Nat) : Int) (j : Int) p t true = Pdiv.smallbig_nat_div.j3 k' x4 s v z ((m + 2 : Nat) : Int) (j : Int) p' := by
   intro h
   obtain ⟨hg', hp1⟩ := guess_next hM hN hD hur1 bz.1 hvr0 b0.1 (by omega) hlt hg h
   rw [Pdiv.smallbig_nat_div.j2, if_pos rfl, i1, w64 _ (by omega) (by omega), if_pos (by omega), if_pos (by omega), rd_at _ _ hm1, u64w v[m + 1] b1.1 (by omega), u64w (t + v[m + 1]) (by omega) (by omega), u64w (p - 1) (by omega) (by omega)]
   by_cases hover : 4294967296 ≤ t + v[m + 1]
   ·
    rw [if_neg (by omega)]
    exact ⟨k, p - 1, by omega, guess_over hM hN hD hur0 bz.1 hvr0 hvr1 b0.1 b0.2 (by omega) hlt hg' hover, rfl⟩
   ·
    rw [if_pos (by omega)]
    obtain ⟨k', p', h1, h2, h3⟩ := ih k (p - 1) (t + v[m + 1]) hg' (by omega) (by rw [Int.natCast_succ, Int.add_mul] at hmeas; omega) (by omega)
    exact ⟨k', p', by omega, h2, h3⟩
  rw [Pdiv.smallbig_nat_div.l1]
  by_cases hpB : p < 4294967296
  ·
   have hpv0 : 0 ≤ p * v[m] := Int.mul_nonneg hp0 b0.1
   have hpv1 : p * v[m] ≤ 4294967295 * 4294967295 := Int.mul_le_mul (by omega) (by omega) b0.1 (by omega)
   rw [if_pos (by omega), i2, w64 ((m : Nat) : Int) (by omega) (by omega), if_pos (by omega), if_pos (by omega), i3, w64 ((m + 2 + j : Nat) : Int) (by omega) (by omega), i4, w64 ((m + j : Nat) : Int) (by omega) (by omega), if_pos (by omega), if_pos (by omega), rd_at _ _ hm0, rd_at _ _ hmj,
    u64w v[m] b0.1 (by omega), u64w (p * v[m]) hpv0 (by omega), u64w (t * 4294967296) (by omega) (by omega), u64w z[m + j] bz.1 (by omega), or_low _ _ ht0 htB bz.1 bz.2]
   by_cases hc : p * v[m] > t * 4294967296 + z[m + j]
   ·
    rw [decide_eq_true hc]
    exact again (.inr hc)
   ·
    rw [decide_eq_false hc, Pdiv.smallbig_nat_div.j2, if_neg (by decide)]
    exact ⟨k, p, by omega, guess_good hM hN hD hur0 hvr0 hvr1 b0.1 (by omega) hg hpB (by omega), rfl⟩
  ·
   rw [if_neg (by omega)]
   exact again (.inl (by omega))
/-- Taking away. -/
theorem div_l2 (x4 v : List Int) (s : Int) (hv : isU v) (j : Nat) (p : Int) (hp0 : 0 ≤ p) (hp1 : p < 4294967296) (z0 : Int) (L : Nat) (hL : v.length + j < L) (hLm : L ≤ 2000000) (n : Nat) :
  ∀ (k i : Nat) (z : List Int) (c b : Int), i + n = v.length → n ≤ k → z.length = L → isU z → 0 ≤ c → c < 4294967296 → 0 ≤ b → b ≤ 1 → (∀ q (hq : q < z.length), v.length + j < q → z[q] = 0) →
   nv z = z0 - p * nv (v.take i) * 4294967296 ^ j + (c + b) * 4294967296 ^ (i + j) →
   ∃ (k' : Nat) (z' : List Int) (c' b' : Int), k = k' + n ∧ z'.length = L ∧ isU z' ∧ 0 ≤ c' ∧ c' < 4294967296 ∧ 0 ≤ b' ∧ b' ≤ 1 ∧ (∀ q (hq : q < z'.length), v.length + j < q → z'[q] = 0) ∧
    nv z' = z0 - p * nv v * 4294967296 ^ j + (c' + b') * 4294967296 ^ (v.length + j) ∧
    Pdiv.smallbig_nat_div.l2 k x4 s v z (v.length : Int) (j : Int) p c b (i : Int) = Pdiv.smallbig_nat_div.l2 k' x4 s v z' (v.length : Int) (j : Int) p c' b' (v.length : Int) := by
 induction n with
 | zero =>
  intro k i z c b hi hk hl hu hc0 hc1 hb0 hb1 hzero hinv
  have : i = v.length := by omega
  subst this
  rw [List.take_length] at hinv
  exact ⟨k, z, c, b, rfl, hl, hu, hc0, hc1, hb0, hb1, hzero, hinv, rfl⟩
 | succ n ih =>
  intro k i z c b hi hk hl hu hc0 hc1 hb0 hb1 hzero hinv
  obtain ⟨k, rfl⟩ : ∃ m, k = m + 1 := ⟨k - 1, by omega⟩
  have hiv : i < v.length := by omega
  have hij : i + j < z.length := by omega
  have bz := hu z[i + j] (List.getElem_mem hij)
  have bv := hv v[i] (List.getElem_mem hiv)
  obtain ⟨sm, hs⟩ : ∃ x : Int, x = c + p * v[i] := ⟨_, rfl⟩
  obtain ⟨d, hd⟩ : ∃ x : Int, x = (z[i + j] - sm % 4294967296 - b) % 18446744073709551616 := ⟨_, rfl⟩
  obtain ⟨⟨h1, h2, h3, h4, h5, h6, h7⟩, h8⟩ := take_step z v p c b i j z0 hu hv hiv hij hp0 hp1 hc0 hc1 hb0 hb1 hinv sm d hs hd
  have e1 : (j : Int) + (i : Int) = ((i + j : Nat) : Int) := by omega
  have e2 : (i : Int) + 1 = ((i + 1 : Nat) : Int) := by omega
  have ed : IntKind.u64.wrap (IntKind.u64.wrap (z[i + j] - sm % 4294967296) - b) = d := by rw [u64m, u64m, hd]; omega
  have key : Pdiv.smallbig_nat_div.l2 (k + 1) x4 s v z (v.length : Int) (j : Int) p c b (i : Int) = Pdiv.smallbig_nat_div.l2 k x4 s v (z.set (i + j) (d % 4294967296)) (v.length : Int) (j : Int) p (sm / 4294967296) (d / 9223372036854775808) ((i + 1 : Nat) : Int) := by
   rw [Pdiv.smallbig_nat_div.l2, if_pos (by omega), if_pos (by omega), if_pos (by omega), e1, w64 ((i + j : Nat) : Int) (by omega) (by omega), if_pos (by omega), if_pos (by omega), rd_at _ _ hij, rd_at _ _ hiv, e2, w64 ((i + 1 : Nat) : Int) (by omega) (by omega), Int.toNat_natCast,
    u64w v[i] bv.1 (by omega), u64w (p * v[i]) h1 (by omega), ← hs, u64w sm h2 h3, u64w z[i + j] bz.1 (by omega), ed]
  rw [key]
  obtain ⟨k', z', c', b', g1, g2⟩ := ih k (i + 1) _ _ _ (by omega) (by omega) (by simp [hl]) (isUSet hu _ _ (by omega) (by omega)) h4 h5 h6 h7 (by
   intro q hq hvq
   rw [List.getElem_set, if_neg (by omega)]
   exact hzero q (by simpa using hq) hvq) h8
  exact ⟨k', z', c', b', by omega, g2⟩
/-- Putting back. -/
theorem div_l3 (x4 v : List Int) (s : Int) (hv : isU v) (j : Nat) (p : Int) (z0 : Int) (L : Nat) (hL : v.length + j < L) (hLm : L ≤ 2000000) (n : Nat) :
  ∀ (k i : Nat) (z : List Int) (c : Int), i + n = v.length → n ≤ k → z.length = L → isU z → 0 ≤ c → c ≤ 1 → (∀ q (hq : q < z.length), v.length + j < q → z[q] = 0) →
   nv z = z0 + nv (v.take i) * 4294967296 ^ j - c * 4294967296 ^ (i + j) →
   ∃ (k' : Nat) (z' : List Int) (c' : Int), k = k' + n ∧ z'.length = L ∧ isU z' ∧ 0 ≤ c' ∧ c' ≤ 1 ∧ (∀ q (hq : q < z'.length), v.length + j < q → z'[q] = 0) ∧
    nv z' = z0 + nv v * 4294967296 ^ j - c' * 4294967296 ^ (v.length + j) ∧
    Pdiv.smallbig_nat_div.l3 k x4 s v z (v.length : Int) (j : Int) p c (i : Int) = Pdiv.smallbig_nat_div.l3 k' x4 s v z' (v.length : Int) (j : Int) p c' (v.length : Int) := by
 induction n with
 | zero =>
  intro k i z c hi hk hl hu hc0 hc1 hzero hinv
  have : i = v.length := by omega
  subst this
  rw [List.take_length] at hinv
  exact ⟨k, z, c, rfl, hl, hu, hc0, hc1, hzero, hinv, rfl⟩
 | succ n ih =>
  intro k i z c hi hk hl hu hc0 hc1 hzero hinv
  obtain ⟨k, rfl⟩ : ∃ m, k = m + 1 := ⟨k - 1, by omega⟩
  have hiv : i < v.length := by omega
  have hij : i + j < z.length := by omega
  have bz := hu z[i + j] (List.getElem_mem hij)
  have bv := hv v[i] (List.getElem_mem hiv)
  obtain ⟨sm, hs⟩ : ∃ x : Int, x = c + (z[i + j] + v[i]) := ⟨_, rfl⟩
  obtain ⟨⟨h1, h2, h3, h4⟩, h8⟩ := back_step z v c i j z0 hu hv hiv hij hc0 hc1 hinv sm hs
  have e1 : (j : Int) + (i : Int) = ((i + j : Nat) : Int) := by omega
  have e2 : (i : Int) + 1 = ((i + 1 : Nat) : Int) := by omega
  have key : Pdiv.smallbig_nat_div.l3 (k + 1) x4 s v z (v.length : Int) (j : Int) p c (i : Int) = Pdiv.smallbig_nat_div.l3 k x4 s v (z.set (i + j) (sm % 4294967296)) (v.length : Int) (j : Int) p (sm / 4294967296) ((i + 1 : Nat) : Int) := by
   rw [Pdiv.smallbig_nat_div.l3, if_pos (by omega), e1, w64 ((i + j : Nat) : Int) (by omega) (by omega), if_pos (by omega), if_pos (by omega), if_pos (by omega), if_pos (by omega), rd_at _ _ hij, rd_at _ _ hiv, e2, w64 ((i + 1 : Nat) : Int) (by omega) (by omega), Int.toNat_natCast,
    u64w v[i] bv.1 (by omega), u64w z[i + j] bz.1 (by omega), u64w (z[i + j] + v[i]) (by omega) (by omega), ← hs, u64w sm h1 h2]
  rw [key]
  obtain ⟨k', z', c', g1, g2⟩ := ih k (i + 1) _ _ (by omega) (by omega) (by simp [hl]) (isUSet hu _ _ (by omega) (by omega)) h3 h4 (by
   intro q hq hvq
   rw [List.getElem_set, if_neg (by omega)]
   exact hzero q (by simpa using hq) hvq) h8
  exact ⟨k', z', c', by omega, g2⟩
/-- One digit of the quotient, after the guess. -/
theorem div_j3 (x4 v z : List Int) (s : Int) (hv : isU v) (hz : isU z) (j : Nat) (p : Int) (D : Int) (hD : D = nv v * 4294967296 ^ j) (hg : Kn.Good (nv z) D p) (hzl : v.length + j < z.length) (hzm : z.length ≤ 2000000)
  (hzero : ∀ q (hq : q < z.length), v.length + j < q → z[q] = 0) (hx4 : j < x4.length) (hx4m : x4.length ≤ 2000000) (k : Nat) (hk : 2 * v.length + 4 ≤ k) :
  ∃ (k' : Nat) (z' : List Int) (q : Int), k ≤ k' + 2 * v.length + 4 ∧ z'.length = z.length ∧ isU z' ∧ 0 ≤ q ∧ q < 4294967296 ∧ nv z' = nv z - q * D ∧ 0 ≤ nv z' ∧ nv z' < D ∧
   Pdiv.smallbig_nat_div.j3 k x4 s v z (v.length : Int) (j : Int) p = Pdiv.smallbig_nat_div.l0 k' (x4.set j q) s v z' (v.length : Int) ((j : Int) - 1) := by
 obtain ⟨hp0, hp1, hlo, hhi⟩ := hg
 have hN0 := nv_nonneg z hz
 obtain ⟨k, rfl⟩ : ∃ m, k = m + 1 := ⟨k - 1, by omega⟩
 rw [Pdiv.smallbig_nat_div.j3]
 obtain ⟨k1, z1, c, b, e1, l1, u1, c0, c1, b0, b1, zr1, n1, q1⟩ := div_l2 x4 v s hv j p hp0 hp1 (nv z) z.length hzl hzm v.length k 0 z 0 0 (by omega) (by omega) rfl hz (by omega) (by omega) (by omega) (by omega) hzero (by simp [nv])
 have q1' : Pdiv.smallbig_nat_div.l2 k x4 s v z (v.length : Int) (j : Int) p 0 0 0 = _ := q1
 rw [q1']
 obtain ⟨k2, rfl⟩ : ∃ m, k1 = m + 1 := ⟨k1 - 1, by omega⟩
 have ht : v.length + j < z1.length := by omega
 have bz := u1 z1[v.length + j] (List.getElem_mem ht)
 have i1 : (j : Int) + (v.length : Int) = ((v.length + j : Nat) : Int) := by omega
 obtain ⟨d, hd⟩ : ∃ x : Int, x = (z1[v.length + j] - c - b) % 18446744073709551616 := ⟨_, rfl⟩
 have ed : IntKind.u64.wrap (IntKind.u64.wrap (z1[v.length + j] - c) - b) = d := by rw [u64m, u64m, hd]; omega
 rw [Pdiv.smallbig_nat_div.l2, if_neg (by omega), i1, w64 ((v.length + j : Nat) : Int) (by omega) (by omega), if_pos (by omega), if_pos (by omega), Option.bind_some, rd_at _ _ ht, Int.toNat_natCast, u64w z1[v.length + j] bz.1 (by omega), ed]
 have n1' : nv z1 = nv z - p * D + (c + b) * 4294967296 ^ (v.length + j) := by rw [n1, hD, Int.mul_assoc]
 obtain ⟨u2, zr2, hcase⟩ := fin_sub z1 (v.length + j) (nv z) D p c b u1 ht zr1 c0 c1 b0 b1 n1' hN0 hlo hhi d hd
 rcases hcase with ⟨hb, n2, h0, h1⟩ | ⟨hb, n2, h0⟩
 ·
  rw [hb, if_pos rfl, if_pos (by omega), if_pos (by omega), Int.toNat_natCast, w64 ((j : Int) - 1) (by omega) (by omega), show p % 4294967296 = p by omega]
  exact ⟨k2, _, p, by omega, by simp [l1], u2, hp0, hp1, n2, by omega, by omega, rfl⟩
 ·
  have hp1' : 1 ≤ p := by
   by_cases h : 1 ≤ p
   ·
    exact h
   ·
    have : p = 0 := by omega
    subst this
    rw [Int.zero_mul] at h0; omega
  rw [hb, if_neg (by decide), u64w (p - 1) (by omega) (by omega), Int.toNat_natCast]
  obtain ⟨k3, z3, c3, e3, l3, u3, c30, c31, zr3, n3, q3⟩ := div_l3 x4 v s hv j (p - 1) (nv (z1.set (v.length + j) (d % 4294967296))) z.length hzl hzm v.length k2 0 _ 0 (by omega) (by omega) (by simp [l1]) u2 (by omega) (by omega) zr2 (by simp [nv])
  have q3' : Pdiv.smallbig_nat_div.l3 k2 x4 s v (z1.set (v.length + j) (d % 4294967296)) (v.length : Int) (j : Int) (p - 1) 0 0 = _ := q3
  rw [q3']
  obtain ⟨k4, rfl⟩ : ∃ m, k3 = m + 1 := ⟨k3 - 1, by omega⟩
  have ht3 : v.length + j < z3.length := by omega
  rw [Pdiv.smallbig_nat_div.l3, if_neg (by omega), i1, w64 ((v.length + j : Nat) : Int) (by omega) (by omega), if_pos (by omega), if_pos (by omega), if_pos (by omega), if_pos (by omega), rd_at _ _ ht3, Int.toNat_natCast, Int.toNat_natCast, w64 ((j : Int) - 1) (by omega) (by omega), show (p - 1) % 4294967296 = p - 1 by omega, show c3 % 4294967296 = c3 by omega]
  have n3' : nv z3 = nv z - p * D + 4294967296 ^ (v.length + j + 1) + D - c3 * 4294967296 ^ (v.length + j) := by rw [n3, n2, hD]
  obtain ⟨u4, zr4, n4, h4, h5⟩ := fin_back z3 (v.length + j) (nv z) D p c3 u3 ht3 zr3 c30 c31 n3' h0 hhi
  exact ⟨k4, _, p - 1, by omega, by simp [l3], u4, by omega, by omega, n4, by omega, by omega, rfl⟩
theorem rep_set (j : Nat) (qs : List Int) (q : Int) : (List.replicate (j + 1) (0 : Int) ++ qs).set j q = List.replicate j 0 ++ (q :: qs) := by
 rw [List.replicate_succ', List.append_assoc, List.set_append_right _ _ (by simp), List.length_replicate, Nat.sub_self]
 rfl
theorem div_l0 (v : List Int) (hv : isU v) (m : Nat) (hvl : v.length = m + 2) (hv1 : 2147483648 ≤ v[m + 1]'(by omega)) (s : Nat) (hs : s ≤ 31) (X : Int) (L : Nat) (hLm : L ≤ 1000000) (J : Nat) :
  ∀ (k : Nat) (qs z : List Int), qs.length + J ≤ 1500000 → v.length + J ≤ L → z.length = L → isU z → isU qs → nv z < nv v * 4294967296 ^ J → X = nv qs * 4294967296 ^ J * nv v + nv z →
   J * (2 * v.length + 12) + 2 * L + qs.length + J + 20 ≤ k →
   ∃ (q r : List Int) (zf : Int), Pdiv.smallbig_nat_div.l0 k (List.replicate J 0 ++ qs) (s : Int) v z (v.length : Int) ((J : Int) - 1) = some (q, r) ∧ isN q ∧ isN r ∧ X = nv q * nv v + zf ∧ 0 ≤ zf ∧ zf < nv v ∧ nv r = zf / 2 ^ s ∧ q.length ≤ qs.length + J ∧ r.length ≤ L := by
 induction J with
 | zero =>
  intro k qs z hql hvL hzl hz hq hlt hX hk
  obtain ⟨k, rfl⟩ : ∃ m, k = m + 1 := ⟨k - 1, by omega⟩
  simp only [List.replicate_zero, List.nil_append, Int.pow_zero, Int.mul_one] at *
  rw [Pdiv.smallbig_nat_div.l0, if_neg (by omega)]
  obtain ⟨q, e1, a1, a2, a3⟩ := norm_f k qs hq (by omega) (by omega)
  obtain ⟨z1, e2, b1, b2, b3⟩ := norm_f k z hz (by omega) (by omega)
  rw [e1, Option.bind_some, e2, Option.bind_some]
  obtain ⟨r, e3, c1, c2, c3⟩ := rsh_f z1 b1 s hs (by omega) k (by omega)
  rw [e3, Option.bind_some]
  exact ⟨q, r, nv z, rfl, a1, c1, by rw [a2]; exact hX, nv_nonneg z hz, hlt, by rw [c2, b2], by omega, by omega⟩
 | succ j ih =>
  intro k qs z hql hvL hzl hz hq hlt hX hk
  rw [Nat.succ_mul] at hk
  obtain ⟨k, rfl⟩ : ∃ m, k = m + 1 := ⟨k - 1, by omega⟩
  have hm1 : m + 1 < v.length := by omega
  have hm0 : m < v.length := by omega
  have hz2 : m + j + 2 < z.length := by omega
  have hz1 : m + j + 1 < z.length := by omega
  have hz0 : m + j < z.length := by omega
  have b1 := hv v[m + 1] (List.getElem_mem hm1)
  have b0 := hv v[m] (List.getElem_mem hm0)
  have c2 := hz z[m + j + 2] (List.getElem_mem hz2)
  have c1 := hz z[m + j + 1] (List.getElem_mem hz1)
  have c0 := hz z[m + j] (List.getElem_mem hz0)
  have hvlt := nv_lt v hv
  have hv0 := nv_nonneg v hv
  have hz0n := nv_nonneg z hz
  obtain ⟨D, hD⟩ : ∃ D : Int, D = nv v * 4294967296 ^ j := ⟨_, rfl⟩
  have hND : nv z < D * 4294967296 := by rw [hD, Int.mul_assoc, ← Int.pow_succ]; exact hlt
  have hzt : nv z < 4294967296 ^ (m + j + 3) := by
   have h1 : nv v * 4294967296 ^ (j + 1) ≤ 4294967296 ^ v.length * 4294967296 ^ (j + 1) := Int.mul_le_mul_of_nonneg_right (by omega) (by have := W_pos (j + 1); omega)
   rw [← Int.pow_add, hvl, show m + 2 + (j + 1) = m + j + 3 by omega] at h1
   omega
  have hzero := zeros_above z (m + j + 3) hz hzt
  have hN := top3 z (m + j) hz2 hzero
  obtain ⟨M, hM⟩ : ∃ M : Int, M = 4294967296 ^ (m + j) := ⟨_, rfl⟩
  have hMj : (4294967296 : Int) ^ m * 4294967296 ^ j = M := by rw [hM, Int.pow_add]
  have hM0 : 0 < M := by rw [hM]; have := W_pos (m + j); omega
  have hWj : 0 < (4294967296 : Int) ^ j := by have := W_pos j; omega
  have hD2 : D = v[m + 1] * (4294967296 * M) + v[m] * M + nv (v.take m) * 4294967296 ^ j := by
   rw [hD, top2 v m hvl, Int.add_mul, Int.add_mul, Int.mul_assoc v[m + 1], Int.mul_assoc 4294967296, hMj, Int.mul_assoc v[m], hMj]
  rw [← hM] at hN
  obtain ⟨hu0, hu1⟩ := take_lt hz (m + j) (by omega)
  obtain ⟨hw0, hw1⟩ := take_lt hv m (by omega)
  rw [← hM] at hu1
  have hvr0 : 0 ≤ nv (v.take m) * 4294967296 ^ j := Int.mul_nonneg hw0 (by omega)
  have hvr1 : nv (v.take m) * 4294967296 ^ j < M := by rw [← hMj]; exact Int.mul_lt_mul_of_pos_right hw1 hWj
  obtain ⟨a, ha⟩ : ∃ a : Int, a = z[m + j + 2] * 4294967296 + z[m + j + 1] := ⟨_, rfl⟩
  have hN' : nv z = a * (4294967296 * M) + z[m + j] * M + nv (z.take (m + j)) := by rw [ha]; exact hN
  have i0 : (((j + 1 : Nat) : Int) - 1) = (j : Int) := by omega
  have i3 : (j : Int) + (v.length : Int) = ((m + j + 2 : Nat) : Int) := by omega
  have i4 : ((m + j + 2 : Nat) : Int) - 1 = ((m + j + 1 : Nat) : Int) := by omega
  have i1 : (v.length : Int) - 1 = ((m + 1 : Nat) : Int) := by omega
  have ga := guess_first hM0 hN' hD2 hu1 c0.2 hvr0 b0.1 (by omega) (by omega)
  have hr0 : a % v[m + 1] < v[m + 1] := Int.emod_lt_of_pos _ (by omega)
  have hr00 : 0 ≤ a % v[m + 1] := Int.emod_nonneg _ (by omega)
  have hdiv0 : 0 ≤ a / v[m + 1] := Int.ediv_nonneg (by omega) (by omega)
  have hdiv1 : a / v[m + 1] ≤ a := Int.ediv_le_self _ (by omega)
  obtain ⟨k1, p, f1, hgood, e1⟩ := div_l1 (List.replicate (j + 1) 0 ++ qs) v z (s : Int) hv hz m j hvl (by omega) (by omega) (nv z) D a (nv (z.take (m + j))) _ M hM0 hN' hD2 hu0 hu1 hvr0 hvr1 hv1 hND (by omega) (by omega) 2 k (a / v[m + 1]) (a % v[m + 1]) ga (by omega) (by omega) (by omega)
  rw [← hvl] at e1
  obtain ⟨k2, z', q, f2, l2, u2, q0, q1, n2, n20, n21, e2⟩ := div_j3 (List.replicate (j + 1) 0 ++ qs) v z (s : Int) hv hz j p D hD hgood (by omega) (by omega) (fun q hq h => hzero q hq (by omega)) (by simp; omega) (by simp; omega) k1 (by omega)
  have key : Pdiv.smallbig_nat_div.l0 (k + 1) (List.replicate (j + 1) 0 ++ qs) (s : Int) v z (v.length : Int) (((j + 1 : Nat) : Int) - 1) = Pdiv.smallbig_nat_div.l0 k2 (List.replicate j 0 ++ (q :: qs)) (s : Int) v z' (v.length : Int) ((j : Int) - 1) := by
   rw [i0, Pdiv.smallbig_nat_div.l0, if_pos (by omega), i3, w64 _ (by omega) (by omega), if_pos (by omega), if_pos (by omega), i4, w64 _ (by omega) (by omega), if_pos (by omega), if_pos (by omega), i1, w64 _ (by omega) (by omega), if_pos (by omega), if_pos (by omega), rd_at _ _ hm1, rd_at _ _ hz2, rd_at _ _ hz1,
    u64w v[m + 1] b1.1 (by omega), if_neg (by omega), u64w z[m + j + 2] c2.1 (by omega), u64w z[m + j + 1] c1.1 (by omega), u64w (z[m + j + 2] * 4294967296) (by omega) (by omega), or_low _ _ c2.1 c2.2 c1.1 c1.2, ← ha,
    Int.tdiv_eq_ediv_of_nonneg (by omega), Int.tmod_eq_emod_of_nonneg (by omega), u64w (a / v[m + 1]) hdiv0 (by omega), e1, e2, rep_set]
  rw [key]
  obtain ⟨q', r', zf, g1, g2, g3, g4, g5, g6, g7, g8, g9⟩ := ih k2 (q :: qs) z' (by simp; omega) (by omega) (by omega) u2 (isU_mk ⟨q0, q1⟩ hq) (by rw [← hD]; exact n21) (by
   rw [hX, n2, nv, hD, Int.pow_succ, Int.add_mul q, Int.add_mul (q * 4294967296 ^ j)]
   have e3 : nv qs * (4294967296 ^ j * 4294967296) = 4294967296 * nv qs * 4294967296 ^ j := by rw [Int.mul_comm (4294967296 ^ j), ← Int.mul_assoc, Int.mul_comm (nv qs)]
   have e4 : q * (nv v * 4294967296 ^ j) = q * 4294967296 ^ j * nv v := by rw [Int.mul_comm (nv v), Int.mul_assoc]
   rw [e3, e4]
   omega) (by simp only [List.length_cons]; omega)
  exact ⟨q', r', zf, g1, g2, g3, g4, g5, g6, g7, by simp only [List.length_cons] at g8; omega, g9⟩
theorem take_rep (t : List Int) (n : Nat) (h : t.length ≤ n) : t.take (min t.length (List.replicate n (0 : Int)).length) ++ (List.replicate n (0 : Int)).drop (min t.length (List.replicate n (0 : Int)).length) = t ++ List.replicate (n - t.length) 0 := by
 rw [List.length_replicate, Nat.min_eq_left h, List.take_length, List.drop_replicate]
theorem len_of_lt (v : List Int) (hv : isN v) (n : Nat) (h : nv v < 4294967296 ^ n) : v.length ≤ n := by
 by_cases h0 : v = []
 ·
  subst h0; simp
 ·
  have h1 := nv_pos hv h0
  by_cases hl : v.length ≤ n
  ·
   exact hl
  ·
   have := W_mono (show n ≤ v.length - 1 by omega)
   omega
theorem div_f (x y : List Int) (hx : isN x) (hy : isN y) (hxm : x.length ≤ 900000) (h0 : y ≠ []) (hge : nv y ≤ nv x) :
  ∃ (k : Nat) (q r : List Int), Pdiv.smallbig_nat_div.f k x y = some (q, r) ∧ isN q ∧ isN r ∧ nv x = nv q * nv y + nv r ∧ 0 ≤ nv r ∧ nv r < nv y ∧ q.length ≤ x.length + 1 ∧ r.length ≤ x.length + 2 := by
 have hl1 : 1 ≤ y.length := by
  cases y with
  | nil => exact absurd rfl h0
  | cons _ _ => simp
 have hyx : y.length ≤ x.length := by
  by_cases h : y.length ≤ x.length
  ·
   exact h
  ·
   have := len_of hy hx.1 (show x.length < y.length by omega); omega
 obtain ⟨K, hK⟩ : ∃ K : Nat, K = (x.length + 1) * (2 * y.length + 12) + 6 * x.length + 100 := ⟨_, rfl⟩
 have hKb : 6 * x.length + 100 ≤ K := by omega
 refine ⟨K, ?_⟩
 unfold Pdiv.smallbig_nat_div.f
 rw [if_neg (by omega), cmp_f x y hx hy (by omega) K (by omega), Option.bind_some]
 have hcmp : 0 ≤ cmpI (nv x) (nv y) := by unfold cmpI; rw [if_neg (by omega)]; split <;> omega
 rw [if_neg (by omega)]
 by_cases h1 : y.length = 1
 ·
  rw [if_pos (by omega), if_pos (by omega)]
  obtain ⟨d, rfl⟩ : ∃ d, y = [d] := List.length_eq_one_iff.1 h1
  have hd := hy.1 d (by simp)
  have hd0 : d ≠ 0 := fun e => hy.2 (by rw [e]; simp)
  have hrd : rd [d] 0 = d := rfl
  obtain ⟨q, c, e1, a1, a2, a3, a4, a5⟩ := divW_f x hx.1 d (by omega) (by omega) (by omega) K (by omega)
  obtain ⟨r, e2, b1, b2, b3⟩ := natOf_f c a3 (by omega) K (by omega)
  rw [hrd, e1, Option.bind_some, u64w _ a3 (by omega), e2, Option.bind_some]
  exact ⟨q, r, rfl, a1, b1, by rw [b2, nv_one]; exact a2, by omega, by rw [b2, nv_one]; exact a4, by omega, by omega⟩
 ·
  rw [if_neg (by omega)]
  obtain ⟨s, hs, e1, s1, s2⟩ := shift_f y hy (by omega) h0 K (by omega)
  obtain ⟨v, e2, v1, v2, v3⟩ := lsh_f y hy s hs (by omega) K (by omega)
  obtain ⟨u, e3, u1, u2, u3⟩ := lsh_f x hx s hs (by omega) K (by omega)
  have hp : (0 : Int) < 2 ^ s := Int.pow_pos (by omega)
  have hp31 : (2 : Int) ^ s ≤ 2 ^ 31 := by
   have := Nat.pow_le_pow_right (show 0 < 2 by omega) hs
   exact_mod_cast this
  have es : 32 * (y.length : Int) - (32 * (y.length : Int) - (s : Int)) = (s : Int) := by omega
  rw [e1, Option.bind_some, w64 (32 * (y.length : Int)) (by omega) (by omega), es, w64 (s : Int) (by omega) (by omega), u64w (s : Int) (by omega) (by omega), e2, Option.bind_some]
  -- as long as y
  have hvl : v.length = y.length := by
   have h2 : v.length ≤ y.length := len_of_lt v v1 y.length (by rw [v2]; exact s2)
   have h3 : ¬ v.length < y.length := fun h => by
    have h4 := nv_lt v v1.1
    have h5 := W_mono (show v.length ≤ y.length - 1 by omega)
    have h6 := W_pos (y.length - 1)
    rw [v2] at h4
    omega
   omega
  obtain ⟨m, hm⟩ : ∃ m, y.length = m + 2 := ⟨y.length - 2, by omega⟩
  have hvm : v.length = m + 2 := by omega
  have hx1 : (x.length : Int) + 1 = ((x.length + 1 : Nat) : Int) := by omega
  have hul : u.length ≤ x.length + 1 := u3
  rw [hx1, w64 ((x.length + 1 : Nat) : Int) (by omega) (by omega), if_pos (by omega), Int.toNat_natCast, if_pos (by omega), Option.bind_some, e3, Option.bind_some, hvl, take_rep u _ hul]
  have hxy : (x.length : Int) - (y.length : Int) = ((x.length - y.length : Nat) : Int) := by omega
  have hxy1 : ((x.length - y.length : Nat) : Int) + 1 = ((x.length - y.length + 1 : Nat) : Int) := by omega
  rw [hxy, w64 ((x.length - y.length : Nat) : Int) (by omega) (by omega), hxy1, w64 ((x.length - y.length + 1 : Nat) : Int) (by omega) (by omega), if_pos (by omega), Int.toNat_natCast, if_pos (by omega)]
  have hzu : isU (u ++ List.replicate (x.length + 1 - u.length) 0) := isU_append u1.1 (isU_rep _)
  have hzv : nv (u ++ List.replicate (x.length + 1 - u.length) 0) = nv x * 2 ^ s := by rw [nv_append, nv_rep, Int.zero_mul, Int.add_zero, u2]
  have htop : 2147483648 ≤ v[m + 1]'(by omega) := by
   have h2 := nv_take v (m + 1) (by omega)
   rw [List.take_of_length_le (by omega), v2] at h2
   have h3 := (take_lt v1.1 (m + 1) (by omega)).2
   rw [hm, show m + 2 - 1 = m + 1 by omega] at s1
   have hW := W_pos (m + 1)
   by_cases h : 2147483648 ≤ v[m + 1]
   ·
    exact h
   ·
    exfalso
    have h4 : (v[m + 1] + 1) * 4294967296 ^ (m + 1) ≤ 2147483648 * 4294967296 ^ (m + 1) := Int.mul_le_mul_of_nonneg_right (by omega) (by omega)
    rw [Int.add_mul] at h4
    omega
  have hmul : (x.length - y.length + 1) * (2 * y.length + 12) ≤ (x.length + 1) * (2 * y.length + 12) := Nat.mul_le_mul_right _ (by omega)
  obtain ⟨q, r, zf, g1, g2, g3, g4, g5, g6, g7, g8, g9⟩ := div_l0 v v1.1 m hvm htop s hs (nv x * 2 ^ s) (x.length + 1) (by omega) (x.length - y.length + 1) K [] _ (by simp; omega) (by omega) (by simp; omega) hzu isU_nil (by
   rw [hzv, v2]
   have h2 := nv_lt x hx.1
   have h3 : nv x * 2 ^ s < 4294967296 ^ x.length * 2 ^ s := Int.mul_lt_mul_of_pos_right h2 hp
   have h4 : (4294967296 : Int) ^ x.length * 2 ^ s ≤ 4294967296 ^ x.length * 2 ^ 31 := Int.mul_le_mul_of_nonneg_left hp31 (by have := W_pos x.length; omega)
   have h5 : (2147483648 * 4294967296 ^ (y.length - 1)) * 4294967296 ^ (x.length - y.length + 1) ≤ nv y * 2 ^ s * 4294967296 ^ (x.length - y.length + 1) := Int.mul_le_mul_of_nonneg_right s1 (by have := W_pos (x.length - y.length + 1); omega)
   rw [Int.mul_assoc, ← Int.pow_add, show y.length - 1 + (x.length - y.length + 1) = x.length by omega] at h5
   omega) (by rw [hzv]; simp [nv]) (by simp only [List.length_nil]; rw [hvl]; omega)
  simp only [List.append_nil, hvl] at g1
  have hi : ((x.length - y.length + 1 : Nat) : Int) - 1 = ((x.length - y.length : Nat) : Int) := by omega
  rw [hi] at g1
  rw [g1]
  have hzf : zf = (nv x - nv q * nv y) * 2 ^ s := by rw [v2, ← Int.mul_assoc] at g4; rw [Int.sub_mul]; omega
  have hr : nv r = nv x - nv q * nv y := by rw [g7, hzf]; exact Int.mul_ediv_cancel _ (by omega)
  have hr1 : nv r < nv y := by
   rw [hr]
   rw [hzf, v2] at g6
   exact Int.lt_of_mul_lt_mul_right g6 (by omega)
  simp only [List.length_nil] at g8
  exact ⟨q, r, rfl, g2, g3, by omega, nv_nonneg r g3.1, hr1, by omega, by omega⟩
end Go.Proofs.YtaiidipcmnejoaaGreatDoor.DivP

/- The walks over nat.div: the quotient and the rest of big integers (Rem). -/
set_option linter.unusedVariables false
set_option linter.unusedSimpArgs false
namespace Go.Proofs.YtaiidipcmnejoaaGreatDoor.DivN
open Go.RowKit Go.Lib Go.Proofs.YtaiidipcmnejoaaGreatDoorW.PrintWords Go.Proofs.YtaiidipcmnejoaaGreatDoorW.PrintLast Go.Proofs.YtaiidipcmnejoaaGreatDoorW.PrintMore
open Go.Proofs.YtaiidipcmnejoaaGreatDoor.Nt Go.Proofs.YtaiidipcmnejoaaGreatDoor.IntW
set_option maxRecDepth 100000 in
set_option maxHeartbeats 8000000 in
theorem c_div (v u : Value) (x y : List Int) (w : World) (hv : NatV w v x) (hu : NatV w u y) (hx : isN x) (hy : isN y) (hxm : x.length ≤ 900000) (h0 : y ≠ []) :
  Calls Tryz.prog 155 #[v, u] w fun e w' => ∃ vq vr q r, e = .returned (.tuple #[vq, vr]) ∧ NatV w' vq q ∧ NatV w' vr r ∧ isN q ∧ isN r ∧ nv x = nv q * nv y + nv r ∧ 0 ≤ nv r ∧ nv r < nv y ∧ q.length ≤ x.length + 1 ∧ r.length ≤ x.length + 2 ∧ Below w.heap.size w w' := by
 by_cases hlt : nv x < nv y
 ·
  have HC := Lib.hid (c_cmp v u x y w hv hu hx hy (by omega))
  have hq : cmpI (nv x) (nv y) = -1 := by unfold cmpI; rw [if_pos hlt]
  rw [hq] at HC
  have HX := Lib.hid hx
  have HL := Lib.hid hlt
  have hv0 := hv
  have HV := Lib.hid hv
  obtain ⟨A, c, rfl, hc, hr⟩ := hv0
  obtain ⟨A', c', rfl, hc', hr'⟩ := hu
  have hl1 : y.length ≠ 0 := fun e => h0 (List.length_eq_zero_iff.1 e)
  have f1 : ((y.length : Int) == 0) = false := beq_eq_false_iff_ne.2 (by omega)
  clear hv hx hy hlt hq hc hr hc' hr' hl1 h0 hxm
  go_enter Tryz.func155, Tryz.ntmps155
  go_wp2_with fail
  refine HC.out.mono ?_
  rintro e w1 ⟨rfl, hd⟩
  have HB := Lib.hid hd.below; clear hd
  go_wp2_with fail
  go_ret2
  exact ⟨_, _, [], x, rfl, NatV.nil _, HV.out.below HB.out, isN_nil, HX.out, by simp [nv], nv_nonneg x HX.out.1, HL.out, by simp, by omega, HB.out⟩
 ·
  obtain ⟨A, c, rfl, hc, hr⟩ := hv
  obtain ⟨A', c', rfl, hc', hr'⟩ := hu
  obtain ⟨k, q, r, e1, h1, h2, h3, h4, h5, h6, h7⟩ := DivP.div_f x y hx hy hxm h0 (by omega)
  refine (Pdiv.smallbig_nat_div.calls k A c x A' c' y q r w hr hc hr' hc' e1).mono ?_
  rintro e w' ⟨v0, v1, rfl, hV, hU, hb⟩
  exact ⟨v0, v1, q, r, rfl, NatV.of hV, NatV.of hU, h1, h2, h3, h4, h5, h6, h7, hb⟩
theorem fin_rem {w w1 : World} {gz : Nat} {c0 : Bool} {a : Option Addr} {l c : Nat} (h : w1.heap[gz]? = some (.cells #[.bool c0, .slice a l c] 97 (0, 0))) (hb : Below w.heap.size w w1) {sv : Value} {r : List Int} (hV : NatV w1 sv r) (hN : isN r) (n : Int) (L : Nat)
  (hn : n = nv r) (hl : r.length ≤ L) :
  IntAt ((w1.setCell ⟨gz, 1, none⟩ sv).setCell ⟨gz, 0, none⟩ (.bool false)) gz n L ∧ w.grownBy ((w1.setCell ⟨gz, 1, none⟩ sv).setCell ⟨gz, 0, none⟩ (.bool false)) (some gz) := by
 have hw1 : w1.grownBy ((w1.setCell ⟨gz, 1, none⟩ sv).setCell ⟨gz, 0, none⟩ (.bool false)) (some gz) := grown_set (grown_set (World.grownBy.refl w1 _) 1 sv) 0 _
 exact ⟨⟨false, r, sv, set_both h _ _, NatV.move hV (int_ne h hw1), hN, by simpa using hn, by simp, hl⟩, grown_set (grown_set (grown_of_below hb _) 1 sv) 0 _⟩
set_option maxRecDepth 100000 in
set_option maxHeartbeats 8000000 in
/-- Rem into a block of its own, of integers from 0 on. -/
theorem rem_new (gz : Nat) (b0 : Bool) (az : Option Addr) (lz cz : Nat) (gx gy : Nat) (m n : Int) (L : Nat) (w : World)
  (hz : w.heap[gz]? = some (.cells #[.bool b0, .slice az lz cz] 97 (0, 0))) (hx : IntAt w gx m L) (hy : IntAt w gy n L) (hL : L ≤ 100000) (hm : 0 ≤ m) (hn : 0 < n) :
  Calls Tryz.prog 100 #[.pointer (some ⟨gz, 0, none⟩), .pointer (some ⟨gx, 0, none⟩), .pointer (some ⟨gy, 0, none⟩)] w fun e w' => e = .returned (.pointer (some ⟨gz, 0, none⟩)) ∧ IntAt w' gz (m % n) (L + 2) ∧ w.grownBy w' (some gz) := by
 obtain ⟨xneg, xs, sv, h1, h2, h3, h4, h5, h6⟩ := hx
 obtain ⟨yneg, ys, sw, k1, k2, k3, k4, k5, k6⟩ := hy
 have hxs := nv_nonneg xs h3.1
 have hys := nv_nonneg ys k3.1
 have hxn : xneg = false := by
  cases xneg with
  | false => rfl
  | true =>
   exfalso
   have h7 := h5 rfl
   have h8 : nv xs ≠ 0 := fun e => h7 ((nv_zero h3).1 e)
   simp only [if_true] at h4
   omega
 have hyn : yneg = false := by
  cases yneg with
  | false => rfl
  | true => simp only [if_true] at k4; omega
 subst hxn hyn
 simp only [Bool.false_eq_true, if_false] at h4 k4
 have hy0 : ys ≠ [] := fun e => by rw [e] at k4; simp [nv] at k4; omega
 obtain ⟨ax, cx, rfl, hcx, hCx⟩ := h2
 obtain ⟨ay, cy, rfl, hcy, hCy⟩ := k2
 have HX := Lib.hid h1
 have HY := Lib.hid k1
 have HZ := Lib.hid hz
 obtain ⟨x0, x1, x2, x3⟩ := two_cells h1
 obtain ⟨y0, y1, y2, y3⟩ := two_cells k1
 obtain ⟨z0, z1, z2, z3⟩ := two_cells hz
 have HXV : Hid (NatV w (.slice ax xs.length cx) xs) := Lib.hid ⟨ax, cx, rfl, hcx, hCx⟩
 have HYV : Hid (NatV w (.slice ay ys.length cy) ys) := Lib.hid ⟨ay, cy, rfl, hcy, hCy⟩
 have HC := Lib.hid (fun k : Nat => (c_div _ _ _ _ (w.drewN k) (NatV.drewN HXV.out k) (NatV.drewN HYV.out k) h3 k3 (by omega) hy0).mono (fun e w' ⟨vq, vr, q, r, a1, a2, a3, a4, a5, a6, a7, a8, a9, a10, a11⟩ =>
  (⟨vq, vr, q, r, a1, a2, a3, a5, by
   rw [h4, k4, a6, Int.add_comm, Int.mul_comm, Int.add_mul_emod_self_left, Int.emod_eq_of_lt a7 a8], by omega, a11⟩ : ∃ vq vr, ∃ (q r : List Int), e = Ending.returned (.tuple #[vq, vr]) ∧ NatV w' vq q ∧ NatV w' vr r ∧ isN r ∧ m % n = nv r ∧ r.length ≤ L + 2 ∧ Below (w.drewN k).heap.size (w.drewN k) w')))
 clear h1 k1 hz hcx hCx hcy hCy h3 k3 h5 k5 h6 k6 h4 k4 HXV HYV hxs hys hy0 hm hn hL
 go_enter Tryz.func100, Tryz.ntmps100
 go_wp2_with fail
 go_region_with (go_at_call 155; refine (HC.out 1).mono ?_; rintro e w1 ⟨vq, vr, q, r, rfl, hQ, hV, hN, hnv, hl, hb⟩; obtain ⟨a', c', rfl, hc', hC'⟩ := hV; obtain ⟨q0, q1, q2, q3⟩ := two_cells ((hb.block gz (IntW.lt_of_heap HZ.out)).trans HZ.out); obtain ⟨p0, p1, p2, p3⟩ := two_cells ((hb.block gx (IntW.lt_of_heap HX.out)).trans HX.out); obtain ⟨o0, o1, o2, o3⟩ := two_cells ((hb.block gy (IntW.lt_of_heap HY.out)).trans HY.out); have FF := Lib.hid (fin_rem ((hb.block gz (IntW.lt_of_heap HZ.out)).trans HZ.out) ((pw_below_drewN (Below.refl w.heap.size w) 1).trans hb) (⟨a', c', rfl, hc', hC'⟩ : NatV w1 _ r) hN (m % n) (L + 2) hnv hl); clear hN hnv hl hb hc' hC' hQ)
 all_goals
  by_cases hr : 0 < r.length
  ·
   have hr1 : decide (0 < r.length) = true := decide_eq_true hr
   have hr2 : decide (0 < (r.length : Int)) = true := decide_eq_true (by omega)
   go_wp2_with fail
   go_ret
   exact ⟨rfl, FF.out⟩
  ·
   have hr1 : decide (0 < r.length) = false := decide_eq_false hr
   have hr2 : decide (0 < (r.length : Int)) = false := decide_eq_false (by omega)
   go_wp2_with fail
   go_ret
   exact ⟨rfl, FF.out⟩
end Go.Proofs.YtaiidipcmnejoaaGreatDoor.DivN

namespace Go.Proofs.YtaiidipcmnejoaaGreatDoor.OpModW
open Go.RowKit Go.Lib Go.Proofs.YtaiidipcmnejoaaGreatDoorW.PrintWords Go.Proofs.YtaiidipcmnejoaaGreatDoorW.PrintLast Go.Proofs.YtaiidipcmnejoaaGreatDoorW.PrintMore
open Go.Proofs.YtaiidipcmnejoaaGreatDoor.Nt Go.Proofs.YtaiidipcmnejoaaGreatDoor.Dec Go.Proofs.YtaiidipcmnejoaaGreatDoor.IntW Go.Proofs.YtaiidipcmnejoaaGreatDoor.NumW Go.Proofs.YtaiidipcmnejoaaGreatDoor.NumV
open Go.Proofs.YtaiidipcmnejoaaGreatDoor.Spec (S S_list S_toList S_size S_of S_ext)
set_option maxRecDepth 100000 in
set_option maxHeartbeats 4000000 in
theorem binop_ii (f3 f5 f6 f7 f8 : Nat) (Q : World → Value → Prop) (m n : Int) (hI : ∀ w, Calls Tryz.prog 93 #[.int .i64 m, .int .i64 n] w (Gives Q w)) (w : World) :
  Calls Tryz.prog 82 #[.iface 3 (.int .i64 m), .iface 3 (.int .i64 n), Value.func (Fn.func 93) #[] #[], Value.func (Fn.func f3) #[] #[], Value.func (Fn.func 98) #[] #[], Value.func (Fn.func f5) #[] #[], Value.func (Fn.func f6) #[] #[], Value.func (Fn.func f7) #[] #[], Value.func (Fn.func f8) #[] #[]] w (Gives Q w) := by
 have HC := Lib.hid (hI w)
 clear hI
 have a1 := fun w => no124_3 (.int .i64 m) w
 have a2 := fun w => no124_3 (.int .i64 n) w
 have a3 := fun w => is3 (.int .i64 m) w
 have a4 := fun w => is3 (.int .i64 n) w
 go_enter Tryz.func82, Tryz.ntmps82
 go_wp2_with fail
 refine HC.out.mono ?_
 rintro e w1 ⟨v, rfl, hv⟩
 have HB := Lib.hid hv; clear hv
 go_wp2_with fail
 go_ret
 exact ⟨_, rfl, HB.out⟩
set_option maxRecDepth 100000 in
set_option maxHeartbeats 4000000 in
theorem binop_ib (f3 f5 f6 f7 f8 : Nat) (Q : World → Value → Prop) (m n : Int) (L : Nat) (hB : ∀ gx gy w, IntAt w gx m L → IntAt w gy n L → Calls Tryz.prog 98 #[.pointer (some ⟨gx, 0, none⟩), .pointer (some ⟨gy, 0, none⟩)] w (Gives Q w)) (g : Nat) (w : World) (h0m : -9223372036854775808 ≤ m) (h1m : m ≤ 9223372036854775807) (hg : IntAt w g n L) (hL : 2 ≤ L) :
  Calls Tryz.prog 82 #[.iface 3 (.int .i64 m), .iface 62 (.pointer (some ⟨g, 0, none⟩)), Value.func (Fn.func 93) #[] #[], Value.func (Fn.func f3) #[] #[], Value.func (Fn.func 98) #[] #[], Value.func (Fn.func f5) #[] #[], Value.func (Fn.func f6) #[] #[], Value.func (Fn.func f7) #[] #[], Value.func (Fn.func f8) #[] #[]] w (Gives Q w) := by
 have HC := Lib.hid hB
 clear hB
 have a0_no124_3 := fun w => no124_3 (.int .i64 m) w
 have a0_is3 := fun w => is3 (.int .i64 m) w
 have a1_no124_62 := fun w => no124_62 (.pointer (some ⟨g, 0, none⟩)) w
 have a1_no3 := fun w => no3 (.pointer (some ⟨g, 0, none⟩)) w
 have a1_no68_62 := fun w => no68_62 (.pointer (some ⟨g, 0, none⟩)) w
 have a1_is62 := fun w => is62 (.pointer (some ⟨g, 0, none⟩)) w
 have HN := Lib.hid (fun w => newInt_any m h0m h1m w)
 have HG := Lib.hid hg
 have HL := Lib.hid hL
 clear h0m h1m hg hL
 go_enter Tryz.func82, Tryz.ntmps82
 go_wp2_with fail
 refine (HN.out _).mono ?_
 rintro e w1 ⟨q, rfl, hq, hi, hb⟩
 have HX := Lib.hid (hi.mono HL.out)
 have HY := Lib.hid (HG.out.below hb)
 have HB1 := Lib.hid hb
 clear hq hi hb
 go_wp2_with fail
 refine (HC.out _ _ _ HX.out HY.out).mono ?_
 rintro e w2 ⟨v, rfl, hv, hb⟩
 have HB := Lib.hid (And.intro hv hb); clear hv hb
 go_wp2_with fail
 go_ret
 exact ⟨_, rfl, HB.out.1, HB1.out.trans (HB.out.2.mono HB1.out.size)⟩
set_option maxRecDepth 100000 in
set_option maxHeartbeats 4000000 in
theorem binop_bi (f3 f5 f6 f7 f8 : Nat) (Q : World → Value → Prop) (m n : Int) (L : Nat) (hB : ∀ gx gy w, IntAt w gx m L → IntAt w gy n L → Calls Tryz.prog 98 #[.pointer (some ⟨gx, 0, none⟩), .pointer (some ⟨gy, 0, none⟩)] w (Gives Q w)) (g : Nat) (w : World) (h0n : -9223372036854775808 ≤ n) (h1n : n ≤ 9223372036854775807) (hg : IntAt w g m L) (hL : 2 ≤ L) :
  Calls Tryz.prog 82 #[.iface 62 (.pointer (some ⟨g, 0, none⟩)), .iface 3 (.int .i64 n), Value.func (Fn.func 93) #[] #[], Value.func (Fn.func f3) #[] #[], Value.func (Fn.func 98) #[] #[], Value.func (Fn.func f5) #[] #[], Value.func (Fn.func f6) #[] #[], Value.func (Fn.func f7) #[] #[], Value.func (Fn.func f8) #[] #[]] w (Gives Q w) := by
 have HC := Lib.hid hB
 clear hB
 have a0_no124_62 := fun w => no124_62 (.pointer (some ⟨g, 0, none⟩)) w
 have a0_no3 := fun w => no3 (.pointer (some ⟨g, 0, none⟩)) w
 have a0_no68_62 := fun w => no68_62 (.pointer (some ⟨g, 0, none⟩)) w
 have a0_is62 := fun w => is62 (.pointer (some ⟨g, 0, none⟩)) w
 have a1_no124_3 := fun w => no124_3 (.int .i64 n) w
 have a1_is3 := fun w => is3 (.int .i64 n) w
 have HN := Lib.hid (fun w => newInt_any n h0n h1n w)
 have HG := Lib.hid hg
 have HL := Lib.hid hL
 clear h0n h1n hg hL
 go_enter Tryz.func82, Tryz.ntmps82
 go_wp2_with fail
 refine (HN.out _).mono ?_
 rintro e w1 ⟨q, rfl, hq, hi, hb⟩
 have HY := Lib.hid (hi.mono HL.out)
 have HX := Lib.hid (HG.out.below hb)
 have HB1 := Lib.hid hb
 clear hq hi hb
 go_wp2_with fail
 refine (HC.out _ _ _ HX.out HY.out).mono ?_
 rintro e w2 ⟨v, rfl, hv, hb⟩
 have HB := Lib.hid (And.intro hv hb); clear hv hb
 go_wp2_with fail
 go_ret
 exact ⟨_, rfl, HB.out.1, HB1.out.trans (HB.out.2.mono HB1.out.size)⟩
set_option maxRecDepth 100000 in
set_option maxHeartbeats 4000000 in
theorem binop_bb (f3 f5 f6 f7 f8 : Nat) (Q : World → Value → Prop) (m n : Int) (L : Nat) (hB : ∀ gx gy w, IntAt w gx m L → IntAt w gy n L → Calls Tryz.prog 98 #[.pointer (some ⟨gx, 0, none⟩), .pointer (some ⟨gy, 0, none⟩)] w (Gives Q w)) (g k : Nat) (w : World) (hg : IntAt w g m L) (hk : IntAt w k n L) :
  Calls Tryz.prog 82 #[.iface 62 (.pointer (some ⟨g, 0, none⟩)), .iface 62 (.pointer (some ⟨k, 0, none⟩)), Value.func (Fn.func 93) #[] #[], Value.func (Fn.func f3) #[] #[], Value.func (Fn.func 98) #[] #[], Value.func (Fn.func f5) #[] #[], Value.func (Fn.func f6) #[] #[], Value.func (Fn.func f7) #[] #[], Value.func (Fn.func f8) #[] #[]] w (Gives Q w) := by
 have HC := Lib.hid hB
 clear hB
 have a0_no124_62 := fun w => no124_62 (.pointer (some ⟨g, 0, none⟩)) w
 have a0_no3 := fun w => no3 (.pointer (some ⟨g, 0, none⟩)) w
 have a0_no68_62 := fun w => no68_62 (.pointer (some ⟨g, 0, none⟩)) w
 have a0_is62 := fun w => is62 (.pointer (some ⟨g, 0, none⟩)) w
 have a1_no124_62 := fun w => no124_62 (.pointer (some ⟨k, 0, none⟩)) w
 have a1_no3 := fun w => no3 (.pointer (some ⟨k, 0, none⟩)) w
 have a1_no68_62 := fun w => no68_62 (.pointer (some ⟨k, 0, none⟩)) w
 have a1_is62 := fun w => is62 (.pointer (some ⟨k, 0, none⟩)) w
 have HX := Lib.hid hg
 have HY := Lib.hid hk
 clear hg hk
 go_enter Tryz.func82, Tryz.ntmps82
 go_wp2_with fail
 refine (HC.out _ _ _ HX.out HY.out).mono ?_
 rintro e w2 ⟨v, rfl, hv, hb⟩
 have HB := Lib.hid (And.intro hv hb); clear hv hb
 go_wp2_with fail
 go_ret
 exact ⟨_, rfl, HB.out.1, HB.out.2⟩
theorem binop_any (f3 f5 f6 f7 f8 : Nat) (Q : World → Value → Prop) (m n : Int) (L : Nat) (hI : -9223372036854775808 ≤ m → m ≤ 9223372036854775807 → -9223372036854775808 ≤ n → n ≤ 9223372036854775807 → ∀ w, Calls Tryz.prog 93 #[.int .i64 m, .int .i64 n] w (Gives Q w)) (hB : ∀ gx gy w, IntAt w gx m L → IntAt w gy n L → Calls Tryz.prog 98 #[.pointer (some ⟨gx, 0, none⟩), .pointer (some ⟨gy, 0, none⟩)] w (Gives Q w)) (va vb : Value) (w : World) (ha : GoN w m L va) (hb : GoN w n L vb) (hL : 2 ≤ L) :
  Calls Tryz.prog 82 #[va, vb, Value.func (Fn.func 93) #[] #[], Value.func (Fn.func f3) #[] #[], Value.func (Fn.func 98) #[] #[], Value.func (Fn.func f5) #[] #[], Value.func (Fn.func f6) #[] #[], Value.func (Fn.func f7) #[] #[], Value.func (Fn.func f8) #[] #[]] w (Gives Q w) := by
 rcases ha with ⟨rfl, a0, a1⟩ | ⟨g, rfl, ha⟩
 ·
  rcases hb with ⟨rfl, b0, b1⟩ | ⟨k, rfl, hb⟩
  ·
   exact binop_ii f3 f5 f6 f7 f8 Q m n (hI a0 a1 b0 b1) w
  ·
   exact binop_ib f3 f5 f6 f7 f8 Q m n L hB k w a0 a1 hb hL
 ·
  rcases hb with ⟨rfl, b0, b1⟩ | ⟨k, rfl, hb⟩
  ·
   exact binop_bi f3 f5 f6 f7 f8 Q m n L hB g w b0 b1 ha hL
  ·
   exact binop_bb f3 f5 f6 f7 f8 Q m n L hB g k w ha hb
end Go.Proofs.YtaiidipcmnejoaaGreatDoor.OpModW

/- The rest of two integers from 0 on: the closures of funcOpMod, ZzOpMod, BigMod. -/
set_option linter.unusedVariables false
set_option linter.unusedSimpArgs false
namespace Go.Proofs.YtaiidipcmnejoaaGreatDoor.OpModW
open Go.RowKit Go.Lib Go.Proofs.YtaiidipcmnejoaaGreatDoorW.PrintWords Go.Proofs.YtaiidipcmnejoaaGreatDoorW.PrintLast Go.Proofs.YtaiidipcmnejoaaGreatDoorW.PrintMore
open Go.Proofs.YtaiidipcmnejoaaGreatDoor.Nt Go.Proofs.YtaiidipcmnejoaaGreatDoor.Dec Go.Proofs.YtaiidipcmnejoaaGreatDoor.IntW Go.Proofs.YtaiidipcmnejoaaGreatDoor.NumW Go.Proofs.YtaiidipcmnejoaaGreatDoor.NumV Go.Proofs.YtaiidipcmnejoaaGreatDoor.DivN
open Go.Proofs.YtaiidipcmnejoaaGreatDoor.Spec (S S_list S_toList S_size S_of S_ext)
/-- What the rest of m by n is: the rest, or an error. -/
def Rest (m n : Int) (L : Nat) (w : World) (v : Value) : Prop := (0 < n ∧ GoN w (m % n) (L + 2) v) ∨ (n = 0 ∧ ∃ p, v = .iface 106 p)
set_option maxRecDepth 100000 in
set_option maxHeartbeats 8000000 in
theorem mod_ii (m n : Int) (hm : 0 ≤ m) (hn : 0 ≤ n) (a1 : m ≤ 9223372036854775807) (b1 : n ≤ 9223372036854775807) (L : Nat) (w : World) :
  Calls Tryz.prog 93 #[.int .i64 m, .int .i64 n] w (Gives (Rest m n L) w) := by
 by_cases h0 : n = 0
 ·
  have f1 : (n == 0) = true := beq_iff_eq.2 h0
  have H0 := Lib.hid h0
  clear hm hn a1 b1 h0
  go_enter Tryz.func93, Tryz.ntmps93
  go_wp2_with fail
  go_ret
  exact ⟨_, rfl, .inr ⟨H0.out, _, rfl⟩, (Below.refl _ w).alloc (Nat.le_refl _) _⟩
 ·
  have f1 : (n == 0) = false := beq_eq_false_iff_ne.2 h0
  have f2 : (n == -1) = false := beq_eq_false_iff_ne.2 (by omega)
  have hlt := Int.emod_lt_of_pos m (show 0 < n by omega)
  have hge := Int.emod_nonneg m h0
  have he : m.tmod n = m % n := Int.tmod_eq_emod_of_nonneg hm
  have HW : Hid (m.tmod n = m % n) := Lib.hid he
  have HW2 : Hid (wrap64 (m.tmod n) = m % n) := Lib.hid (by rw [he]; unfold wrap64; omega)
  have HR := Lib.hid (show 0 < n ∧ -9223372036854775808 ≤ m % n ∧ m % n ≤ 9223372036854775807 by omega)
  clear hm hn a1 b1 h0 hlt hge he
  go_enter Tryz.func93, Tryz.ntmps93
  go_wp2_with fail
  ·
   exfalso; have := HR.out.1; simp_all
  go_ret
  exact ⟨_, rfl, .inl ⟨HR.out.1, .inl ⟨congrArg (fun x => Value.iface 3 (.int .i64 x)) (by first | exact HW.out | exact HW2.out), HR.out.2⟩⟩, Below.refl _ _⟩
set_option maxRecDepth 100000 in
set_option maxHeartbeats 8000000 in
theorem sign_int (g : Nat) (n : Int) (L : Nat) (w : World) (h : IntAt w g n L) (hn : 0 ≤ n) (q : Int) (hq : q = if n = 0 then 0 else 1) :
  Calls Tryz.prog 99 #[.pointer (some ⟨g, 0, none⟩)] w fun e w' => e = .returned (.int .i64 q) ∧ Below w.heap.size w w' := by
 obtain ⟨neg, ds, sv, h1, ⟨A, c, rfl, hc, hC⟩, h3, h4, h5, h6⟩ := h
 obtain ⟨x0, x1, x2, x3⟩ := two_cells h1
 by_cases h0 : ds = []
 ·
  have hz : n = 0 := by rw [h4, h0]; cases neg <;> simp [nv]
  have f1 : ((ds.length : Int) == 0) = true := by rw [h0]; rfl
  have HZ : Hid (0 = q) := Lib.hid (by rw [hq, if_pos hz])
  clear hq
  clear h1 hc hC h3 h4 h5 h6 h0 hz hn x2 x3
  go_enter Tryz.func99, Tryz.ntmps99
  go_wp2_with fail
  go_ret
  exact ⟨congrArg (fun x => Ending.returned (.int .i64 x)) HZ.out, by first | exact Below.refl _ _ | exact pw_below_drewN (Below.refl _ _) _⟩
 ·
  have hl : ds.length ≠ 0 := fun e => h0 (List.length_eq_zero_iff.1 e)
  have hp : nv ds ≠ 0 := fun e => h0 ((nv_zero h3).1 e)
  have hnn := nv_nonneg ds h3.1
  have hneg : neg = false := by
   cases neg with
   | false => rfl
   | true => simp only [if_true] at h4; omega
  subst hneg
  have f1 : ((ds.length : Int) == 0) = false := beq_eq_false_iff_ne.2 (by omega)
  have HZ : Hid (1 = q) := Lib.hid (by rw [hq, if_neg (show n ≠ 0 by simp only [Bool.false_eq_true, if_false] at h4; omega)])
  clear hq
  clear h1 hc hC h3 h4 h5 h6 h0 hl hp hnn hn x2 x3
  go_enter Tryz.func99, Tryz.ntmps99
  go_wp2_with fail
  go_ret
  exact ⟨congrArg (fun x => Ending.returned (.int .i64 x)) HZ.out, by first | exact Below.refl _ _ | exact pw_below_drewN (Below.refl _ _) _⟩
set_option maxRecDepth 100000 in
set_option maxHeartbeats 8000000 in
theorem mod_bb (m n : Int) (hm : 0 ≤ m) (hn : 0 ≤ n) (L : Nat) (hL : L ≤ 100000) (gx gy : Nat) (w : World) (hx : IntAt w gx m L) (hy : IntAt w gy n L) :
  Calls Tryz.prog 98 #[.pointer (some ⟨gx, 0, none⟩), .pointer (some ⟨gy, 0, none⟩)] w (Gives (Rest m n L) w) := by
 by_cases h0 : n = 0
 ·
  have HS := Lib.hid (sign_int gy n L w hy hn 0 (by rw [if_pos h0]))
  have H0 := Lib.hid h0
  clear hm hn hx hy h0 hL
  go_enter Tryz.func98, Tryz.ntmps98
  go_wp2_with fail
  refine HS.out.mono ?_
  rintro e w1 ⟨rfl, hb⟩
  have HB := Lib.hid hb; clear hb
  go_wp2_with fail
  go_ret
  exact ⟨_, rfl, .inr ⟨H0.out, _, rfl⟩, HB.out.trans ((Below.refl _ w1).alloc (Nat.le_refl _) _ |>.mono HB.out.size)⟩
 ·
  have HS := Lib.hid (sign_int gy n L w hy hn 1 (by rw [if_neg h0]))
  have HX := Lib.hid hx
  have HY := Lib.hid hy
  have H0 := Lib.hid (show 0 < n by omega)
  have HC := Lib.hid (fun (gz : Nat) (w : World) hz hx hy => rem_new gz false none 0 0 gx gy m n L w hz hx hy hL hm (by omega))
  clear hm hn hx hy h0 hL
  go_enter Tryz.func98, Tryz.ntmps98
  go_wp2_with fail
  refine HS.out.mono ?_
  rintro e w1 ⟨rfl, hb⟩
  have HB := Lib.hid hb; clear hb
  go_wp2_with fail
  obtain ⟨w0, hw0⟩ : ∃ w0, w0 = w1.alloc (.cells #[.bool false, .slice none 0 0] 97) := ⟨_, rfl⟩
  have hz : w0.heap[w1.heap.size]? = some (.cells #[.bool false, .slice none 0 0] 97) := by rw [hw0]; exact heap_alloc_new w1 _
  have hb : Below w1.heap.size w1 w0 := by rw [hw0]; exact (Below.refl _ w1).alloc (Nat.le_refl _) _
  have HB0 := Lib.hid (HB.out.trans (hb.mono HB.out.size))
  have HZ := Lib.hid hz
  rw [← hw0]
  clear hw0 hz hb
  refine (HC.out w1.heap.size w0 HZ.out (HX.out.below HB0.out) (HY.out.below HB0.out)).mono ?_
  rintro e w2 ⟨rfl, hi, hg⟩
  have H2 := Lib.hid (And.intro hi hg); clear hi hg
  go_wp2_with fail
  go_ret
  exact ⟨_, rfl, .inl ⟨H0.out, .inr ⟨_, rfl, H2.out.1⟩⟩, HB0.out.grown H2.out.2 HB0.out.size (fun k hk => by cases hk; exact HB.out.size)⟩
set_option maxRecDepth 100000 in
set_option maxHeartbeats 8000000 in
theorem opMod (m n : Int) (hm : 0 ≤ m) (hn : 0 ≤ n) (L : Nat) (h2 : 2 ≤ L) (hL : L ≤ 100000) (va vb : Value) (w : World) (ha : GoN w m L va) (hb : GoN w n L vb) :
  Calls Tryz.prog 41 #[va, vb] w (Gives (Rest m n L) w) := by
 have HC := Lib.hid (OpModW.binop_any 94 101 102 103 104 (Rest m n L) m n L (fun a0 a1 b0 b1 w => mod_ii m n hm hn a1 b1 L w) (fun gx gy w hx hy => mod_bb m n hm hn L hL gx gy w hx hy) va vb w ha hb h2)
 clear h2 hL ha hb hm hn
 have H60 : Hid (Calls Tryz.prog 60 #[.nilIface, va, vb] w (Gives (Rest m n L) w)) := by
  refine Lib.hid ?_
  go_enter Tryz.func60, Tryz.ntmps60
  go_wp2_with fail
  refine HC.out.mono ?_
  rintro e w1 ⟨v, rfl, hv⟩
  have HB := Lib.hid hv; clear hv
  go_wp2_with fail
  go_ret
  exact ⟨_, rfl, HB.out⟩
 clear HC
 go_enter Tryz.func41, Tryz.ntmps41
 go_wp2_with fail
 refine H60.out.mono ?_
 rintro e w1 ⟨v, rfl, hv⟩
 have HB := Lib.hid hv; clear hv
 go_wp2_with fail
 go_ret
 exact ⟨_, rfl, HB.out⟩
theorem isErr106 (v : Value) (w : World) : (Instr.typeAssert (.iface 106 v) 20 51 true).run Tryz.prog w = .ok (.tuple #[.iface 106 v, .bool true]) w := by kernel_rfl
set_option maxRecDepth 100000 in
set_option maxHeartbeats 8000000 in
/-- An error is told by its End. -/
theorem fromGo_err (p : Value) (w : World) :
  Calls Tryz.prog 33 #[.iface 106 p] w fun e w' => e = .returned (.agg #[.string ⟨#[]⟩, .int .i64 1]) ∧ Below w.heap.size w w' := by
 have a1 := fun w => isErr106 p w
 go_enter Tryz.func33, Tryz.ntmps33
 go_wp2_with fail
 obtain ⟨q0, q1, q2, q3⟩ := two_cells (heap_alloc_new w (.cells #[.string ⟨#[]⟩, .int .i64 1] 25))
 refine bodyPost_ret (v := .agg #[.string ⟨#[]⟩, .int .i64 1]) (by simp [results, Tryz.results33, go_sem, q0, q1]) rfl ?_
 exact ⟨rfl, (Below.refl _ w).alloc (Nat.le_refl _) _⟩
theorem fromGo_rest (m n : Int) (L : Nat) (v : Value) (w : World) (h : Rest m n L w v) (hL : L + 2 ≤ 100000) (hE : Env w) :
  Calls Tryz.prog 33 #[v] w fun e w' => (∃ t d, e = .returned (.agg #[.string t, .int .i64 d]) ∧ (0 < n → t = S (itoa (m % n)) ∧ d = 0) ∧ (n = 0 → d = 1)) ∧ Below w.heap.size w w' := by
 rcases h with ⟨h0, h⟩ | ⟨h0, p, rfl⟩
 ·
  exact (fromGo_any v (m % n) (L + 2) w h hL hE).mono (fun e w' ⟨h1, h2⟩ => ⟨⟨_, _, h1, fun _ => ⟨rfl, rfl⟩, fun h => by omega⟩, h2⟩)
 ·
  exact (fromGo_err p w).mono (fun e w' ⟨h1, h2⟩ => ⟨⟨_, _, h1, fun h => by omega, fun _ => rfl⟩, h2⟩)
set_option maxRecDepth 100000 in
set_option maxHeartbeats 8000000 in
/-- BigMod of integers from 0 on. -/
theorem bigMod (m n : Int) (hm0 : 0 ≤ m) (hn0 : 0 ≤ n) (a b : ByteArray) (ha : a = S (itoa m)) (hb : b = S (itoa n)) (hm : (itoa m).length ≤ 40000) (hn : (itoa n).length ≤ 40000) (w : World) (hE : Env w) :
  Calls Tryz.prog 19 #[.string a, .string b] w fun e w' => (∃ t d, e = .returned (.agg #[.string t, .int .i64 d]) ∧ (0 < n → t = S (itoa (m % n)) ∧ d = 0) ∧ (n = 0 → d = 1)) ∧ Below w.heap.size w w' := by
 obtain ⟨L, h2, hL, hml, hnl⟩ : ∃ L, 2 ≤ L ∧ L ≤ 40000 ∧ (itoa m).length ≤ L ∧ (itoa n).length ≤ L := ⟨40000, by omega, by omega, by omega, by omega⟩
 have HA := Lib.hid (fun w (hE : Env w) => (toGo_any m a ha (by omega) w hE).mono (fun e w' ⟨v, h1, h2, h3⟩ => (⟨v, h1, h2.mono hml, h3⟩ : ∃ v, e = Ending.returned (.tuple #[v, .bool true]) ∧ GoN w' m L v ∧ Below w.heap.size w w')))
 have HB := Lib.hid (fun w (hE : Env w) => (toGo_any n b hb (by omega) w hE).mono (fun e w' ⟨v, h1, h2, h3⟩ => (⟨v, h1, h2.mono hnl, h3⟩ : ∃ v, e = Ending.returned (.tuple #[v, .bool true]) ∧ GoN w' n L v ∧ Below w.heap.size w w')))
 have HO := Lib.hid (fun va vb w ha hb => opMod m n hm0 hn0 L h2 (by omega) va vb w ha hb)
 have HF := Lib.hid (fun v w (h : Rest m n L w v) hE => fromGo_rest m n L v w h (by omega) hE)
 have HE := Lib.hid hE
 clear h2 hL hml hnl ha hb hm hn hE hm0 hn0
 go_enter Tryz.func19, Tryz.ntmps19
 go_wp2_with fail
 obtain ⟨w0, hw0⟩ : ∃ w0, w0 = w.alloc (.cells #[.string ⟨#[]⟩, .int .i64 0] 25) := ⟨_, rfl⟩
 have hx : w0.heap[w.heap.size]? = some (.cells #[.string ⟨#[]⟩, .int .i64 0] 25) := by rw [hw0]; exact heap_alloc_new w _
 have hb : Below w.heap.size w w0 := by rw [hw0]; exact (Below.refl _ w).alloc (Nat.le_refl _) _
 have H0 : Hid (w0.heap[w.heap.size]? = some (.cells #[.string ⟨#[]⟩, .int .i64 0] 25) ∧ Below w.heap.size w w0 ∧ Env w0) := Lib.hid ⟨hx, hb, HE.out.below hb⟩
 rw [← hw0]
 clear hw0 hx hb
 refine (HA.out w0 H0.out.2.2).mono ?_
 rintro e w1 ⟨va, rfl, hv, hb⟩
 have H1 : Hid (w1.heap[w.heap.size]? = some (.cells #[.string ⟨#[]⟩, .int .i64 0] 25) ∧ Below w.heap.size w w1 ∧ Env w1 ∧ GoN w1 m L va) := Lib.hid ⟨by rw [hb.block _ (IntW.lt_of_heap H0.out.1)]; exact H0.out.1, H0.out.2.1.trans (hb.mono H0.out.2.1.size), H0.out.2.2.below hb, hv⟩
 clear hv hb
 go_wp2_with fail
 refine (HB.out w1 H1.out.2.2.1).mono ?_
 rintro e w2 ⟨vb, rfl, hv, hb⟩
 have H2 : Hid (w2.heap[w.heap.size]? = some (.cells #[.string ⟨#[]⟩, .int .i64 0] 25) ∧ Below w.heap.size w w2 ∧ Env w2 ∧ GoN w2 m L va ∧ GoN w2 n L vb) := Lib.hid ⟨by rw [hb.block _ (IntW.lt_of_heap H1.out.1)]; exact H1.out.1, H1.out.2.1.trans (hb.mono H1.out.2.1.size), H1.out.2.2.1.below hb, H1.out.2.2.2.below hb, hv⟩
 clear hv hb
 go_wp2_with fail
 refine (HO.out va vb w2 H2.out.2.2.2.1 H2.out.2.2.2.2).mono ?_
 rintro e w3 ⟨vc, rfl, hv, hb⟩
 have H3 : Hid (w3.heap[w.heap.size]? = some (.cells #[.string ⟨#[]⟩, .int .i64 0] 25) ∧ Below w.heap.size w w3 ∧ Env w3 ∧ Rest m n L w3 vc) := Lib.hid ⟨by rw [hb.block _ (IntW.lt_of_heap H2.out.1)]; exact H2.out.1, H2.out.2.1.trans (hb.mono H2.out.2.1.size), H2.out.2.2.1.below hb, hv⟩
 clear hv hb
 go_wp2_with fail
 refine (HF.out vc w3 H3.out.2.2.2 H3.out.2.2.1).mono ?_
 rintro e w4 ⟨⟨t, d, rfl, ht⟩, hb⟩
 have HT := Lib.hid ht; clear ht
 have hx : w4.heap[w.heap.size]? = some (.cells #[.string ⟨#[]⟩, .int .i64 0] 25) := by rw [hb.block _ (IntW.lt_of_heap H3.out.1)]; exact H3.out.1
 have H4 := Lib.hid (H3.out.2.1.trans (hb.mono H3.out.2.1.size)); clear hb
 have y := two_cells hx
 go_wp2_with fail
 have hz : ((w4.setCell ⟨w.heap.size, 0, none⟩ (.string t)).setCell ⟨w.heap.size, 1, none⟩ (.int .i64 d)).heap[w.heap.size]? = some (.cells #[.string t, .int .i64 d] 25 (0, 0)) := by
  rw [heap_set (heap_set hx 0 _) 1 _]; rfl
 have hg := grown_set (grown_set (⟨rfl, rfl, rfl, Nat.le_refl _, fun _ _ _ => rfl⟩ : w4.grownBy w4 (some w.heap.size)) 0 (.string t)) 1 (.int .i64 d)
 obtain ⟨W2, hW⟩ : ∃ W2, W2 = ((w4.setCell ⟨w.heap.size, 0, none⟩ (.string t)).setCell ⟨w.heap.size, 1, none⟩ (.int .i64 d)) := ⟨_, rfl⟩
 rw [← hW] at hz hg ⊢
 obtain ⟨q0, q1, q2, q3⟩ := two_cells hz
 refine bodyPost_ret (v := .agg #[.string t, .int .i64 d]) (by simp [results, Tryz.results19, go_sem, q0, q1]) rfl ?_
 exact ⟨⟨t, d, rfl, HT.out⟩, H4.out.grown hg H4.out.size (fun k hk => by cases hk; exact Nat.le_refl _)⟩
end Go.Proofs.YtaiidipcmnejoaaGreatDoor.OpModW

/- Plain mathematics: what WholeDiv gives at integers from 0 on, the divisor not 0. -/
set_option linter.unusedVariables false
set_option linter.unusedSimpArgs false
namespace Go.Proofs.YtaiidipcmnejoaaGreatDoor.WdP
open Go.RowKit Go.Lib Go.Proofs.YtaiidipcmnejoaaGreatDoorW.PrintWords Go.Proofs.YtaiidipcmnejoaaGreatDoorW.PrintLast Go.Proofs.YtaiidipcmnejoaaGreatDoorW.PrintMore
open Go.Proofs.YtaiidipcmnejoaaGreatDoor.Dec
open Go.Proofs.YtaiidipcmnejoaaGreatDoor.Spec (S S_list S_toList S_size S_of S_ext w64 bt_S bt_S0 S_drop digitsB_le below_pow le_lt pow_cast mod_next)
theorem e_below : PWholeDiv.spec_below.f = Pwide.spec_below.f := rfl
theorem e_digitsOf : PWholeDiv.spec_digitsOf.f = Pwide.spec_digitsOf.f := rfl
theorem less_signed_f (neg : Bool) (k : Nat) : ∀ (l : List UInt8), l.length ≤ 140737488355328 → l.length + 1 ≤ k → PWholeDiv.spec_signed.f k neg (S l) = some (S (signedB neg l)) := by
 unfold PWholeDiv.spec_signed.f
 induction k with
 | zero => intro l _ hk; omega
 | succ k ih =>
  intro l hl hk
  have fin : ∀ m : List UInt8, m.length ≤ 140737488355328 → strip m = m → (if neg = true then (if (S m).toList = ([48] : List UInt8) then (some (S m)) else (if 1 + (S m).size ≤ 9223372036854775807 then (some ((⟨#[45]⟩ : ByteArray) ++ (S m))) else (none))) else (some (S m))) = some (S (signedB neg m)) := by
   intro m hm hs
   unfold signedB
   rw [hs, S_toList, S_size]
   cases neg with
   | false => rfl
   | true =>
    rw [if_pos rfl]
    by_cases h : m = [48]
    ·
     subst h; rfl
    ·
     rw [if_neg h, if_pos (by omega)]
     have : (m == [48]) = false := by simpa using h
     rw [this]
     simp only [Bool.not_false, Bool.and_self, if_true]
     congr 1
  simp only [PWholeDiv.spec_signed.l0]
  match l, hl, hk with
  | [], hl, hk =>
   rw [if_neg (by rw [S_size]; simp)]
   exact fin [] (by simp) rfl
  | [c], hl, hk =>
   rw [if_neg (by rw [S_size]; simp)]
   exact fin [c] (by simp) rfl
  | c :: d :: r, hl, hk =>
   rw [if_pos (by rw [S_size]; simp only [List.length_cons]; omega), if_pos (by rw [S_size]; simp only [List.length_cons]; omega), bt_S0]
   by_cases h48 : (c.toNat : Int) = 48
   ·
    have hc : c = 48 := toNat_inj (by simpa using (Int.ofNat.inj h48))
    subst hc
    rw [if_pos (by rfl), if_pos (by rw [S_size]; simp only [List.length_cons]; omega), S_drop _ _ _ (S_size _), List.drop_one, List.tail_cons, ih (d :: r) (by simp only [List.length_cons] at hl ⊢; omega) (by simp only [List.length_cons] at hk ⊢; omega)]
    congr 2
   ·
    rw [if_neg h48]
    refine fin _ hl ?_
    rw [strip, if_neg (by rintro rfl; exact h48 rfl)]

theorem less_digitAt_f (l : List UInt8) (h : isDig l) (hl : l.length ≤ 140737488355328) (i : Nat) (hi : i ≤ 140737488355328) : PWholeDiv.spec_digitAt.f (S l) (i : Int) = some ((be l / 10 ^ i % 10 : Nat) : Int) := by
 unfold PWholeDiv.spec_digitAt.f
 rw [S_size]
 by_cases hlt : i < l.length
 ·
  rw [if_neg (by omega), w64 ((l.length : Int) - 1) (by omega) (by omega), w64 ((l.length : Int) - 1 - (i : Int)) (by omega) (by omega), if_pos (by omega), if_pos (by omega)]
  have et : ((l.length : Int) - 1 - (i : Int)).toNat = l.length - 1 - i := by omega
  rw [bt_S l _ (by omega)]
  simp only [et]
  have hd := digit_at l h i hlt
  have hr := h _ (List.getElem_mem (show l.length - 1 - i < l.length by omega))
  congr 1
  omega
 ·
  rw [if_pos (by omega), digit_above l h i (by omega)]; rfl

theorem less_textOf_l0 (l : List Int) (hd : digs l) (hl : l.length ≤ 1000000000) (n : Nat) : ∀ (k i : Nat) (x3 : List Int), i ≤ l.length → l.length - i = n → n + l.length + 3 ≤ k → x3.length = l.length →
  x3.drop (l.length - i) = ((l.take i).reverse.map fun d => 48 + d) →
  PWholeDiv.spec_textOf.l0 k l x3 l (l.length : Int) (i : Int) = some (S (signedB false (chars l))) := by
 induction n with
 | zero =>
  intro k i x3 hi hn hk hx he
  obtain ⟨k, rfl⟩ : ∃ m, k = m + 1 := ⟨k - 1, by omega⟩
  have : i = l.length := by omega
  subst this
  simp only [PWholeDiv.spec_textOf.l0]
  rw [if_neg (by omega)]
  rw [Nat.sub_self, List.drop_zero, List.take_length] at he
  have es : strOfNums x3 = S (chars l) := by
   apply S_ext
   rw [he]
   simp only [strOfNums, chars, List.map_map]
   congr 1
  rw [es, less_signed_f false k (chars l) (by rw [chars_length]; omega) (by rw [chars_length]; omega)]
  rfl
 | succ n ih =>
  intro k i x3 hi hn hk hx he
  obtain ⟨k, rfl⟩ : ∃ m, k = m + 1 := ⟨k - 1, by omega⟩
  have hlt : i < l.length := by omega
  have hdi := hd l[i] (List.getElem_mem hlt)
  have erd : rd l (i : Int) = l[i] := by
   unfold rd
   rw [show ((i : Int)).toNat = i by omega, List.getD_eq_getElem?_getD, List.getElem?_eq_getElem hlt]; rfl
  simp only [PWholeDiv.spec_textOf.l0]
  rw [if_pos (by omega), if_pos (by omega), if_pos (by omega), w64 ((l.length : Int) - 1) (by omega) (by omega), w64 ((l.length : Int) - 1 - (i : Int)) (by omega) (by omega), if_pos (by omega), if_pos (by omega),
   w64 ((i : Int) + 1) (by omega) (by omega), show ((i : Int) + 1) = ((i + 1 : Nat) : Int) by omega, erd, w64 _ (by omega) (by omega), show ((l.length : Int) - 1 - (i : Int)).toNat = l.length - 1 - i by omega, show (48 + l[i]) % 256 = 48 + l[i] by omega]
  refine ih k (i + 1) _ (by omega) (by omega) (by omega) (by rw [List.length_set]; exact hx) ?_
  have e1 : l.take (i + 1) = l.take i ++ [l[i]] := by rw [List.take_add_one, List.getElem?_eq_getElem hlt]; rfl
  rw [e1, List.reverse_append, List.map_append, ← he, show l.length - (i + 1) = l.length - 1 - i by omega]
  have hj : l.length - 1 - i < x3.length := by omega
  rw [List.drop_eq_getElem_cons (by rw [List.length_set]; exact hj), List.getElem_set_self, List.drop_set_of_lt (by omega), show l.length - 1 - i + 1 = l.length - i by omega]
  rfl
theorem less_textOf_f (l : List Int) (hd : digs l) (h0 : l ≠ []) (hl : l.length ≤ 1000000000) (k : Nat) (hk : 2 * l.length + 3 ≤ k) : PWholeDiv.spec_textOf.f k l = some (S (decDigits (le l).toNat)) := by
 unfold PWholeDiv.spec_textOf.f
 rw [if_pos (by omega), if_pos (by omega)]
 have := less_textOf_l0 l hd hl l.length k 0 (List.replicate ((l.length : Int)).toNat 0) (by omega) (by omega) (by omega) (by simp) (by simp)
 erw [this]
 have hc0 : chars l ≠ [] := fun e => h0 (List.length_eq_zero_iff.1 (by rw [← chars_length, e]; rfl))
 have h1 := le_nonneg l hd
 rw [signed_eq false _ (chars_dig l hd) hc0, be_chars l hd, if_neg (by decide), itoa_pos _ (by omega)]
 rfl

theorem sub_step (A B i : Nat) (out : List Int) (c n c' d : Int) (hl : out.length = i) (hinv : le out = ((A % 10 ^ i : Nat) : Int) - ((B % 10 ^ i : Nat) : Int) + c * 10 ^ i)
  (hn : n = ((A / 10 ^ i % 10 : Nat) : Int) - ((B / 10 ^ i % 10 : Nat) : Int) - c) (hd : d = n + 10 * c') :
  le (out ++ [d]) = ((A % 10 ^ (i + 1) : Nat) : Int) - ((B % 10 ^ (i + 1) : Nat) : Int) + c' * 10 ^ (i + 1) := by
 rw [le_snoc, hl, mod_next, mod_next, Int.pow_succ, hd, hn]
 have h3 := hinv
 have e : c' * (10 ^ i * 10) = 10 * c' * 10 ^ i := by rw [Int.mul_comm (10 ^ i) 10, ← Int.mul_assoc, Int.mul_comm c' 10]
 rw [e]
 simp only [Int.natCast_add, Int.natCast_mul, pow_cast] at *
 simp only [Int.add_mul, Int.sub_mul]
 omega

theorem less_l0 (X Y : List UInt8) (hX : isDig X) (hY : isDig Y) (hXl : X.length ≤ 1000000) (hYl : Y.length ≤ 1000000) (h0 : X ≠ []) (hge : be Y ≤ be X) (n : Nat) :
  ∀ (k i : Nat) (out : List Int) (c : Int), i + n = X.length → 2 * X.length + n + 10 ≤ k → out.length = i → digs out → 0 ≤ c → c ≤ 1 →
  le out = ((be X % 10 ^ i : Nat) : Int) - ((be Y % 10 ^ i : Nat) : Int) + c * 10 ^ i →
  PWholeDiv.spec_less.l0 k (S X) (S Y) out c (i : Int) = some (S (decDigits (be X - be Y))) := by
 induction n with
 | zero =>
  intro k i out c hi hk hl hd hc0 hc1 hinv
  obtain ⟨k, rfl⟩ : ∃ m, k = m + 1 := ⟨k - 1, by omega⟩
  have b1 := be_lt X hX
  have hi' : i = X.length := by omega
  rw [← hi'] at b1
  rw [Nat.mod_eq_of_lt b1, Nat.mod_eq_of_lt (by omega)] at hinv
  have h5 := le_lt out hd
  rw [hl, ← pow_cast i] at h5
  rw [← pow_cast i] at hinv
  have hc : c = 0 := by
   by_cases hc : c = 0
   ·
    exact hc
   ·
    have : c = 1 := by omega
    subst this; omega
  subst hc
  rw [PWholeDiv.spec_less.l0, if_neg (by rw [S_size]; omega),
   less_textOf_f out hd (fun e => by rw [e] at hl; simp at hl; exact h0 (List.length_eq_zero_iff.1 (by omega))) (by omega) k (by omega), Option.bind_some]
  congr 3
  omega
 | succ n ih =>
  intro k i out c hi hk hl hd hc0 hc1 hinv
  obtain ⟨k, rfl⟩ : ∃ m, k = m + 1 := ⟨k - 1, by omega⟩
  obtain ⟨a, ha⟩ : ∃ a : Int, a = ((be X / 10 ^ i % 10 : Nat) : Int) := ⟨_, rfl⟩
  obtain ⟨b, hb⟩ : ∃ b : Int, b = ((be Y / 10 ^ i % 10 : Nat) : Int) := ⟨_, rfl⟩
  have ha9 : 0 ≤ a ∧ a ≤ 9 := by omega
  have hb9 : 0 ≤ b ∧ b ≤ 9 := by omega
  rw [PWholeDiv.spec_less.l0, if_pos (by rw [S_size]; omega), less_digitAt_f X hX (by omega) i (by omega), Option.bind_some, less_digitAt_f Y hY (by omega) i (by omega), Option.bind_some, ← ha, ← hb,
   w64 (a - b) (by omega) (by omega), w64 (a - b - c) (by omega) (by omega), w64 ((i : Int) + 1) (by omega) (by omega)]
  have e1 : ((i : Int) + 1) = ((i + 1 : Nat) : Int) := by omega
  rw [e1]
  by_cases hneg : a - b - c < 0
  ·
   rw [if_pos hneg, if_pos (by omega), w64 (a - b - c + 10) (by omega) (by omega)]
   refine ih k (i + 1) _ _ (by omega) (by omega) (by simp [hl]) (digs_snoc hd (by omega) (by omega)) (by omega) (by omega) ?_
   exact sub_step (be X) (be Y) i out c (a - b - c) 1 _ hl hinv (by rw [ha, hb]) (by omega)
  ·
   rw [if_neg hneg, if_pos (by omega)]
   refine ih k (i + 1) _ _ (by omega) (by omega) (by simp [hl]) (digs_snoc hd (by omega) (by omega)) (by omega) (by omega) ?_
   exact sub_step (be X) (be Y) i out c (a - b - c) 0 _ hl hinv (by rw [ha, hb]) (by omega)
theorem less_f (X Y : List UInt8) (hX : isDig X) (hY : isDig Y) (hXl : X.length ≤ 1000000) (hYl : Y.length ≤ 1000000) (h0 : X ≠ []) (hge : be Y ≤ be X) (k : Nat) (hk : 3 * X.length + 10 ≤ k) :
  PWholeDiv.spec_less.f k (S X) (S Y) = some (S (decDigits (be X - be Y))) := by
 unfold PWholeDiv.spec_less.f
 exact less_l0 X Y hX hY hXl hYl h0 hge X.length k 0 [] 0 (by omega) (by omega) rfl (fun _ h => by cases h) (by omega) (by omega) (by simp [le, Nat.mod_one])
theorem more_f (a b : Nat) (ha : (decDigits a).length ≤ 1000000) (hb : (decDigits b).length ≤ 1000000) :
  ∃ c, PWholeDiv.spec_more.f (S (decDigits a)) (S (decDigits b)) = some c ∧ (c ≥ 0 ↔ b ≤ a) := by
 unfold PWholeDiv.spec_more.f
 rw [S_size, S_size, S_toList, S_toList]
 by_cases hl : (decDigits a).length = (decDigits b).length
 ·
  rw [if_pos (by omega), bytesLess_be _ _ (isDig_decDigits a) (isDig_decDigits b) hl, bytesLess_be _ _ (isDig_decDigits b) (isDig_decDigits a) hl.symm, be_decDigits, be_decDigits]
  by_cases h1 : a < b
  ·
   exact ⟨-1, by rw [if_pos (decide_eq_true h1)], by omega⟩
  ·
   by_cases h2 : b < a
   ·
    exact ⟨1, by rw [if_neg (by simp; omega), if_pos (decide_eq_true h2)], by omega⟩
   ·
    exact ⟨0, by rw [if_neg (by simp; omega), if_neg (by simp; omega)], by omega⟩
 ·
  rw [if_neg (by omega), w64 _ (by omega) (by omega)]
  unfold PWholeDiv.spec_sign.f
  rcases Nat.lt_or_gt_of_ne hl with h | h
  ·
   have := len_lt_of h
   exact ⟨-1, by rw [if_pos (by omega)]; rfl, by omega⟩
  ·
   have := len_lt_of h
   exact ⟨1, by rw [if_neg (by omega), if_pos (by omega)]; rfl, by omega⟩
theorem S_cut (l : List UInt8) (i : Nat) (h : i < l.length) : (S l).extract i (i + 1) = S [l[i]] := by
 apply S_ext
 rw [ByteArray.data_extract, Array.toList_extract]
 show ((l.drop i).take (i + 1 - i)) = [l[i]]
 rw [show i + 1 - i = 1 by omega, List.drop_eq_getElem_cons h]
 rfl
theorem S_add (a b : List UInt8) : S a ++ S b = S (a ++ b) := by
 apply S_ext
 rw [ByteArray.data_append, Array.toList_append]
 rfl
theorem digit_cut (n : Nat) (h : n ≤ 9) : (⟨#[48, 49, 50, 51, 52, 53, 54, 55, 56, 57]⟩ : ByteArray).extract n (n + 1) = S [UInt8.ofNat (48 + n)] := by
 have e : (⟨#[48, 49, 50, 51, 52, 53, 54, 55, 56, 57]⟩ : ByteArray) = S [48, 49, 50, 51, 52, 53, 54, 55, 56, 57] := rfl
 rw [e, S_cut _ n (by simp; omega)]
 match n, h with
 | 0, _ => rfl
 | 1, _ => rfl
 | 2, _ => rfl
 | 3, _ => rfl
 | 4, _ => rfl
 | 5, _ => rfl
 | 6, _ => rfl
 | 7, _ => rfl
 | 8, _ => rfl
 | 9, _ => rfl
theorem signed_dec (l : List UInt8) (h : isDig l) (h0 : l ≠ []) (hl : l.length ≤ 1000000) (k : Nat) (hk : l.length + 1 ≤ k) : PWholeDiv.spec_signed.f k false (S l) = some (S (decDigits (be l))) := by
 rw [less_signed_f false k l (by omega) hk, signed_eq false l h h0]
 simp only [Bool.false_eq_true, if_false]
 rw [itoa_pos _ (by omega), Int.natAbs_natCast]
theorem dlen_mono {a b : Nat} (h : a ≤ b) : (decDigits a).length ≤ (decDigits b).length := by
 by_cases hl : (decDigits a).length ≤ (decDigits b).length
 ·
  exact hl
 ·
  have := len_lt_of (show (decDigits b).length < (decDigits a).length by omega)
  omega
/-- One digit of the quotient: how often the divisor can be taken away. -/
theorem wd_l1 (x0 x1 : ByteArray) (X : List UInt8) (B : Nat) (hB : 0 < B) (hBl : (decDigits B).length ≤ 100000) (q : List UInt8) (hq : q.length ≤ 100000) (i : Nat) (hi : i ≤ 1000000) (n : Nat) :
  ∀ (k : Nat) (R t : Nat), R < (n + 1) * B → t + n ≤ 9 → (decDigits R).length ≤ 100001 → 400000 + 2 * n ≤ k →
   ∃ k', k ≤ k' + n + 1 ∧ PWholeDiv.spec_WholeDiv.l1 k x0 x1 (S X) (S (decDigits B)) (S q) (S (decDigits R)) (i : Int) (t : Int) =
    PWholeDiv.spec_WholeDiv.l0 k' x0 x1 (S X) (S (decDigits B)) (S (q ++ [UInt8.ofNat (48 + (t + R / B))])) (S (decDigits (R % B))) ((i + 1 : Nat) : Int) := by
 have fin : ∀ (k : Nat) (R t : Nat), R < B → t ≤ 9 → (decDigits R).length ≤ 100001 →
   PWholeDiv.spec_WholeDiv.l1 (k + 1) x0 x1 (S X) (S (decDigits B)) (S q) (S (decDigits R)) (i : Int) (t : Int) =
    PWholeDiv.spec_WholeDiv.l0 k x0 x1 (S X) (S (decDigits B)) (S (q ++ [UInt8.ofNat (48 + (t + R / B))])) (S (decDigits (R % B))) ((i + 1 : Nat) : Int) := by
  intro k R t hR ht hRl
  obtain ⟨c, e, hc⟩ := more_f R B (by omega) (by omega)
  have e1 : (t : Int) + 1 = ((t + 1 : Nat) : Int) := by omega
  have e2 : (i : Int) + 1 = ((i + 1 : Nat) : Int) := by omega
  rw [PWholeDiv.spec_WholeDiv.l1, e, Option.bind_some, if_neg (by omega), if_pos (by omega), e1, w64 _ (by omega) (by omega), if_pos (by omega), if_pos (by omega), Int.toNat_natCast, Int.toNat_natCast, digit_cut t ht, S_size, S_size, if_pos (by simp; omega), S_add, e2, w64 _ (by omega) (by omega),
   Nat.div_eq_of_lt hR, Nat.mod_eq_of_lt hR]
  rfl
 induction n with
 | zero =>
  intro k R t hR ht hRl hk
  obtain ⟨k, rfl⟩ : ∃ m, k = m + 1 := ⟨k - 1, by omega⟩
  exact ⟨k, by omega, fin k R t (by omega) (by omega) hRl⟩
 | succ n ih =>
  intro k R t hR ht hRl hk
  obtain ⟨k, rfl⟩ : ∃ m, k = m + 1 := ⟨k - 1, by omega⟩
  by_cases hlt : R < B
  ·
   exact ⟨k, by omega, fin k R t hlt (by omega) hRl⟩
  ·
   obtain ⟨c, e, hc⟩ := more_f R B (by omega) (by omega)
   have hlen := dlen_mono (show R - B ≤ R by omega)
   have hless := less_f (decDigits R) (decDigits B) (isDig_decDigits R) (isDig_decDigits B) (by omega) (by omega) (decDigits_ne_nil R) (by rw [be_decDigits, be_decDigits]; omega) k (by omega)
   rw [be_decDigits, be_decDigits] at hless
   have e1 : (t : Int) + 1 = ((t + 1 : Nat) : Int) := by omega
   rw [PWholeDiv.spec_WholeDiv.l1, e, Option.bind_some, if_pos (by omega), hless, Option.bind_some, e1, w64 _ (by omega) (by omega)]
   rw [Nat.succ_mul] at hR
   obtain ⟨k', h1, h2⟩ := ih k (R - B) (t + 1) (by omega) (by omega) (by omega) (by omega)
   refine ⟨k', by omega, ?_⟩
   rw [h2]
   have h3 : R / B = (R - B) / B + 1 := by
    rw [Nat.div_eq R B, if_pos ⟨hB, by omega⟩]
   have h4 : R % B = (R - B) % B := Nat.mod_eq_sub_mod (by omega)
   rw [h3, h4, show t + 1 + (R - B) / B = t + ((R - B) / B + 1) by omega]
theorem wd_l0 (x0 x1 : ByteArray) (b0 b1 : Bool) (h0 : PWholeDiv.spec_below.f x0 = some false) (h1 : PWholeDiv.spec_below.f x1 = some false) (X : List UInt8) (hX : isDig X) (hXl : X.length ≤ 90000) (hXn : X ≠ []) (B : Nat) (hB : 0 < B) (hBl : (decDigits B).length ≤ 90000) (n : Nat) :
  ∀ (k i : Nat) (q : List UInt8) (R : Nat), i + n = X.length → n * 12 + 500000 ≤ k → q.length = i → isDig q → R < B → be (X.take i) = be q * B + R →
   ∃ t, PWholeDiv.spec_WholeDiv.l0 k x0 x1 (S X) (S (decDigits B)) (S q) (S (decDigits R)) (i : Int) = some (t, S (decDigits (be X % B))) := by
 induction n with
 | zero =>
  intro k i q R hi hk hq hqd hR hinv
  obtain ⟨k, rfl⟩ : ∃ m, k = m + 1 := ⟨k - 1, by omega⟩
  have hix : i = X.length := by omega
  have hRl := dlen_mono (show R ≤ B by omega)
  rw [hix, List.take_length] at hinv
  have hqn : q ≠ [] := fun e => hXn (List.length_eq_zero_iff.1 (by rw [← hix, ← hq, e]; rfl))
  have hm : be X % B = R := by rw [hinv, Nat.mul_comm, Nat.mul_add_mod]; exact Nat.mod_eq_of_lt hR
  rw [PWholeDiv.spec_WholeDiv.l0, if_neg (by rw [S_size]; omega), h0, Option.bind_some, h1, Option.bind_some]
  simp only [bne_self_eq_false]
  rw [signed_dec q hqd hqn (by omega) k (by omega), Option.bind_some, Option.bind_some, signed_dec _ (isDig_decDigits R) (decDigits_ne_nil R) (by omega) k (by omega), Option.bind_some, be_decDigits, hm]
  exact ⟨_, rfl⟩
 | succ n ih =>
  intro k i q R hi hk hq hqd hR hinv
  rw [Nat.succ_mul] at hk
  obtain ⟨k, rfl⟩ : ∃ m, k = m + 1 := ⟨k - 1, by omega⟩
  have hix : i < X.length := by omega
  have hRl := dlen_mono (show R ≤ B by omega)
  have hd := hX X[i] (List.getElem_mem hix)
  have e2 : (i : Int) + 1 = ((i + 1 : Nat) : Int) := by omega
  have hdig : isDig (decDigits R ++ [X[i]]) := isDig_append (isDig_decDigits R) fun c hc => by
   rw [List.mem_singleton] at hc; subst hc; exact hd
  have hbe : be (decDigits R ++ [X[i]]) = 10 * R + (X[i].toNat - 48) := by rw [be_snoc, be_decDigits]
  have hlenR : (decDigits (10 * R + (X[i].toNat - 48))).length ≤ (decDigits R).length + 1 := by
   have h2 := WholeW.lt_len R (Nat.le_refl _)
   exact WholeW.len_le (by rw [Nat.pow_succ]; omega) (by omega)
  rw [PWholeDiv.spec_WholeDiv.l0, if_pos (by rw [S_size]; omega), if_pos (by omega), e2, w64 _ (by omega) (by omega), if_pos (by omega), if_pos (by rw [S_size]; omega), Int.toNat_natCast, Int.toNat_natCast, S_cut X i hix, S_size, S_size, if_pos (by simp only [List.length_singleton]; omega), S_add,
   signed_dec _ hdig (by simp) (by simp; omega) k (by simp; omega), Option.bind_some, hbe]
  obtain ⟨k', g1, g2⟩ := wd_l1 x0 x1 X B hB (by omega) q (by omega) i (by omega) 9 k (10 * R + (X[i].toNat - 48)) 0 (by omega) (by omega) (by omega) (by omega)
  have g2' : PWholeDiv.spec_WholeDiv.l1 k x0 x1 (S X) (S (decDigits B)) (S q) (S (decDigits (10 * R + (X[i].toNat - 48)))) (i : Int) 0 = _ := g2
  rw [g2', Nat.zero_add]
  have hdq : (10 * R + (X[i].toNat - 48)) / B < 10 := Nat.div_lt_of_lt_mul (by rw [Nat.mul_comm]; omega)
  have hmod : (10 * R + (X[i].toNat - 48)) % B < B := Nat.mod_lt _ hB
  have h3 := Nat.div_add_mod (10 * R + (X[i].toNat - 48)) B
  obtain ⟨dq, hdqe⟩ : ∃ d, d = (10 * R + (X[i].toNat - 48)) / B := ⟨_, rfl⟩
  obtain ⟨dm, hdme⟩ : ∃ d, d = (10 * R + (X[i].toNat - 48)) % B := ⟨_, rfl⟩
  rw [← hdqe] at hdq h3 ⊢
  rw [← hdme] at hmod h3 ⊢
  refine ih k' (i + 1) _ _ (by omega) (by omega) (by simp [hq]) (isDig_append hqd fun c hc => ?_) hmod ?_
  ·
   rw [List.mem_singleton] at hc; subst hc
   rw [digit_ok _ hdq]; omega
  ·
   rw [List.take_add_one, List.getElem?_eq_getElem hix]
   show be (X.take i ++ [X[i]]) = _
   rw [be_snoc, hinv, be_snoc, digit_ok _ hdq, show 48 + dq - 48 = dq by omega, Nat.add_mul, Nat.mul_add, Nat.mul_assoc]
   rw [Nat.mul_comm B] at h3
   omega
theorem wholeDiv_f (m n : Int) (hm0 : 0 ≤ m) (hn0 : 0 < n) (hm : (itoa m).length ≤ 90000) (hn : (itoa n).length ≤ 90000) :
  ∃ k t, PWholeDiv.spec_WholeDiv.f k (S (itoa m)) (S (itoa n)) = some (t, S (itoa (m % n))) := by
 have hb : PWholeDiv.spec_below.f (S (itoa m)) = some false := by rw [e_below, Spec.below_f, below_itoa, decide_eq_false (by omega)]
 have hb' : PWholeDiv.spec_below.f (S (itoa n)) = some false := by rw [e_below, Spec.below_f, below_itoa, decide_eq_false (by omega)]
 rw [itoa_pos m hm0] at hm
 rw [itoa_pos n (by omega)] at hn
 obtain ⟨t, ht⟩ := wd_l0 (S (itoa m)) (S (itoa n)) false false hb hb' (decDigits m.natAbs) (isDig_decDigits _) hm (decDigits_ne_nil _) n.natAbs (by omega) hn (decDigits m.natAbs).length ((decDigits m.natAbs).length * 12 + 500000) 0 [] 0 (by omega) (Nat.le_refl _) rfl (fun c hc => by cases hc) (by omega) (by simp [be])
 refine ⟨(decDigits m.natAbs).length * 12 + 500000, t, ?_⟩
 unfold PWholeDiv.spec_WholeDiv.f
 rw [e_digitsOf, Spec.digitsOf_f, Option.bind_some, Spec.digitsOf_f, Option.bind_some, digits_itoa, digits_itoa]
 rw [decDigits_zero, be_decDigits] at ht
 have hmn : m % n = ((m.natAbs % n.natAbs : Nat) : Int) := by
  obtain ⟨a, rfl⟩ : ∃ a : Nat, m = a := ⟨m.toNat, by omega⟩
  obtain ⟨b, rfl⟩ : ∃ b : Nat, n = b := ⟨n.toNat, by omega⟩
  rfl
 have hr : S (itoa (m % n)) = S (decDigits (m.natAbs % n.natAbs)) := by rw [hmn, itoa_pos _ (by omega), Int.natAbs_natCast]
 rw [hr]
 exact ht
theorem wholeDiv_any (m n : Int) (hm0 : 0 ≤ m) (hn0 : 0 < n) (s t : ByteArray) (hs : s = S (itoa m)) (ht : t = S (itoa n)) (hm : (itoa m).length ≤ 80000) (hn : (itoa n).length ≤ 80000) (w : World) :
  Calls Tryz.prog 20 #[.string s, .string t] w fun e w' => ∃ q, e = .returned (.tuple #[.string q, .string (S (itoa (m % n)))]) ∧ Below w.heap.size w w' := by
 subst hs; subst ht
 obtain ⟨k, q, hk⟩ := wholeDiv_f m n hm0 hn0 (by omega) (by omega)
 refine (PWholeDiv.spec_WholeDiv.calls k _ _ _ _ w hk).mono ?_
 rintro e w' ⟨rfl, hd⟩
 exact ⟨_, rfl, hd⟩
end Go.Proofs.YtaiidipcmnejoaaGreatDoor.WdP

/- WholeCmp: which of two integers is less. -/
set_option linter.unusedVariables false
set_option linter.unusedSimpArgs false
namespace Go.Proofs.YtaiidipcmnejoaaGreatDoor.IntW
open Go.RowKit Go.Lib Go.Proofs.YtaiidipcmnejoaaGreatDoorW.PrintWords Go.Proofs.YtaiidipcmnejoaaGreatDoorW.PrintLast Go.Proofs.YtaiidipcmnejoaaGreatDoorW.PrintMore
open Go.Proofs.YtaiidipcmnejoaaGreatDoor.Nt
theorem cmpI_bounds (a b : Int) : -1 ≤ cmpI a b ∧ cmpI a b ≤ 1 ∧ (cmpI a b < 0 ↔ a < b) ∧ (0 < cmpI a b ↔ b < a) := by
 unfold cmpI
 split
 ·
  omega
 ·
  split <;> omega
end Go.Proofs.YtaiidipcmnejoaaGreatDoor.IntW
namespace Go.Proofs.YtaiidipcmnejoaaGreatDoor.WholeW
open Go.RowKit Go.Lib Go.Proofs.YtaiidipcmnejoaaGreatDoorW.PrintWords Go.Proofs.YtaiidipcmnejoaaGreatDoorW.PrintLast Go.Proofs.YtaiidipcmnejoaaGreatDoorW.PrintMore
open Go.Proofs.YtaiidipcmnejoaaGreatDoor.Nt Go.Proofs.YtaiidipcmnejoaaGreatDoor.Dec Go.Proofs.YtaiidipcmnejoaaGreatDoor.IntW Go.Proofs.YtaiidipcmnejoaaGreatDoor.NumW Go.Proofs.YtaiidipcmnejoaaGreatDoor.NumV
open Go.Proofs.YtaiidipcmnejoaaGreatDoor.Spec (S S_list S_toList S_size S_of S_ext)
theorem wholeCmp_any (m n : Int) (s t : ByteArray) (hs : s = S (itoa m)) (ht : t = S (itoa n)) (hm : (itoa m).length ≤ 70000) (hn : (itoa n).length ≤ 70000) (w : World) :
  Calls Tryz.prog 18 #[.string s, .string t] w fun e w' => e = .returned (.int .i64 (cmpI m n)) ∧ Below w.heap.size w w' := by
 have lm := dig_len m
 have ln := dig_len n
 have hbnd := cmpI_bounds m n
 obtain ⟨b, hb⟩ : ∃ b, b = decide (m < 0) := ⟨_, rfl⟩
 obtain ⟨c, hc⟩ : ∃ c, c = decide (n < 0) := ⟨_, rfl⟩
 have H36s := Lib.hid (fun w => below_any m s hs w b hb)
 have H36t := Lib.hid (fun w => below_any n t ht w c hc)
 have H35s := Lib.hid (fun w => digitsOf_any m s hs w)
 have H35t := Lib.hid (fun w => digitsOf_any n t ht w)
 cases b with
 | true =>
  have h1 := of_decide_eq_true hb.symm
  cases c with
  | true =>
   have h2 := of_decide_eq_true hc.symm
   have H39 := Lib.hid (fun w => (more_any n.natAbs m.natAbs (by omega) (by omega) _ _ rfl rfl w).mono (fun e w' ⟨r, h3, h4, h5⟩ => (⟨by rw [h3]; exact congrArg (fun x => Ending.returned (Value.int .i64 x)) (show r = cmpI m n by omega), h4⟩ : e = Ending.returned (.int .i64 (cmpI m n)) ∧ Below w.heap.size w w')))
   clear lm ln hbnd hs ht hm hn hb hc h1 h2
   go_enter Tryz.func18, Tryz.ntmps18
   go_wp2_with fail
   refine (H36s.out _).mono ?_
   rintro e w1 ⟨rfl, hb⟩
   have HB1 := Lib.hid hb; clear hb
   go_wp2_with fail
   refine (H36t.out _).mono ?_
   rintro e w2 ⟨rfl, hb⟩
   have HB2 := Lib.hid (HB1.out.trans (hb.mono HB1.out.size)); clear hb
   go_wp2_with fail
   refine (H35t.out _).mono ?_
   rintro e w3 ⟨rfl, hb⟩
   have HB3 := Lib.hid (HB2.out.trans (hb.mono HB2.out.size)); clear hb
   go_wp2_with fail
   refine (H35s.out _).mono ?_
   rintro e w4 ⟨rfl, hb⟩
   have HB4 := Lib.hid (HB3.out.trans (hb.mono HB3.out.size)); clear hb
   go_wp2_with fail
   refine (H39.out _).mono ?_
   rintro e w5 ⟨rfl, hb⟩
   have HB5 := Lib.hid (HB4.out.trans (hb.mono HB4.out.size)); clear hb
   go_wp2_with fail
   go_ret
   exact ⟨rfl, HB5.out⟩
  | false =>
   have h2 := of_decide_eq_false hc.symm
   have HR := Lib.hid (show -1 = cmpI m n by omega)
   clear lm ln hbnd hs ht hm hn hb hc h1 h2
   go_enter Tryz.func18, Tryz.ntmps18
   go_wp2_with fail
   refine (H36s.out _).mono ?_
   rintro e w1 ⟨rfl, hb⟩
   have HB1 := Lib.hid hb; clear hb
   go_wp2_with fail
   refine (H36t.out _).mono ?_
   rintro e w2 ⟨rfl, hb⟩
   have HB2 := Lib.hid (HB1.out.trans (hb.mono HB1.out.size)); clear hb
   go_wp2_with fail
   go_ret
   exact ⟨congrArg (fun x => Ending.returned (Value.int .i64 x)) HR.out, HB2.out⟩
 | false =>
  have h1 := of_decide_eq_false hb.symm
  cases c with
  | true =>
   have h2 := of_decide_eq_true hc.symm
   have HR := Lib.hid (show 1 = cmpI m n by omega)
   clear lm ln hbnd hs ht hm hn hb hc h1 h2
   go_enter Tryz.func18, Tryz.ntmps18
   go_wp2_with fail
   refine (H36s.out _).mono ?_
   rintro e w1 ⟨rfl, hb⟩
   have HB1 := Lib.hid hb; clear hb
   go_wp2_with fail
   refine (H36t.out _).mono ?_
   rintro e w2 ⟨rfl, hb⟩
   have HB2 := Lib.hid (HB1.out.trans (hb.mono HB1.out.size)); clear hb
   go_wp2_with fail
   go_ret
   exact ⟨congrArg (fun x => Ending.returned (Value.int .i64 x)) HR.out, HB2.out⟩
  | false =>
   have h2 := of_decide_eq_false hc.symm
   have e1 : itoa m = decDigits m.natAbs := itoa_pos m (by omega)
   have e2 : itoa n = decDigits n.natAbs := itoa_pos n (by omega)
   have H39 := Lib.hid (fun w => (more_any m.natAbs n.natAbs (by omega) (by omega) s t (by rw [hs, e1]) (by rw [ht, e2]) w).mono (fun e w' ⟨r, h3, h4, h5⟩ => (⟨by rw [h3]; exact congrArg (fun x => Ending.returned (Value.int .i64 x)) (show r = cmpI m n by omega), h4⟩ : e = Ending.returned (.int .i64 (cmpI m n)) ∧ Below w.heap.size w w')))
   clear lm ln hbnd hs ht hm hn hb hc h1 h2 e1 e2
   go_enter Tryz.func18, Tryz.ntmps18
   go_wp2_with fail
   refine (H36s.out _).mono ?_
   rintro e w1 ⟨rfl, hb⟩
   have HB1 := Lib.hid hb; clear hb
   go_wp2_with fail
   refine (H36t.out _).mono ?_
   rintro e w2 ⟨rfl, hb⟩
   have HB2 := Lib.hid (HB1.out.trans (hb.mono HB1.out.size)); clear hb
   go_wp2_with fail
   refine (H39.out _).mono ?_
   rintro e w3 ⟨rfl, hb⟩
   have HB3 := Lib.hid (HB2.out.trans (hb.mono HB2.out.size)); clear hb
   go_wp2_with fail
   go_ret
   exact ⟨rfl, HB3.out⟩
end Go.Proofs.YtaiidipcmnejoaaGreatDoor.WholeW

/- The law FnBigMod answers true at every two texts. -/
set_option linter.unusedVariables false
set_option linter.unusedSimpArgs false
namespace Go.Proofs.YtaiidipcmnejoaaGreatDoor.LawMod
open Go.RowKit Go.Lib Go.Proofs.YtaiidipcmnejoaaGreatDoorW.PrintWords Go.Proofs.YtaiidipcmnejoaaGreatDoorW.PrintLast Go.Proofs.YtaiidipcmnejoaaGreatDoorW.PrintMore
open Go.Proofs.YtaiidipcmnejoaaGreatDoor.Nt Go.Proofs.YtaiidipcmnejoaaGreatDoor.Dec Go.Proofs.YtaiidipcmnejoaaGreatDoor.IntW Go.Proofs.YtaiidipcmnejoaaGreatDoor.NumW Go.Proofs.YtaiidipcmnejoaaGreatDoor.NumV Go.Proofs.YtaiidipcmnejoaaGreatDoor.WholeW Go.Proofs.YtaiidipcmnejoaaGreatDoor.LawW
open Go.Proofs.YtaiidipcmnejoaaGreatDoor.Spec (S S_list S_toList S_size S_of S_ext)
theorem field_end (v : ByteArray) (d : Int) (W : World) : Sem.run Tryz.prog (Instr.field 25 (Value.agg #[.string v, .int .i64 d]) 1) W = Result.ok (.int .i64 d) W := by kernel_rfl
set_option maxRecDepth 100000 in
set_option maxHeartbeats 8000000 in
theorem fnBigMod_any (a b : ByteArray) (w : World) (hE : Env w) : Calls Tryz.prog 4 #[.string a, .string b] w fun e w' => e = .returned (.bool true) ∧ Below w.heap.size w w' := by
 by_cases hbig : (2147483647 : Int) < a.size
 ·
  have f1 : decide ((2147483647 : Int) < (a.size : Int)) = true := decide_eq_true hbig
  clear hbig hE
  go_enter Tryz.func4, Tryz.ntmps4
  go_wp2_with fail
  go_ret
  exact ⟨rfl, Below.refl _ _⟩
 by_cases hbig2 : (2147483647 : Int) < b.size
 ·
  have f1 : decide ((2147483647 : Int) < (a.size : Int)) = false := decide_eq_false hbig
  have f2 : decide ((2147483647 : Int) < (b.size : Int)) = true := decide_eq_true hbig2
  clear hbig hbig2 hE
  go_enter Tryz.func4, Tryz.ntmps4
  go_wp2_with fail
  go_ret
  exact ⟨rfl, Below.refl _ _⟩
 have f1 : decide ((2147483647 : Int) < (a.size : Int)) = false := decide_eq_false hbig
 have f2 : decide ((2147483647 : Int) < (b.size : Int)) = false := decide_eq_false hbig2
 have HE := Lib.hid hE
 have HW := Lib.hid (wide_calls a b (by omega) (by omega) w)
 clear hbig hbig2 hE
 go_enter Tryz.func4, Tryz.ntmps4
 go_wp2_with fail
 refine HW.out.mono ?_
 rintro e w1 ⟨r, rfl, hb, hr⟩
 have HB1 := Lib.hid hb; clear hb
 cases r with
 | false =>
  clear hr
  go_wp2_with fail
  go_ret
  exact ⟨rfl, HB1.out⟩
 | true =>
  obtain ⟨m, n, rfl, rfl, hm, hn⟩ := hr rfl
  obtain ⟨s, hs⟩ : ∃ s, s = S (itoa m) := ⟨_, rfl⟩
  obtain ⟨t, ht⟩ : ∃ t, t = S (itoa n) := ⟨_, rfl⟩
  have hi0 : itoa 0 = [48] := by rw [itoa_pos 0 (by omega)]; exact decDigits_zero
  have h00 : (⟨#[48]⟩ : ByteArray) = S (itoa 0) := by rw [hi0]; rfl
  have HC1 := Lib.hid (fun w => wholeCmp_any m 0 s ⟨#[48]⟩ hs h00 (by omega) (by rw [hi0]; decide) w)
  have HC2 := Lib.hid (fun w => wholeCmp_any n 0 t ⟨#[48]⟩ ht h00 (by omega) (by rw [hi0]; decide) w)
  have c1 := cmpI_bounds m 0
  have c2 := cmpI_bounds n 0
  obtain ⟨x, hx⟩ : ∃ x, x = cmpI m 0 := ⟨_, rfl⟩
  obtain ⟨y, hy⟩ : ∃ y, y = cmpI n 0 := ⟨_, rfl⟩
  rw [← hx] at c1 HC1
  rw [← hy] at c2 HC2
  by_cases hm0 : m < 0
  ·
   have g1 : decide (x < 0) = true := decide_eq_true (by omega)
   rw [← hs, ← ht]
   clear hr hm hn HW hi0 h00 c1 c2 hx hy hm0 hs ht
   go_wp2_with fail
   refine (HC1.out _).mono ?_
   rintro e w2 ⟨rfl, hb⟩
   have HB2 := Lib.hid (HB1.out.trans (hb.mono HB1.out.size)); clear hb
   go_wp2_with fail
   go_ret
   exact ⟨rfl, HB2.out⟩
  by_cases hn0 : n < 0
  ·
   have g1 : decide (x < 0) = false := decide_eq_false (by omega)
   have g2 : decide (y < 0) = true := decide_eq_true (by omega)
   rw [← hs, ← ht]
   clear hr hm hn HW hi0 h00 c1 c2 hx hy hm0 hn0 hs ht
   go_wp2_with fail
   refine (HC1.out _).mono ?_
   rintro e w2 ⟨rfl, hb⟩
   have HB2 := Lib.hid (HB1.out.trans (hb.mono HB1.out.size)); clear hb
   go_wp2_with fail
   refine (HC2.out _).mono ?_
   rintro e w3 ⟨rfl, hb⟩
   have HB3 := Lib.hid (HB2.out.trans (hb.mono HB2.out.size)); clear hb
   go_wp2_with fail
   go_ret
   exact ⟨rfl, HB3.out⟩
  have g1 : decide (x < 0) = false := decide_eq_false (by omega)
  have g2 : decide (y < 0) = false := decide_eq_false (by omega)
  have HM := Lib.hid (fun w hE => OpModW.bigMod m n (by omega) (by omega) s t hs ht (by omega) (by omega) w hE)
  by_cases hnz : n = 0
  ·
   have HZ := Lib.hid hnz
   have g3 : (t.toList == [48]) = true := by rw [ht, S_toList, hnz, hi0]; rfl
   rw [← hs, ← ht]
   clear hr hm hn HW hi0 h00 c1 c2 hx hy hm0 hn0 hnz hs ht
   go_wp2_with fail
   refine (HC1.out _).mono ?_
   rintro e w2 ⟨rfl, hb⟩
   have HB2 := Lib.hid (HB1.out.trans (hb.mono HB1.out.size)); clear hb
   go_wp2_with fail
   refine (HC2.out _).mono ?_
   rintro e w3 ⟨rfl, hb⟩
   have HB3 := Lib.hid (HB2.out.trans (hb.mono HB2.out.size)); clear hb
   go_wp2_with fail
   refine (HM.out _ (HE.out.below HB3.out)).mono ?_
   rintro e w4 ⟨⟨q, d, rfl, _, hd⟩, hb⟩
   obtain rfl := hd HZ.out
   have HB4 := Lib.hid (HB3.out.trans (hb.mono HB3.out.size)); clear hb hd
   have hf := field_end q 1
   go_wp2_with fail
   go_ret
   exact ⟨rfl, HB4.out⟩
  ·
   have HZ := Lib.hid (show 0 < n by omega)
   have g3 : (t.toList == [48]) = false := by
    rw [ht, S_toList, ← hi0, beq_eq_false_iff_ne]
    exact fun e => hnz (itoa_inj e)
   have HD := Lib.hid (fun w => WdP.wholeDiv_any m n (by omega) (by omega) s t hs ht (by omega) (by omega) w)
   obtain ⟨u, hu⟩ : ∃ u, u = S (itoa (m % n)) := ⟨_, rfl⟩
   rw [← hu] at HD HM
   rw [← hs, ← ht]
   clear hr hm hn HW hi0 h00 c1 c2 hx hy hm0 hn0 hnz hs ht hu
   go_wp2_with fail
   refine (HC1.out _).mono ?_
   rintro e w2 ⟨rfl, hb⟩
   have HB2 := Lib.hid (HB1.out.trans (hb.mono HB1.out.size)); clear hb
   go_wp2_with fail
   refine (HC2.out _).mono ?_
   rintro e w3 ⟨rfl, hb⟩
   have HB3 := Lib.hid (HB2.out.trans (hb.mono HB2.out.size)); clear hb
   go_wp2_with fail
   refine (HD.out _).mono ?_
   rintro e w4 ⟨q, rfl, hb⟩
   have HB4 := Lib.hid (HB3.out.trans (hb.mono HB3.out.size)); clear hb
   go_wp2_with fail
   refine (HM.out _ (HE.out.below HB4.out)).mono ?_
   rintro e w5 ⟨⟨q', d, rfl, hd, _⟩, hb⟩
   obtain ⟨rfl, rfl⟩ := hd HZ.out
   have HB5 := Lib.hid (HB4.out.trans (hb.mono HB4.out.size)); clear hb hd
   go_wp2_with fail
   refine (exact_any _ _).mono ?_
   rintro e w6 ⟨rfl, hb⟩
   have HB6 := Lib.hid (HB5.out.trans (hb.mono HB5.out.size)); clear hb
   go_wp2_with fail
   go_ret
   exact ⟨rfl, HB6.out⟩
end Go.Proofs.YtaiidipcmnejoaaGreatDoor.LawMod
