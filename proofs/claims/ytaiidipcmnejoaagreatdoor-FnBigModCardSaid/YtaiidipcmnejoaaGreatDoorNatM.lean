import Derived.Test.YtaiidipcmnejoaaGreatDoorPdivx1
import Derived.Laws.BitsAllLaws

/- Plain mathematics: digits of 32 bits, the lowest first, and what the printed functions on them give. -/
namespace Go.Proofs.YtaiidipcmnejoaaGreatDoor.Nt
open Go.RowKit Go.Lib Go.Proofs.YtaiidipcmnejoaaGreatDoorW.PrintWords Go.Proofs.YtaiidipcmnejoaaGreatDoorW.PrintLast Go.Proofs.YtaiidipcmnejoaaGreatDoorW.PrintMore

theorem w64 (n : Int) (h0 : -9223372036854775808 ≤ n) (h1 : n ≤ 9223372036854775807) : wrap64 n = n := by unfold wrap64; omega
theorem u64m (n : Int) : IntKind.u64.wrap n = n % 18446744073709551616 := rfl
theorem u64w (n : Int) (h0 : 0 ≤ n) (h1 : n < 18446744073709551616) : IntKind.u64.wrap n = n := by rw [u64m]; omega

def nv : List Int → Int
 | [] => 0
 | d :: r => d + 4294967296 * nv r
def isU (l : List Int) : Prop := ∀ d ∈ l, 0 ≤ d ∧ d < 4294967296
/-- Digits without a zero at the high end. -/
def isN (l : List Int) : Prop := isU l ∧ l.getLast? ≠ some 0
theorem isU_nil : isU [] := fun _ h => by cases h
theorem isN_nil : isN [] := ⟨isU_nil, by simp⟩
theorem isU_cons {d : Int} {r : List Int} (h : isU (d :: r)) : (0 ≤ d ∧ d < 4294967296) ∧ isU r := ⟨h d (List.mem_cons_self ..), fun x hx => h x (List.mem_cons_of_mem _ hx)⟩
theorem isU_mk {d : Int} {r : List Int} (h : 0 ≤ d ∧ d < 4294967296) (k : isU r) : isU (d :: r) := fun x hx => by
 rcases List.mem_cons.1 hx with rfl | hx
 ·
  exact h
 ·
  exact k x hx
theorem isU_append {a b : List Int} (h : isU a) (k : isU b) : isU (a ++ b) := fun x hx => (List.mem_append.1 hx).elim (h x) (k x)
theorem isU_left {a b : List Int} (h : isU (a ++ b)) : isU a := fun x hx => h x (List.mem_append_left _ hx)
theorem isU_right {a b : List Int} (h : isU (a ++ b)) : isU b := fun x hx => h x (List.mem_append_right _ hx)
theorem isU_snoc {a : List Int} {d : Int} (h : isU a) (h0 : 0 ≤ d) (h1 : d < 4294967296) : isU (a ++ [d]) := isU_append h (isU_mk ⟨h0, h1⟩ isU_nil)
theorem isU_rep (n : Nat) : isU (List.replicate n 0) := fun x hx => by
 have := (List.mem_replicate.1 hx).2
 subst this; omega
theorem nv_nonneg : ∀ l : List Int, isU l → 0 ≤ nv l
 | [], _ => by simp [nv]
 | d :: r, h => by
  have h1 := isU_cons h
  have h2 := nv_nonneg r h1.2
  simp only [nv]; omega
theorem nv_append (a b : List Int) : nv (a ++ b) = nv a + nv b * 4294967296 ^ a.length := by
 induction a with
 | nil => simp [nv]
 | cons d r ih =>
  simp only [List.cons_append, nv, ih, List.length_cons, Int.pow_succ]
  rw [Int.mul_add, ← Int.add_assoc]
  congr 1
  rw [Int.mul_comm (4294967296 ^ r.length) 4294967296, ← Int.mul_assoc, ← Int.mul_assoc, Int.mul_comm 4294967296 (nv b)]
theorem nv_one (d : Int) : nv [d] = d := by simp [nv]
theorem nv_snoc (l : List Int) (d : Int) : nv (l ++ [d]) = nv l + d * 4294967296 ^ l.length := by rw [nv_append, nv_one]
theorem nv_rep (n : Nat) : nv (List.replicate n 0) = 0 := by
 induction n with
 | zero => rfl
 | succ n ih => rw [List.replicate_succ, nv, ih]; rfl
theorem nv_lt : ∀ l : List Int, isU l → nv l < 4294967296 ^ l.length
 | [], _ => by simp [nv]
 | d :: r, h => by
  have h1 := isU_cons h
  have h2 := nv_lt r h1.2
  simp only [nv, List.length_cons, Int.pow_succ]; omega
theorem W_pos (n : Nat) : (1 : Int) ≤ 4294967296 ^ n := by
 induction n with
 | zero => simp
 | succ n ih => rw [Int.pow_succ]; omega
theorem W_mono {a b : Nat} (h : a ≤ b) : (4294967296 : Int) ^ a ≤ 4294967296 ^ b := by
 obtain ⟨c, rfl⟩ := Nat.exists_eq_add_of_le h
 induction c with
 | zero => simp
 | succ c ih =>
  have := ih (by omega)
  have h1 := W_pos (a + c)
  rw [← Nat.add_assoc, Int.pow_succ]; omega
theorem snoc_cases {α : Type} (l : List α) : l = [] ∨ ∃ r d, l = r ++ [d] := by
 rcases List.eq_nil_or_concat l with h | ⟨r, d, h⟩
 ·
  exact .inl h
 ·
  exact .inr ⟨r, d, by simpa using h⟩
theorem nv_pos {l : List Int} (h : isN l) (h0 : l ≠ []) : 4294967296 ^ (l.length - 1) ≤ nv l := by
 rcases snoc_cases l with rfl | ⟨r, d, rfl⟩
 ·
  exact absurd rfl h0
 ·
  have hd : d ≠ 0 := fun e => h.2 (by rw [e]; simp)
  have h1 := isU_right h.1 d (by simp)
  have h2 := nv_nonneg r (isU_left h.1)
  rw [nv_snoc]
  simp only [List.length_append, List.length_singleton, Nat.add_sub_cancel]
  have h3 : 1 * 4294967296 ^ r.length ≤ d * 4294967296 ^ r.length := Int.mul_le_mul_of_nonneg_right (by omega) (by have := W_pos r.length; omega)
  omega
theorem nv_zero {l : List Int} (h : isN l) : nv l = 0 ↔ l = [] := by
 constructor
 ·
  intro e
  by_cases h0 : l = []
  ·
   exact h0
  ·
   have := nv_pos h h0
   have := W_pos (l.length - 1)
   omega
 ·
  rintro rfl; rfl
/-- The list is told by its value. -/
theorem nv_inj : ∀ {a b : List Int}, isU a → isU b → a.length = b.length → nv a = nv b → a = b
 | [], [], _, _, _, _ => rfl
 | [], _ :: _, _, _, h, _ => by simp at h
 | _ :: _, [], _, _, h, _ => by simp at h
 | x :: a, y :: b, ha, hb, hl, h => by
  have h1 := isU_cons ha
  have h2 := isU_cons hb
  simp only [nv] at h
  have e : x = y := by omega
  subst e
  rw [nv_inj h1.2 h2.2 (by simpa using hl) (by omega)]
theorem len_of {a b : List Int} (ha : isN a) (hb : isU b) (h : b.length < a.length) : nv b < nv a := by
 have h0 : a ≠ [] := fun e => by rw [e] at h; simp at h
 have h1 := nv_pos ha h0
 have h2 := nv_lt b hb
 have h3 := W_mono (show b.length ≤ a.length - 1 by omega)
 omega

theorem rd_at (l : List Int) (i : Nat) (h : i < l.length) : rd l (i : Int) = l[i] := by
 unfold rd
 rw [show ((i : Int)).toNat = i by omega, List.getD_eq_getElem?_getD, List.getElem?_eq_getElem h]; rfl
theorem take_snoc (l : List Int) (i : Nat) (h : i < l.length) : l.take (i + 1) = l.take i ++ [l[i]] := by
 rw [List.take_add_one, List.getElem?_eq_getElem h]; rfl
theorem take_len (l : List Int) (i : Nat) (h : i ≤ l.length) : (l.take i).length = i := by rw [List.length_take]; omega
theorem set_mid (a : List Int) (n : Nat) (v : Int) (i : Nat) (hi : i = a.length) (hn : 1 ≤ n) : (a ++ List.replicate n 0).set i v = (a ++ [v]) ++ List.replicate (n - 1) 0 := by
 obtain ⟨n, rfl⟩ : ∃ m, n = m + 1 := ⟨n - 1, by omega⟩
 subst hi
 rw [List.replicate_succ, List.set_append_right _ _ (Nat.le_refl _), Nat.sub_self, List.set_cons_zero]
 simp

/-! ### norm -/
theorem norm_g (g : Nat → List Int → Option (List Int)) (hg : ∀ k x0, g (k + 1) x0 = if (x0.length : Int) > 0 then (if 0 ≤ (wrap64 ((x0.length : Int) - 1)) then (if (wrap64 ((x0.length : Int) - 1)) < (x0.length : Int) then (if (rd x0 (wrap64 ((x0.length : Int) - 1))) = 0 then (if (wrap64 ((x0.length : Int) - 1)) ≤ (x0.length : Int) then (g k (x0.take ((wrap64 ((x0.length : Int) - 1)) : Int).toNat)) else (none)) else (some x0)) else (none)) else (none)) else (some x0)) :
  ∀ (k : Nat) (l : List Int), isU l → l.length ≤ 140737488355328 → l.length < k → ∃ r, g k l = some r ∧ isN r ∧ nv r = nv l ∧ r.length ≤ l.length := by
 intro k
 induction k with
 | zero => intro l _ _ h; omega
 | succ k ih =>
  intro l hu hl hk
  rw [hg]
  rcases snoc_cases l with rfl | ⟨m, d, rfl⟩
  ·
   exact ⟨[], by rw [if_neg (by simp)], isN_nil, rfl, Nat.le_refl _⟩
  ·
   have hlen : (m ++ [d]).length = m.length + 1 := by simp
   rw [hlen, w64 _ (by omega) (by omega), if_pos (by omega), if_pos (by omega), if_pos (by omega)]
   have e1 : (((m.length + 1 : Nat) : Int) - 1) = (m.length : Int) := by omega
   rw [e1]
   have e2 : rd (m ++ [d]) (m.length : Int) = d := by
    rw [rd_at _ _ (by simp)]; simp
   rw [e2]
   by_cases hd : d = 0
   ·
    subst hd
    rw [if_pos rfl, if_pos (by omega), Int.toNat_natCast, List.take_left' rfl]
    obtain ⟨r, h1, h2, h3, h4⟩ := ih m (isU_left hu) (by omega) (by omega)
    exact ⟨r, h1, h2, by rw [h3, nv_snoc]; omega, by omega⟩
   ·
    rw [if_neg hd]
    exact ⟨_, rfl, ⟨hu, by simpa using hd⟩, rfl, by simp⟩

/-! ### natOf -/
theorem natOf_f (u : Int) (h0 : 0 ≤ u) (h1 : u < 18446744073709551616) (k : Nat) (hk : 4 ≤ k) : ∃ r, Pdiv.smallbig_natOf.f k u = some r ∧ isN r ∧ nv r = u ∧ r.length ≤ 2 := by
 unfold Pdiv.smallbig_natOf.f Pdiv.smallbig_nat_norm.f
 obtain ⟨r, e, h2, h3, h4⟩ := norm_g Pdiv.smallbig_nat_norm.l0 (fun _ _ => rfl) k [u % 4294967296, u / 4294967296 % 4294967296] (isU_mk (by omega) (isU_mk (by omega) isU_nil)) (by simp) (by simp; omega)
 rw [e]
 refine ⟨r, rfl, h2, ?_, h4⟩
 rw [h3]; simp only [nv]; omega

/-! ### cmp -/
def cmpI (a b : Int) : Int := if a < b then -1 else if a = b then 0 else 1
theorem cmp_mid {p q s : List Int} {a b : Int} (hp : isU p) (hq : isU q) (hl : p.length = q.length) (h : a < b) : nv (p ++ [a] ++ s) < nv (q ++ [b] ++ s) := by
 rw [nv_append (p ++ [a]) s, nv_append (q ++ [b]) s, nv_snoc, nv_snoc]
 simp only [List.length_append, List.length_singleton]
 have h1 := nv_lt p hp
 have h2 := nv_nonneg q hq
 rw [hl] at h1 ⊢
 have h3 : (a + 1) * 4294967296 ^ q.length ≤ b * 4294967296 ^ q.length := Int.mul_le_mul_of_nonneg_right (by omega) (by have := W_pos q.length; omega)
 rw [Int.add_mul] at h3
 omega
theorem cmp_l0 (x y : List Int) (hx : isU x) (hy : isU y) (hl : x.length = y.length) (hm : x.length ≤ 140737488355328) (n : Nat) : ∀ k : Nat, n ≤ x.length → n < k → x.drop n = y.drop n →
  Pdiv.smallbig_nat_cmp.l0 k x y ((n : Int) - 1) = some (cmpI (nv x) (nv y)) := by
 induction n with
 | zero =>
  intro k _ hk he
  obtain ⟨k, rfl⟩ : ∃ m, k = m + 1 := ⟨k - 1, by omega⟩
  rw [Pdiv.smallbig_nat_cmp.l0, if_neg (by omega)]
  simp only [List.drop_zero] at he
  rw [he]; simp [cmpI]
 | succ n ih =>
  intro k hn hk he
  obtain ⟨k, rfl⟩ : ∃ m, k = m + 1 := ⟨k - 1, by omega⟩
  have e1 : (((n + 1 : Nat) : Int) - 1) = (n : Int) := by omega
  rw [e1, Pdiv.smallbig_nat_cmp.l0, if_pos (by omega), if_pos (by omega), if_pos (by omega), if_pos (by omega), rd_at x n (by omega), rd_at y n (by omega)]
  have dx : x.drop n = x[n]'(by omega) :: x.drop (n + 1) := List.drop_eq_getElem_cons (by omega)
  have dy : y.drop n = y[n]'(by omega) :: y.drop (n + 1) := List.drop_eq_getElem_cons (by omega)
  have ex : x = x.take n ++ [x[n]'(by omega)] ++ y.drop (n + 1) := by
   rw [← he, List.append_assoc, List.singleton_append, ← dx, List.take_append_drop]
  have ey : y = y.take n ++ [y[n]'(by omega)] ++ y.drop (n + 1) := by
   rw [List.append_assoc, List.singleton_append, ← dy, List.take_append_drop]
  have ux : isU (x.take n) := fun d hd => hx d (List.mem_of_mem_take hd)
  have uy : isU (y.take n) := fun d hd => hy d (List.mem_of_mem_take hd)
  have hln : (x.take n).length = (y.take n).length := by rw [List.length_take, List.length_take]; omega
  by_cases heq : x[n]'(by omega) = y[n]'(by omega)
  ·
   rw [if_pos heq, w64 _ (by omega) (by omega)]
   exact ih k (by omega) (by omega) (by rw [dx, dy, heq, he])
  ·
   rw [if_neg heq]
   by_cases hlt : x[n]'(by omega) < y[n]'(by omega)
   ·
    rw [if_pos hlt]
    have := cmp_mid (s := y.drop (n + 1)) ux uy hln hlt
    rw [← ex, ← ey] at this
    unfold cmpI; rw [if_pos this]
   ·
    rw [if_neg hlt]
    have := cmp_mid (s := y.drop (n + 1)) uy ux hln.symm (show y[n]'(by omega) < x[n]'(by omega) by omega)
    rw [← ex, ← ey] at this
    unfold cmpI; rw [if_neg (by omega), if_neg (by omega)]
theorem cmp_f (x y : List Int) (hx : isN x) (hy : isN y) (hm : x.length ≤ 140737488355328) (k : Nat) (hk : x.length < k) : Pdiv.smallbig_nat_cmp.f k x y = some (cmpI (nv x) (nv y)) := by
 unfold Pdiv.smallbig_nat_cmp.f
 by_cases hl : x.length = y.length
 ·
  rw [if_pos (by omega), w64 _ (by omega) (by omega)]
  exact cmp_l0 x y hx.1 hy.1 hl hm x.length k (Nat.le_refl _) hk (by rw [List.drop_length, hl, List.drop_length])
 ·
  rw [if_neg (by omega)]
  by_cases hlt : x.length < y.length
  ·
   rw [if_pos (by omega)]
   have := len_of hy hx.1 hlt
   unfold cmpI; rw [if_pos this]
  ·
   rw [if_neg (by omega)]
   have := len_of hx hy.1 (by omega)
   unfold cmpI; rw [if_neg (by omega), if_neg (by omega)]

/-! ### sub -/
theorem take_all (l : List Int) (i : Nat) (h : l.length ≤ i) : l.take i = l := List.take_of_length_le h
theorem nv_take (l : List Int) (i : Nat) (h : i < l.length) : nv (l.take (i + 1)) = nv (l.take i) + l[i] * 4294967296 ^ i := by
 rw [take_snoc l i h, nv_snoc, take_len l i (by omega)]
/-! ### divW -/
theorem or_low (c d : Int) (h0 : 0 ≤ c) (h1 : c < 4294967296) (h2 : 0 ≤ d) (h3 : d < 4294967296) : Go.bits .or .u64 (c * 4294967296) d = c * 4294967296 + d := by
 rw [u64_or _ _ (by omega) (by omega) (by omega) (by omega)]
 have : (c * 4294967296).toNat = 2 ^ 32 * c.toNat := by omega
 rw [this, ← Nat.two_pow_add_eq_or_of_lt (by omega : d.toNat < 2 ^ 32)]
 omega
theorem divW_l0 (x : List Int) (hx : isU x) (y : Int) (hy0 : 0 < y) (hy1 : y < 4294967296) (hm : x.length ≤ 1000000000) (n : Nat) : ∀ (k : Nat) (qs : List Int) (c : Int), n ≤ x.length → x.length + n + 2 ≤ k → n + qs.length = x.length → isU qs → 0 ≤ c → c < y →
  nv (x.drop n) = nv qs * y + c →
  ∃ q r, Pdiv.smallbig_nat_divW.l0 k x y (List.replicate n 0 ++ qs) c ((n : Int) - 1) = some (q, r) ∧ isN q ∧ nv x = nv q * y + r ∧ 0 ≤ r ∧ r < y ∧ q.length ≤ x.length := by
 induction n with
 | zero =>
  intro k qs c _ hk hl hu hc0 hc1 hinv
  obtain ⟨k, rfl⟩ : ∃ m, k = m + 1 := ⟨k - 1, by omega⟩
  rw [Pdiv.smallbig_nat_divW.l0, if_neg (by omega)]
  obtain ⟨r, e, h2, h3, h4⟩ := norm_g Pdiv.smallbig_nat_norm.l0 (fun _ _ => rfl) k qs hu (by omega) (by omega)
  refine ⟨r, c, ?_, h2, by rw [h3, ← hinv, List.drop_zero], hc0, hc1, by omega⟩
  unfold Pdiv.smallbig_nat_norm.f
  simp only [List.replicate_zero, List.nil_append]
  rw [e, Option.bind_some, show c % 4294967296 = c by omega]
 | succ n ih =>
  intro k qs c hn hk hl hu hc0 hc1 hinv
  obtain ⟨k, rfl⟩ : ∃ m, k = m + 1 := ⟨k - 1, by omega⟩
  have hlt : n < x.length := by omega
  have hxn := hx x[n] (List.getElem_mem hlt)
  have e1 : (((n + 1 : Nat) : Int) - 1) = (n : Int) := by omega
  have hlen : (List.replicate (n + 1) (0 : Int) ++ qs).length = x.length := by simp; omega
  rw [e1, Pdiv.smallbig_nat_divW.l0, if_pos (by omega), if_pos (by omega), if_pos (by omega), u64w y (by omega) (by omega), if_neg (by omega), hlen, if_pos (by omega), rd_at x n hlt, u64w x[n] (by omega) (by omega), u64w (c * 4294967296) (by omega) (by omega), or_low c _ (by omega) (by omega) (by omega) (by omega),
   Int.tdiv_eq_ediv_of_nonneg (by omega), Int.tmod_eq_emod_of_nonneg (by omega), w64 _ (by omega) (by omega), Int.toNat_natCast]
  obtain ⟨m, hmm⟩ : ∃ m : Int, m = c * 4294967296 + x[n] := ⟨_, rfl⟩
  rw [← hmm]
  have hm0 : 0 ≤ m := by omega
  have hdm : m = y * (m / y) + m % y := by have := Int.mul_ediv_add_emod m y; omega
  have hr0 : 0 ≤ m % y := Int.emod_nonneg _ (by omega)
  have hr1 : m % y < y := Int.emod_lt_of_pos _ hy0
  have hq0 : 0 ≤ m / y := Int.ediv_nonneg hm0 (by omega)
  have hq1 : m / y < 4294967296 := by
   apply Int.ediv_lt_of_lt_mul hy0
   have : (c + 1) * 4294967296 ≤ y * 4294967296 := Int.mul_le_mul_of_nonneg_right (by omega) (by omega)
   omega
  rw [u64w _ hq0 (by omega), show m / y % 4294967296 = m / y by omega]
  have es : (List.replicate (n + 1) (0 : Int) ++ qs).set n (m / y) = List.replicate n 0 ++ ((m / y) :: qs) := by
   rw [List.replicate_succ', List.append_assoc, List.set_append_right _ _ (by simp), List.length_replicate, Nat.sub_self]
   rfl
  rw [es]
  refine ih k _ _ (by omega) (by omega) (by simp; omega) (isU_mk ⟨hq0, hq1⟩ hu) hr0 hr1 ?_
  rw [List.drop_eq_getElem_cons hlt]
  simp only [nv]
  rw [hinv, Int.add_mul, Int.mul_comm (m / y) y, Int.mul_assoc 4294967296 (nv qs) y]
  omega
theorem divW_f (x : List Int) (hx : isU x) (y : Int) (hy0 : 0 < y) (hy1 : y < 4294967296) (hm : x.length ≤ 1000000000) (k : Nat) (hk : 2 * x.length + 2 ≤ k) :
  ∃ q r, Pdiv.smallbig_nat_divW.f k x y = some (q, r) ∧ isN q ∧ nv x = nv q * y + r ∧ 0 ≤ r ∧ r < y ∧ q.length ≤ x.length := by
 unfold Pdiv.smallbig_nat_divW.f
 rw [if_pos (by omega), if_pos (by omega), Int.toNat_natCast, w64 _ (by omega) (by omega)]
 have := divW_l0 x hx y hy0 hy1 hm x.length k [] 0 (Nat.le_refl _) (by omega) (by simp) isU_nil (by omega) hy0 (by rw [List.drop_length]; simp [nv])
 simpa using this
end Go.Proofs.YtaiidipcmnejoaaGreatDoor.Nt

/- The walks of adding digits, and of a product by one digit: functions of package big, at every list of digits. -/
namespace Go.Proofs.YtaiidipcmnejoaaGreatDoor.NatW
open Go.RowKit Go.Proofs.YtaiidipcmnejoaaGreatDoorW.PrintWords Go.Proofs.YtaiidipcmnejoaaGreatDoorW.PrintLast Go.Proofs.YtaiidipcmnejoaaGreatDoorW.PrintMore
open Go.Proofs.YtaiidipcmnejoaaGreatDoor.Pdiv
attribute [local go_sem] max2_int min2_int max_two min_two max_three min_three max_four min_four
set_option linter.unusedVariables false
set_option linter.unusedSimpArgs false

/-! ### smallbig_nat_mulAdd: function 211 -/
def smallbig_nat_mulAdd.l0 : Nat → List Int → Int → List Int → Int → List Int → Int → Int → Option (List Int)
 | 0, _, _, _, _, _, _, _ => none
 | k + 1, x0, x1, x7, x8, x17, x18, x19 => if x19 < x18 then (if 0 ≤ x19 then (if x19 < (x17.length : Int) then (if x19 < (x7.length : Int) then (smallbig_nat_mulAdd.l0 k x0 x1 (x7.set (x19 : Int).toNat ((IntKind.u64.wrap (x8 + (IntKind.u64.wrap ((IntKind.u64.wrap (rd x17 x19)) * (IntKind.u64.wrap (x1)))))) % 4294967296)) ((IntKind.u64.wrap (x8 + (IntKind.u64.wrap ((IntKind.u64.wrap (rd x17 x19)) * (IntKind.u64.wrap (x1)))))) / 4294967296) x17 x18 (wrap64 (x19 + 1))) else (none)) else (none)) else (none)) else (if 0 ≤ (x0.length : Int) then (if (x0.length : Int) < (x7.length : Int) then ((smallbig_nat_norm.f k (x7.set ((x0.length : Int) : Int).toNat ((x8) % 4294967296))).bind fun t113 => (some t113)) else (none)) else (none))
def smallbig_nat_mulAdd.f (k : Nat) (l0 : List Int) (a1 : Int) (a2 : Int) : Option (List Int) := if 0 ≤ (wrap64 ((l0.length : Int) + 1)) then (if (wrap64 ((l0.length : Int) + 1) : Int).toNat ≤ 70368744177664 then (smallbig_nat_mulAdd.l0 k l0 a1 (List.replicate (wrap64 ((l0.length : Int) + 1) : Int).toNat 0) (IntKind.u64.wrap (a2)) l0 (l0.length : Int) 0) else (none)) else (none)
set_option maxHeartbeats 8000000 in
set_option maxRecDepth 100000 in
theorem smallbig_nat_mulAdd.calls (k : Nat) (A0 : Option Addr) (c0 : Nat) (l0 : List Int) (a1 : Int) (a2 : Int) (r : List Int) (w : World) (hr0 : Kd.C (Kd.int .u32) w A0 l0.length l0) (hc0 : l0.length ≤ c0) (h : smallbig_nat_mulAdd.f k l0 a1 a2 = some r) :
  Calls Tryz.prog 211 #[.slice A0 l0.length c0, .int .u32 a1, .int .u32 a2] w fun e w' => ∃ v0_ : Value, e = .returned (v0_) ∧ Kd.V (Kd.int .u32) 175 w' w.heap.size (fun k_ => (w.heap.size ≤ k_)) v0_ r ∧ Below w.heap.size w w' := by
 have HR0 := Aside0.mk hr0
 have HC0 := Aside0.mk hc0
 clear hr0 hc0
 have HB := Aside0.mk (Below.refl w.heap.size w)
 have H : (if 0 ≤ (wrap64 ((l0.length : Int) + 1)) then (if (wrap64 ((l0.length : Int) + 1) : Int).toNat ≤ 70368744177664 then (smallbig_nat_mulAdd.l0 k l0 a1 (List.replicate (wrap64 ((l0.length : Int) + 1) : Int).toNat 0) (IntKind.u64.wrap (a2)) l0 (l0.length : Int) 0) else (none)) else (none)) = some r := h
 clear h
 obtain ⟨ji4, hji4⟩ : ∃ j_ : Int, (wrap64 ((l0.length : Int) + 1)) = j_ := ⟨_, rfl⟩
 replace H : (if 0 ≤ (ji4) then (if (ji4 : Int).toNat ≤ 70368744177664 then (smallbig_nat_mulAdd.l0 k l0 a1 (List.replicate (ji4 : Int).toNat 0) (IntKind.u64.wrap (a2)) l0 (l0.length : Int) 0) else (none)) else (none)) = some r := by first | (rw [hji4] at H; exact H) | (simp only [hji4] at H ⊢; exact H)
 have hji4w : (IntKind.i64.wrap ((l0.length : Int) + 1)) = ji4 := (i64_w _).trans hji4
 by_cases c5 : 0 ≤ (ji4)
 ·
  rw [if_pos c5] at H
  have c5b0 := eq_true c5
  have c5b1 : decide (0 ≤ (ji4)) = true := decide_eq_true c5
  clear c5
  by_cases c6 : (ji4 : Int).toNat ≤ 70368744177664
  ·
   rw [if_pos c6] at H
   have c6b0 := eq_true c6
   have c6b1 : decide ((ji4 : Int).toNat ≤ 70368744177664) = true := decide_eq_true c6
   clear c6
   obtain ⟨y107, hy107⟩ : ∃ y_ : List Int, y_ = (List.replicate (ji4 : Int).toNat 0) := ⟨_, rfl⟩
   replace H : (smallbig_nat_mulAdd.l0 k l0 a1 y107 (IntKind.u64.wrap (a2)) l0 (l0.length : Int) 0) = some r := by first | (rw [hy107]; with_reducible exact H) | (have H2_ := (Option.bind_some _ _).symm.trans H; rw [hy107]; with_reducible exact H2_) | (have H2_ := (Option.bind_some _ _).symm.trans H; with_reducible exact H2_) | with_reducible exact H | (rw [hy107]; exact H) | exact H
   have Ny107 := Aside0.mk hy107
   clear hy107
   have H' := Aside0.mk H
   clear H
   go_enter Tryz.func211, Tryz.ntmps211
   go_wp2_with (first | ((with_reducible refine gate_dst (N := 14) rfl ?_); refine Kd.R_make (Kd.int .u32) _ 175 rfl (N := 14) rfl 95 _ _ rfl ji4 rfl rfl Tryz.underlying95 (.int .u32 0) 4 info175 rfl (by decide) (by omega) 0 (ok := fun _ => True) (okp := fun _ => True) rfl (fun _ hk => hk) trivial (of_decide_eq_true (by first | (with_reducible assumption) | assumption)) (Nat.le_trans (Nat.mul_le_mul_right _ (of_decide_eq_true (by first | (with_reducible assumption) | assumption) : ji4.toNat ≤ 70368744177664)) (by omega)) (Below.refl _ _) (Nat.le_refl _) ?_; intro v108 w7 ho8 hb hg_ hnew_; clear hg_ hnew_; (first | rw [← Ny107.out] at ho8 | (simp only [Int.reduceToNat] at ho8; rw [← Ny107.out] at ho8)); have n0_ := Aside0.mk (Kd.R_lower (Kd.R_newM (M := fun k_ => (w.heap.size ≤ k_)) ho8 (below_size (by repeat (first | (with_reducible first | exact HB.out | apply below_alloc | apply pw_below_drewN | apply below_drew1) | exact HB.out))) (fun k_ h_ => h_)) (below_size (by repeat (first | (with_reducible first | exact HB.out | apply below_alloc | apply pw_below_drewN | apply below_drew1) | exact HB.out)))); have n1_ := Aside0.mk (below_step (by repeat (first | (with_reducible first | exact HB.out | apply below_alloc | apply pw_below_drewN | apply below_drew1) | exact HB.out)) hb); clear HB; have HO109 := n0_; have HB := n1_; clear n0_ n1_; clear hb ho8))
   go_loopg [8, 19] k (fun kq v8 v19 w' => ∃ (x7_1 : List Int) (x8_1 : Int) (x19_1 : Int), v8 = .int .u64 x8_1 ∧ v19 = .int .i64 x19_1 ∧ Aside0 (smallbig_nat_mulAdd.l0 kq l0 a1 x7_1 x8_1 l0 (l0.length : Int) x19_1 = some r) ∧ Aside0 (kq ≤ k) ∧ Aside0 (Kd.R (Kd.int .u32) 175 w' w.heap.size (fun k_ => (w.heap.size ≤ k_)) v108 x7_1) ∧ Aside0 (Below w.heap.size w w'))
   case atStart => exact ⟨(y107), (IntKind.u64.wrap (a2)), (0), (by first | rfl | (simp; done) | (simp [*]; done)), (by first | rfl | (simp; done) | (simp [*]; done)), H', ⟨Nat.le_refl _⟩, ⟨by (with_reducible repeat (first | apply Kd.R_alloc | apply Kd.R_drewN | apply Kd.R_drew)); exact Kd.R_mono HO109.out (fun _ hk => hk.1)⟩, ⟨by repeat (first | (with_reducible first | exact HB.out | apply below_alloc | apply pw_below_drewN | apply below_drew1) | exact HB.out)⟩⟩
   case round =>
    clear H'
    try clear c2
    try clear p2
    try clear c5
    try clear c5b0
    try clear c5b1
    try clear c6
    try clear c6b0
    try clear c6b1
    try clear p6
    obtain ⟨x7_1, x8_1, x19_1, rfl, rfl, HA, HK1, HO_7, HB⟩ := hrel
    cases gk with
    | zero => exact absurd HA.out (by simp [smallbig_nat_mulAdd.l0])
    | succ k1 =>
     have H := HA.out
     clear HA
     simp only [smallbig_nat_mulAdd.l0] at H
     by_cases c9 : x19_1 < (l0.length : Int)
     ·
      rw [if_pos c9] at H
      have c9b0 : decide (x19_1 < (l0.length : Int)) = true := decide_eq_true c9
      clear c9
      by_cases c10 : 0 ≤ x19_1
      ·
       rw [if_pos c10] at H
       have c10b0 : decide (0 ≤ x19_1) = true := decide_eq_true c10
       clear c10
       by_cases c11 : x19_1 < (l0.length : Int)
       ·
        rw [if_pos c11] at H
        have c11b0 : decide (x19_1 < (l0.length : Int)) = true := decide_eq_true c11
        clear c11
        by_cases c12 : x19_1 < (x7_1.length : Int)
        ·
         rw [if_pos c12] at H
         have c12b0 : decide (x19_1 < (x7_1.length : Int)) = true := decide_eq_true c12
         clear c12
         obtain ⟨y111, hy111⟩ : ∃ y_ : List Int, y_ = (x7_1.set (x19_1 : Int).toNat ((IntKind.u64.wrap (x8_1 + (IntKind.u64.wrap ((IntKind.u64.wrap (rd l0 x19_1)) * (IntKind.u64.wrap (a1)))))) % 4294967296)) := ⟨_, rfl⟩
         replace H : (smallbig_nat_mulAdd.l0 k1 l0 a1 y111 ((IntKind.u64.wrap (x8_1 + (IntKind.u64.wrap ((IntKind.u64.wrap (rd l0 x19_1)) * (IntKind.u64.wrap (a1)))))) / 4294967296) l0 (l0.length : Int) (wrap64 (x19_1 + 1))) = some r := by first | (rw [hy111]; with_reducible exact H) | (have H2_ := (Option.bind_some _ _).symm.trans H; rw [hy111]; with_reducible exact H2_) | (have H2_ := (Option.bind_some _ _).symm.trans H; with_reducible exact H2_) | with_reducible exact H | (rw [hy111]; exact H) | exact H
         have Ny111 := Aside0.mk hy111
         clear hy111
         have H' := Aside0.mk H
         clear H
         have p110 : 0 ≤ (x19_1 : Int) := of_decide_eq_true (by first | (with_reducible assumption) | assumption)
         have q110 : x19_1 < (l0.length : Int) := of_decide_eq_true (by first | (with_reducible assumption) | assumption)
         obtain ⟨ad110, e110, hx110_0⟩ := Kd.at_int HR0.out x19_1 p110 q110
         cases e110
         replace hx110_0 := (HB.out.cell (World.block_lt_of_cell? w _ hx110_0)).trans hx110_0
         replace p110 := eq_true p110
         replace q110 := eq_true q110
         have p13 : 0 ≤ (x19_1 : Int) := of_decide_eq_true (by first | (with_reducible assumption) | assumption)
         have q13 : (x19_1 : Int) < ((x7_1.length : Int) : Int) := of_decide_eq_true (by first | (with_reducible assumption) | assumption)
         obtain ⟨go13, co13, eo13, gb13, gl13, cl13, HG13⟩ := Kd.R_form HO_7.out (by omega)
         (first | cases eo13 | (injection eo13 with ea_ en_ ec_; (first | subst ea_ | (injection ea_ with ea_; subst ea_)); subst ec_; clear en_))
         have GB13 := Aside0.mk gb13
         have GG13 := Aside0.mk HG13
         clear gb13 gl13 HG13
         obtain ⟨hx13_0, hf13_0⟩ := Kd.R_celln 0 HO_7.out (x19_1 : Int) p13 q13
         replace p13 := eq_true p13
         replace q13 := eq_true q13
         have HP14 := Kd.R_putg HO_7.out (x19_1 : Int) ((IntKind.u64.wrap (x8_1 + (IntKind.u64.wrap ((IntKind.u64.wrap (rd l0 x19_1)) * (IntKind.u64.wrap (a1)))))) % 4294967296)
         go_wp2_with (first | ((with_reducible refine gate_store (t := 175) (p := 35) rfl ?_); refine store_event (t := 175) (p := 35) (v := ?vo_w15) (w1 := (wr.setCell ⟨go13, (x19_1 : Int).toNat, none⟩ (.int .u32 ((IntKind.u64.wrap (x8_1 + (IntKind.u64.wrap ((IntKind.u64.wrap (rd l0 x19_1)) * (IntKind.u64.wrap (a1)))))) % 4294967296)))) ?hg ?ho ?hn ?hr ?_; (case ho => rfl); (case hg => rfl); (case hn => rfl); (case hr => first | (go_simp; done) | (go_simp; rfl)); intro w15 hw; have hg : wr.grownBy w15 (some go13) := (by rw [hw]; exact HP14.2); have hp_ : Kd.R (Kd.int .u32) 175 w15 w.heap.size (fun k_ => (w.heap.size ≤ k_)) (.slice (some ⟨go13, 0, none⟩) x7_1.length co13) y111 := (by rw [hw, Ny111.out]; exact HP14.1); clear HP14; have n0_ := Aside0.mk (hp_); have n1_ := Aside0.mk ((by rw [hw]; exact below_set (HB.out) GB13.out : Below w.heap.size w w15)); clear HO_7; clear HB; have HO_7 := n0_; have HB := n1_; clear n0_ n1_; clear hg hw hp_))
         go_roundg k1
         case measure => have := HK1.out; omega
         case rel => exact ⟨(y111), ((IntKind.u64.wrap (x8_1 + (IntKind.u64.wrap ((IntKind.u64.wrap (rd l0 x19_1)) * (IntKind.u64.wrap (a1)))))) / 4294967296), (wrap64 (x19_1 + 1)), (by first | rfl | (simp; done) | (simp [*]; done)), (by first | rfl | (simp; done) | (simp [*]; done)), H', ⟨by have := HK1.out; omega⟩, ⟨by (with_reducible repeat (first | apply Kd.R_alloc | apply Kd.R_drewN | apply Kd.R_drew)); exact HO_7.out⟩, ⟨by repeat (first | (with_reducible first | exact HB.out | apply below_alloc | apply pw_below_drewN | apply below_drew1) | exact HB.out)⟩⟩
        ·
         rw [if_neg c12] at H
         exact absurd H (by simp)
       ·
        rw [if_neg c11] at H
        exact absurd H (by simp)
      ·
       rw [if_neg c10] at H
       exact absurd H (by simp)
     ·
      rw [if_neg c9] at H
      have c9b0 : decide (x19_1 < (l0.length : Int)) = false := decide_eq_false c9
      clear c9
      by_cases c16 : 0 ≤ (l0.length : Int)
      ·
       rw [if_pos c16] at H
       have c16b0 : decide (0 ≤ (l0.length : Int)) = true := decide_eq_true c16
       have c16b1 : decide (0 ≤ l0.length) = true := decide_eq_true (by omega)
       clear c16
       by_cases c17 : (l0.length : Int) < (x7_1.length : Int)
       ·
        rw [if_pos c17] at H
        have c17b0 : decide ((l0.length : Int) < (x7_1.length : Int)) = true := decide_eq_true c17
        have c17b1 : decide (l0.length < x7_1.length) = true := decide_eq_true (Int.ofNat_lt.mp c17)
        clear c17
        obtain ⟨y112, hy112⟩ : ∃ y_ : List Int, y_ = (x7_1.set ((l0.length : Int) : Int).toNat ((x8_1) % 4294967296)) := ⟨_, rfl⟩
        replace H : ((smallbig_nat_norm.f k1 y112).bind fun t113 => (some t113)) = some r := by first | (rw [hy112]; with_reducible exact H) | (have H2_ := (Option.bind_some _ _).symm.trans H; rw [hy112]; with_reducible exact H2_) | (have H2_ := (Option.bind_some _ _).symm.trans H; with_reducible exact H2_) | with_reducible exact H | (rw [hy112]; exact H) | exact H
        have Ny112 := Aside0.mk hy112
        clear hy112
        replace H := Option.bind_eq_some_iff.mp H
        obtain ⟨t113, A190, H⟩ := H
        replace H : (some t113) = some r := H
        have A19 := Aside0.mk A190
        clear A190
        obtain rfl := Option.some.inj H
        have p18 : 0 ≤ ((l0.length : Int) : Int) := of_decide_eq_true (by first | (with_reducible assumption) | assumption)
        have q18 : ((l0.length : Int) : Int) < ((x7_1.length : Int) : Int) := of_decide_eq_true (by first | (with_reducible assumption) | assumption)
        obtain ⟨go18, co18, eo18, gb18, gl18, cl18, HG18⟩ := Kd.R_form HO_7.out (by omega)
        (first | cases eo18 | (injection eo18 with ea_ en_ ec_; (first | subst ea_ | (injection ea_ with ea_; subst ea_)); subst ec_; clear en_))
        have GB18 := Aside0.mk gb18
        have GG18 := Aside0.mk HG18
        clear gb18 gl18 HG18
        obtain ⟨hx18_0, hf18_0⟩ := Kd.R_celln 0 HO_7.out ((l0.length : Int) : Int) p18 q18
        rw [Int.toNat_natCast] at hx18_0 hf18_0
        replace p18 := eq_true p18
        replace q18 := eq_true q18
        have HP20 := Kd.R_putg HO_7.out ((l0.length : Int) : Int) ((x8_1) % 4294967296)
        rw [Int.toNat_natCast] at HP20
        go_wp2_with (first | ((with_reducible refine gate_store (t := 175) (p := 44) rfl ?_); refine store_event (t := 175) (p := 44) (v := ?vo_w21) (w1 := (wr.setCell ⟨go18, l0.length, none⟩ (.int .u32 ((x8_1) % 4294967296)))) ?hg ?ho ?hn ?hr ?_; (case ho => rfl); (case hg => rfl); (case hn => rfl); (case hr => first | (go_simp; done) | (go_simp; rfl)); intro w21 hw; have hg : wr.grownBy w21 (some go18) := (by rw [hw]; exact HP20.2); have hp_ : Kd.R (Kd.int .u32) 175 w21 w.heap.size (fun k_ => (w.heap.size ≤ k_)) (.slice (some ⟨go18, 0, none⟩) x7_1.length co18) y112 := (by rw [hw, Ny112.out, Int.toNat_natCast]; exact HP20.1); clear HP20; have n0_ := Aside0.mk (hp_); have n1_ := Aside0.mk ((by rw [hw]; exact below_set (HB.out) GB18.out : Below w.heap.size w w21)); clear HO_7; clear HB; have HO_7 := n0_; have HB := n1_; clear n0_ n1_; clear hg hw hp_) | ((with_reducible refine gate_callee (f := 193) rfl ?_); refine goesL_ (some 46) rfl rfl Tryz.func193 (by kernel_rfl) rfl #[.slice (some ⟨go18, 0, none⟩) y112.length co18] rfl (by (try simp only [List.map_toArray, List.map_cons, List.map_nil]); first | done | (rw [show y112.length = x7_1.length from (Kd.R_reads' HO_7.out).1.symm] <;> rfl) | rfl | (simp only [List.length_drop, List.length_take]; rfl)) ?_; (with_reducible refine (smallbig_nat_norm.calls k1 (fun k_ => some k_ = (.slice (some ⟨go18, 0, none⟩) x7_1.length co18 : Value).ownBlock) _ _ y112 t113 _ ?side1 A19.out).mono ?_); (case side1 => rw [show y112.length = x7_1.length from (Kd.R_reads' HO_7.out).1.symm]; exact Kd.R_V (Kd.R_tight rfl (HO_7.out))); rintro e w22 ⟨v114, rfl, ho0, hb⟩; refine ⟨_, rfl, ?_⟩; have n0_ := Aside0.mk (Kd.R_below (by (with_reducible repeat (first | apply Kd.R_alloc | apply Kd.R_drewN | apply Kd.R_drew)); exact HO_7.out) hb); have n1_ := Aside0.mk (Kd.V_lower (Kd.V_mono (ok' := fun k_ => (w.heap.size ≤ k_)) ho0 (fun k_ hk_ => Or.elim hk_ (fun hs_ => ((HO_7.out).1 k_ hs_.symm)) (fun hn_ => (Nat.le_trans (below_size (by repeat (first | (with_reducible first | exact HB.out | apply below_alloc | apply pw_below_drewN | apply below_drew1) | exact HB.out))) hn_)))) (below_size (by repeat (first | (with_reducible first | exact HB.out | apply below_alloc | apply pw_below_drewN | apply below_drew1) | exact HB.out)))); have n2_ := Aside0.mk (below_step (by repeat (first | (with_reducible first | exact HB.out | apply below_alloc | apply pw_below_drewN | apply below_drew1) | exact HB.out)) hb); clear HO_7; clear HB; have HO_7 := n0_; have HO115 := n1_; have HB := n2_; clear n0_ n1_ n2_; (try clear hb); (try clear hb2); (try clear hk); (try clear hi); (try clear ho0)))
        go_ret
        exact ⟨_, by first | rfl | (simp [errW_none, errW_some] <;> rfl) | (simp only [← hji4]; first | rfl | (simp [errW_none, errW_some] <;> rfl)) | (simp [*, errW_none, errW_some] <;> rfl), by (with_reducible repeat (first | apply Kd.V_alloc | apply Kd.V_drewN | apply Kd.V_drew)); exact HO115.out, by repeat (first | (with_reducible first | exact HB.out | apply below_alloc | apply pw_below_drewN | apply below_drew1) | exact HB.out)⟩
       ·
        rw [if_neg c17] at H
        exact absurd H (by simp)
      ·
       rw [if_neg c16] at H
       exact absurd H (by simp)
  ·
   rw [if_neg c6] at H
   exact absurd H (by simp)
 ·
  rw [if_neg c5] at H
  exact absurd H (by simp)


/-! ### nat.add, x being the longer one -/
end Go.Proofs.YtaiidipcmnejoaaGreatDoor.NatW

/- What package big's functions on digits give, at every list of digits that is read in memory: one contract each. -/
namespace Go.Proofs.YtaiidipcmnejoaaGreatDoor.Nt
open Go.RowKit Go.Lib Go.Proofs.YtaiidipcmnejoaaGreatDoorW.PrintWords Go.Proofs.YtaiidipcmnejoaaGreatDoorW.PrintLast Go.Proofs.YtaiidipcmnejoaaGreatDoorW.PrintMore

/-! ### add, mulAdd: plain -/
theorem fin_set (out : List Int) (c : Int) (n : Nat) (hl : out.length = n) (h0 : 0 ≤ c) (h1 : c < 4294967296) : (out ++ List.replicate 1 0).set n (c % 4294967296) = out ++ [c] := by
 rw [set_mid out 1 _ n hl.symm (by omega), show c % 4294967296 = c by omega]
 simp
theorem mulAdd_l0 (x : List Int) (hx : isU x) (y r0 : Int) (hy0 : 0 ≤ y) (hy1 : y < 4294967296) (hm : x.length ≤ 1000000000) (n : Nat) : ∀ (k i : Nat) (out : List Int) (c : Int), i + n = x.length → x.length + n + 4 ≤ k →
  out.length = i → isU out → 0 ≤ c → c < 4294967296 → nv out + c * 4294967296 ^ i = nv (x.take i) * y + r0 →
  ∃ r, NatW.smallbig_nat_mulAdd.l0 k x y (out ++ List.replicate (n + 1) 0) c x (x.length : Int) (i : Int) = some r ∧ isN r ∧ nv r = nv x * y + r0 ∧ r.length ≤ x.length + 1 := by
 induction n with
 | zero =>
  intro k i out c hi hk hl hu hc0 hc1 hinv
  obtain ⟨k, rfl⟩ : ∃ m, k = m + 1 := ⟨k - 1, by omega⟩
  have hi' : i = x.length := by omega
  subst hi'
  rw [take_all x _ (Nat.le_refl _)] at hinv
  have hlen : (out ++ List.replicate (0 + 1) (0 : Int)).length = x.length + 1 := by simp; omega
  rw [NatW.smallbig_nat_mulAdd.l0, if_neg (by omega), if_pos (by omega), hlen, if_pos (by omega), Int.toNat_natCast, fin_set out c _ hl hc0 (by omega)]
  obtain ⟨r, e, h2, h3, h4⟩ := norm_g Pdiv.smallbig_nat_norm.l0 (fun _ _ => rfl) k (out ++ [c]) (isU_snoc hu hc0 (by omega)) (by simp; omega) (by simp; omega)
  refine ⟨r, ?_, h2, by rw [h3, nv_snoc, hl]; omega, by simp at h4; omega⟩
  unfold Pdiv.smallbig_nat_norm.f
  rw [e]; rfl
 | succ n ih =>
  intro k i out c hi hk hl hu hc0 hc1 hinv
  obtain ⟨k, rfl⟩ : ∃ m, k = m + 1 := ⟨k - 1, by omega⟩
  have hlt : i < x.length := by omega
  have hxi := hx x[i] (List.getElem_mem hlt)
  have e1 : ((i : Int) + 1) = ((i + 1 : Nat) : Int) := by omega
  have hlen : (out ++ List.replicate (n + 1 + 1) (0 : Int)).length = x.length + 1 := by simp; omega
  have hp0 : 0 ≤ x[i] * y := Int.mul_nonneg hxi.1 hy0
  have hp1 : x[i] * y ≤ 4294967295 * 4294967295 := by
   have h1 : x[i] * y ≤ 4294967295 * y := Int.mul_le_mul_of_nonneg_right (by omega) hy0
   have h2 : 4294967295 * y ≤ 4294967295 * 4294967295 := by omega
   omega
  rw [NatW.smallbig_nat_mulAdd.l0, if_pos (by omega), if_pos (by omega), if_pos (by omega), hlen, if_pos (by omega), rd_at x i hlt, u64w x[i] (by omega) (by omega), u64w y (by omega) (by omega), u64w (x[i] * y) hp0 (by omega), u64w (c + x[i] * y) (by omega) (by omega),
   w64 _ (by omega) (by omega), e1, Int.toNat_natCast]
  obtain ⟨d, hd⟩ : ∃ d : Int, d = c + x[i] * y := ⟨_, rfl⟩
  rw [← hd, set_mid out (n + 1 + 1) _ i hl.symm (by omega)]
  refine ih k (i + 1) _ _ (by omega) (by omega) (by simp [hl]) (isU_snoc hu (by omega) (by omega)) (by omega) (by omega) ?_
  rw [nv_snoc, hl, nv_take x i hlt, Int.pow_succ]
  have e3 : d = d % 4294967296 + 4294967296 * (d / 4294967296) := by omega
  have e4 : d % 4294967296 * 4294967296 ^ i + d / 4294967296 * (4294967296 ^ i * 4294967296) = d * 4294967296 ^ i := by
   conv => rhs; rw [e3]
   rw [Int.add_mul, Int.mul_comm (4294967296 ^ i) 4294967296, ← Int.mul_assoc, Int.mul_comm (d / 4294967296) 4294967296]
  have e5 : x[i] * 4294967296 ^ i * y = x[i] * y * 4294967296 ^ i := by rw [Int.mul_assoc, Int.mul_comm (4294967296 ^ i) y, ← Int.mul_assoc]
  rw [Int.add_assoc, e4, hd, Int.add_mul, Int.add_mul, e5]
  omega
theorem mulAdd_f (x : List Int) (hx : isU x) (y r0 : Int) (hy0 : 0 ≤ y) (hy1 : y < 4294967296) (hr0 : 0 ≤ r0) (hr1 : r0 < 4294967296) (hm : x.length ≤ 1000000000) (k : Nat) (hk : 2 * x.length + 4 ≤ k) :
  ∃ r, NatW.smallbig_nat_mulAdd.f k x y r0 = some r ∧ isN r ∧ nv r = nv x * y + r0 ∧ r.length ≤ x.length + 1 := by
 unfold NatW.smallbig_nat_mulAdd.f
 rw [w64 _ (by omega) (by omega), if_pos (by omega), if_pos (by omega), show ((x.length : Int) + 1).toNat = x.length + 1 by omega, u64w r0 hr0 (by omega)]
 exact mulAdd_l0 x hx y r0 hy0 hy1 hm x.length k 0 [] r0 (by omega) (by omega) rfl isU_nil hr0 hr1 (by simp [nv])

/-! ### In memory -/
/-- A slice value that reads as these digits. -/
def NatV (w : World) (v : Value) (xs : List Int) : Prop := ∃ A c, v = .slice A xs.length c ∧ xs.length ≤ c ∧ Kd.C (Kd.int .u32) w A xs.length xs
theorem NatV.below {w w' : World} {v : Value} {xs : List Int} (h : NatV w v xs) (hb : Below w.heap.size w w') : NatV w' v xs := by
 obtain ⟨A, c, h1, h2, h3⟩ := h
 exact ⟨A, c, h1, h2, Kd.C_below h3 hb⟩
theorem NatV.of {w : World} {b : Nat} {ok : Nat → Prop} {v : Value} {xs : List Int} (h : Kd.V (Kd.int .u32) 175 w b ok v xs) : NatV w v xs := by
 have h0 := h
 obtain ⟨A, c, rfl, hl, _⟩ := h0
 exact ⟨A, c, rfl, hl, (Kd.V_reads' h).2.2⟩
theorem NatV.nil (w : World) : NatV w (.slice none 0 0) [] := ⟨none, 0, rfl, Nat.le_refl _, rfl, by simp, fun h => by simp at h⟩

theorem c_mulAdd (v : Value) (x : List Int) (y r0 : Int) (w : World) (hv : NatV w v x) (hx : isN x) (hy0 : 0 ≤ y) (hy1 : y < 4294967296) (hr0 : 0 ≤ r0) (hr1 : r0 < 4294967296) (hxm : x.length ≤ 1000000) :
  Calls Tryz.prog 211 #[v, .int .u32 y, .int .u32 r0] w fun e w' => ∃ v' r, e = .returned v' ∧ NatV w' v' r ∧ isN r ∧ nv r = nv x * y + r0 ∧ r.length ≤ x.length + 1 ∧ Below w.heap.size w w' := by
 obtain ⟨A, c, rfl, hc, hr⟩ := hv
 obtain ⟨r, e1, h1, h2, h3⟩ := mulAdd_f x hx.1 y r0 hy0 hy1 hr0 hr1 (by omega) (2 * x.length + 4) (by omega)
 refine (NatW.smallbig_nat_mulAdd.calls _ A c x y r0 r w hr hc e1).mono ?_
 rintro e w' ⟨v', rfl, hV, hb⟩
 exact ⟨v', r, rfl, NatV.of hV, h1, h2, h3, hb⟩
theorem c_cmp (v u : Value) (x y : List Int) (w : World) (hv : NatV w v x) (hu : NatV w u y) (hx : isN x) (hy : isN y) (hxm : x.length ≤ 1000000) :
  Calls Tryz.prog 128 #[v, u] w fun e w' => e = .returned (.int .i64 (cmpI (nv x) (nv y))) ∧ Drawn0 w w' := by
 obtain ⟨A, c, rfl, hc, hr⟩ := hv
 obtain ⟨A', c', rfl, hc', hr'⟩ := hu
 exact Pdiv.smallbig_nat_cmp.calls (x.length + 1) A c x A' c' y _ w hr hc hr' hc' (cmp_f x y hx hy (by omega) _ (by omega))
theorem c_divW (v : Value) (x : List Int) (y : Int) (w : World) (hv : NatV w v x) (hx : isN x) (hy0 : 0 < y) (hy1 : y < 4294967296) (hxm : x.length ≤ 1000000) :
  Calls Tryz.prog 187 #[v, .int .u32 y] w fun e w' => ∃ v' q r, e = .returned (.tuple #[v', .int .u32 r]) ∧ NatV w' v' q ∧ isN q ∧ nv x = nv q * y + r ∧ 0 ≤ r ∧ r < y ∧ q.length ≤ x.length ∧ Below w.heap.size w w' := by
 obtain ⟨A, c, rfl, hc, hr⟩ := hv
 obtain ⟨q, r, e1, h1, h2, h3, h4, h5⟩ := divW_f x hx.1 y hy0 hy1 (by omega) (2 * x.length + 2) (by omega)
 refine (Pdiv.smallbig_nat_divW.calls _ A c x y q r w hr hc e1).mono ?_
 rintro e w' ⟨v', rfl, hV, hb⟩
 exact ⟨v', q, r, rfl, NatV.of hV, h1, h2, h3, h4, h5, hb⟩
theorem c_natOf (u : Int) (w : World) (h0 : 0 ≤ u) (h1 : u < 18446744073709551616) :
  Calls Tryz.prog 188 #[.int .u64 u] w fun e w' => ∃ v' r, e = .returned v' ∧ NatV w' v' r ∧ isN r ∧ nv r = u ∧ r.length ≤ 2 ∧ Below w.heap.size w w' := by
 obtain ⟨r, e1, h2, h3, h4⟩ := natOf_f u h0 h1 4 (by omega)
 refine (Pdiv.smallbig_natOf.calls _ u r w e1).mono ?_
 rintro e w' ⟨v', rfl, hV, hb⟩
 exact ⟨v', r, rfl, NatV.of hV, h2, h3, h4, hb⟩
end Go.Proofs.YtaiidipcmnejoaaGreatDoor.Nt
