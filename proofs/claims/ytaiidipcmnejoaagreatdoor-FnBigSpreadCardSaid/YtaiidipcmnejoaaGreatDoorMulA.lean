import Derived.Test.YtaiidipcmnejoaaGreatDoorNatAll
import Derived.Test.YtaiidipcmnejoaaGreatDoorPMulx1
import Derived.Test.YtaiidipcmnejoaaGreatDoorIntAll

namespace Go.Proofs.YtaiidipcmnejoaaGreatDoor.Nt
open Go.RowKit Go.Lib Go.Proofs.YtaiidipcmnejoaaGreatDoorW.PrintWords Go.Proofs.YtaiidipcmnejoaaGreatDoorW.PrintLast Go.Proofs.YtaiidipcmnejoaaGreatDoorW.PrintMore
theorem nv_set : ∀ (l : List Int) (p : Nat) (v : Int) (h : p < l.length), nv (l.set p v) = nv l + (v - l[p]) * 4294967296 ^ p
  | [], p, v, h => by simp at h
  | d :: l, 0, v, h => by simp [nv]; omega
  | d :: l, p + 1, v, h => by
    have hp : p < l.length := by simpa using h
    have ih := nv_set l p v hp
    simp only [List.set_cons_succ, nv, List.getElem_cons_succ, ih, Int.pow_succ, Int.mul_add]
    rw [show 4294967296 * ((v - l[p]) * 4294967296 ^ p) = (v - l[p]) * (4294967296 ^ p * 4294967296) by
      rw [Int.mul_comm 4294967296, Int.mul_assoc]]
    omega
theorem isU_set {l : List Int} (h : isU l) (p : Nat) (v : Int) (h0 : 0 ≤ v) (h1 : v < 4294967296) : isU (l.set p v) := fun x hx => by
  rcases List.mem_or_eq_of_mem_set hx with h2 | h2
  · exact h x h2
  · subst h2; exact ⟨h0, h1⟩
theorem mul_step {z : Int} {c a b : Int} (hz0 : 0 ≤ z) (hz1 : z < 4294967296) (hc0 : 0 ≤ c) (hc1 : c < 4294967296) (ha0 : 0 ≤ a) (ha1 : a < 4294967296) (hb0 : 0 ≤ b) (hb1 : b < 4294967296) :
    0 ≤ a * b ∧ a * b + z + c < 18446744073709551616 := by
  have h1 : 0 ≤ a * b := Int.mul_nonneg ha0 hb0
  have h2 : a * b ≤ 4294967295 * 4294967295 := Int.mul_le_mul (by omega) (by omega) hb0 (by omega)
  omega
theorem mul_l1 (x y : List Int) (hx : isU x) (hy : isU y) (hxm : x.length ≤ 1000000) (hym : y.length ≤ 1000000) (i : Nat) (hi : i < x.length) (xs17 : List Int) (x18 : Int) (n : Nat) :
    ∀ (k j : Nat) (z : List Int) (c : Int), j + n = y.length → n < k → z.length = x.length + y.length → isU z → 0 ≤ c → c < 4294967296 →
      nv z + c * 4294967296 ^ (i + j) = nv (x.take i) * nv y + x[i] * nv (y.take j) * 4294967296 ^ i → (∀ p (h : p < z.length), i + y.length ≤ p → z[p] = 0) →
      ∃ (k' : Nat) (z' : List Int), k - n ≤ k' + 1 ∧ z'.length = x.length + y.length ∧ isU z' ∧ nv z' = nv (x.take (i + 1)) * nv y ∧ (∀ p (h : p < z'.length), i + 1 + y.length ≤ p → z'[p] = 0) ∧
        PMul.smallbig_nat_mul.l1 k y z (i : Int) x[i] c xs17 x18 (i : Int) y (y.length : Int) (j : Int) = PMul.smallbig_nat_mul.l0 k' y z' xs17 x18 ((i + 1 : Nat) : Int) := by
  induction n with
  | zero =>
    intro k j z c hj hk hl hu hc0 hc1 hinv hzero
    obtain ⟨k, rfl⟩ : ∃ m, k = m + 1 := ⟨k - 1, by omega⟩
    have hjy : j = y.length := by omega
    subst hjy
    have hp : i + y.length < z.length := by omega
    refine ⟨k, z.set (i + y.length) c, by omega, by simp [hl], isU_set hu _ _ hc0 hc1, ?_, ?_, ?_⟩
    · rw [nv_set z _ _ hp, hzero _ hp (Nat.le_refl _), nv_take x i hi]
      rw [List.take_length] at hinv
      have e : (c - 0) * 4294967296 ^ (i + y.length) = c * 4294967296 ^ (i + y.length) := by rw [Int.sub_zero]
      rw [e, hinv, Int.add_mul]
      have e2 : x[i] * nv y * 4294967296 ^ i = x[i] * 4294967296 ^ i * nv y := by rw [Int.mul_assoc, Int.mul_comm (nv y), ← Int.mul_assoc]
      rw [e2]
    · intro p h hp2
      rw [List.getElem_set]
      rw [if_neg (by omega)]
      exact hzero p (by simpa using h) (by omega)
    · rw [PMul.smallbig_nat_mul.l1, if_neg (by omega)]
      have e1 : (i : Int) + (y.length : Int) = ((i + y.length : Nat) : Int) := by omega
      have e2 : (i : Int) + 1 = ((i + 1 : Nat) : Int) := by omega
      rw [e1, e2, w64 _ (by omega) (by omega), w64 _ (by omega) (by omega), if_pos (by omega), if_pos (by omega), Int.toNat_natCast, Int.emod_eq_of_lt hc0 hc1]
  | succ n ih =>
    intro k j z c hj hk hl hu hc0 hc1 hinv hzero
    obtain ⟨k, rfl⟩ : ∃ m, k = m + 1 := ⟨k - 1, by omega⟩
    have hjl : j < y.length := by omega
    have hp : i + j < z.length := by omega
    have hyj := hy y[j] (List.getElem_mem hjl)
    have hxi := hx x[i] (List.getElem_mem hi)
    have hzp := hu z[i + j] (List.getElem_mem hp)
    obtain ⟨m0, m1⟩ := mul_step hzp.1 hzp.2 hc0 hc1 hxi.1 hxi.2 hyj.1 hyj.2
    have e1 : (i : Int) + (j : Int) = ((i + j : Nat) : Int) := by omega
    have e2 : (j : Int) + 1 = ((j + 1 : Nat) : Int) := by omega
    obtain ⟨s, hs⟩ : ∃ s, s = c + (x[i] * y[j] + z[i + j]) := ⟨_, rfl⟩
    have hs0 : 0 ≤ s := by omega
    have hs1 : s < 18446744073709551616 := by omega
    have key : PMul.smallbig_nat_mul.l1 (k + 1) y z (i : Int) x[i] c xs17 x18 (i : Int) y (y.length : Int) (j : Int) = PMul.smallbig_nat_mul.l1 k y (z.set (i + j) (s % 4294967296)) (i : Int) x[i] (s / 4294967296) xs17 x18 (i : Int) y (y.length : Int) ((j + 1 : Nat) : Int) := by
      rw [PMul.smallbig_nat_mul.l1, if_pos (by omega), if_pos (by omega), if_pos (by omega), e1, e2, w64 _ (by omega) (by omega), w64 _ (by omega) (by omega), if_pos (by omega), if_pos (by omega), Int.toNat_natCast, rd_at _ _ hjl, rd_at _ _ hp]
      rw [u64w x[i] hxi.1 (by omega), u64w y[j] hyj.1 (by omega), u64w z[i + j] hzp.1 (by omega), u64w _ m0 (by omega), u64w (x[i] * y[j] + z[i + j]) (by omega) (by omega), ← hs, u64w s hs0 hs1]
    rw [key]
    have hd : s % 4294967296 + 4294967296 * (s / 4294967296) = s := by omega
    obtain ⟨k', z', h1, h2, h3, h4, h5, h6⟩ := ih k (j + 1) (z.set (i + j) (s % 4294967296)) (s / 4294967296) (by omega) (by omega) (by simp [hl]) (isU_set hu _ _ (by omega) (by omega)) (by omega) (by omega) (by
      rw [nv_set z _ _ hp, nv_take y j hjl, show i + (j + 1) = (i + j) + 1 by omega, Int.pow_succ]
      have e3 : s / 4294967296 * (4294967296 ^ (i + j) * 4294967296) = (4294967296 * (s / 4294967296)) * 4294967296 ^ (i + j) := by
        rw [Int.mul_comm (4294967296 ^ (i + j)) 4294967296, ← Int.mul_assoc, Int.mul_comm (s / 4294967296)]
      have e4 : x[i] * (nv (y.take j) + y[j] * 4294967296 ^ j) * 4294967296 ^ i = x[i] * nv (y.take j) * 4294967296 ^ i + (x[i] * y[j]) * 4294967296 ^ (i + j) := by
        rw [Int.mul_add, Int.add_mul, Int.pow_add, ← Int.mul_assoc x[i] y[j], Int.mul_assoc (x[i] * y[j]), Int.mul_comm (4294967296 ^ j) (4294967296 ^ i)]
      rw [e3, e4, ← Int.add_assoc (nv (x.take i) * nv y), ← hinv]
      have e5 : (s % 4294967296 - z[i + j]) * 4294967296 ^ (i + j) + 4294967296 * (s / 4294967296) * 4294967296 ^ (i + j) = c * 4294967296 ^ (i + j) + x[i] * y[j] * 4294967296 ^ (i + j) := by
        rw [← Int.add_mul, ← Int.add_mul]
        congr 1
        omega
      omega) (by
      intro p h hp2
      rw [List.getElem_set, if_neg (by omega)]
      exact hzero p (by simpa using h) hp2)
    exact ⟨k', z', by omega, h2, h3, h4, h5, h6⟩
theorem mul_l0 (x y : List Int) (hx : isU x) (hy : isU y) (hxm : x.length ≤ 1000000) (hym : y.length ≤ 1000000) (n : Nat) :
    ∀ (k i : Nat) (z : List Int), i + n = x.length → n * (y.length + 2) + x.length + y.length + 2 ≤ k → z.length = x.length + y.length → isU z → nv z = nv (x.take i) * nv y → (∀ p (h : p < z.length), i + y.length ≤ p → z[p] = 0) →
      ∃ r, PMul.smallbig_nat_mul.l0 k y z x (x.length : Int) (i : Int) = some r ∧ isN r ∧ nv r = nv x * nv y ∧ r.length ≤ x.length + y.length := by
  induction n with
  | zero =>
    intro k i z hi hk hl hu hinv hzero
    obtain ⟨k, rfl⟩ : ∃ m, k = m + 1 := ⟨k - 1, by omega⟩
    have hix : i = x.length := by omega
    subst hix
    rw [PMul.smallbig_nat_mul.l0, if_neg (by omega)]
    obtain ⟨r, e, h2, h3, h4⟩ := norm_g PMul.smallbig_nat_norm.l0 (fun _ _ => rfl) k z hu (by omega) (by omega)
    unfold PMul.smallbig_nat_norm.f
    rw [e]
    exact ⟨r, rfl, h2, by rw [h3, hinv, List.take_length], by omega⟩
  | succ n ih =>
    intro k i z hi hk hl hu hinv hzero
    rw [Nat.succ_mul] at hk
    obtain ⟨k, rfl⟩ : ∃ m, k = m + 1 := ⟨k - 1, by omega⟩
    have hil : i < x.length := by omega
    rw [PMul.smallbig_nat_mul.l0, if_pos (by omega), if_pos (by omega), if_pos (by omega), rd_at _ _ hil]
    obtain ⟨k', z', h1, h2, h3, h4, h5, h6⟩ := mul_l1 x y hx hy hxm hym i hil x (x.length : Int) y.length k 0 z 0 (by omega) (by omega) hl hu (by omega) (by omega) (by rw [hinv]; simp [nv]) hzero
    rw [show ((0 : Int)) = ((0 : Nat) : Int) from rfl] at h6 ⊢
    have h7 : PMul.smallbig_nat_mul.l1 k y z (i : Int) x[i] ((0 : Nat) : Int) x (x.length : Int) (i : Int) y (y.length : Int) ((0 : Nat) : Int) = PMul.smallbig_nat_mul.l0 k' y z' x (x.length : Int) ((i + 1 : Nat) : Int) := h6
    rw [h7]
    exact ih k' (i + 1) z' (by omega) (by omega) h2 h3 h4 h5
theorem mul_f (x y : List Int) (hx : isN x) (hy : isN y) (hxm : x.length ≤ 1000000) (hym : y.length ≤ 1000000) :
    ∃ r, PMul.smallbig_nat_mul.f (x.length * (y.length + 2) + x.length + y.length + 2) x y = some r ∧ isN r ∧ nv r = nv x * nv y ∧ r.length ≤ x.length + y.length := by
  unfold PMul.smallbig_nat_mul.f
  rw [w64 _ (by omega) (by omega), if_pos (by omega), if_pos (by omega)]
  have e : ((x.length : Int) + (y.length : Int)).toNat = x.length + y.length := by omega
  rw [e]
  have := mul_l0 x y hx.1 hy.1 hxm hym x.length (x.length * (y.length + 2) + x.length + y.length + 2) 0 (List.replicate (x.length + y.length) 0) (by omega) (Nat.le_refl _) (by simp) (isU_rep _) (by rw [nv_rep]; simp [nv]) (fun p h _ => by simp)
  exact this
theorem c_mul (v u : Value) (x y : List Int) (w : World) (hv : NatV w v x) (hu : NatV w u y) (hx : isN x) (hy : isN y) (hxm : x.length ≤ 1000000) (hym : y.length ≤ 1000000) :
    Calls Tryz.prog 157 #[v, u] w fun e w' => ∃ v' r, e = .returned v' ∧ NatV w' v' r ∧ isN r ∧ nv r = nv x * nv y ∧ r.length ≤ x.length + y.length ∧ Below w.heap.size w w' := by
  obtain ⟨A, c, rfl, hc, hr⟩ := hv
  obtain ⟨A', c', rfl, hc', hr'⟩ := hu
  obtain ⟨r, h1, h2, h3, h4⟩ := mul_f x y hx hy hxm hym
  refine (PMul.smallbig_nat_mul.calls _ A c x A' c' y r w hr hc hr' hc' h1).mono ?_
  rintro e w' ⟨v', rfl, hV, hb⟩
  exact ⟨v', r, rfl, NatV.of hV, h2, h3, h4, hb⟩
end Go.Proofs.YtaiidipcmnejoaaGreatDoor.Nt

namespace Go.Proofs.YtaiidipcmnejoaaGreatDoor.IntW
open Go.RowKit Go.Lib Go.Proofs.YtaiidipcmnejoaaGreatDoorW.PrintWords Go.Proofs.YtaiidipcmnejoaaGreatDoorW.PrintLast Go.Proofs.YtaiidipcmnejoaaGreatDoorW.PrintMore
open Go.Proofs.YtaiidipcmnejoaaGreatDoor.Nt
theorem mul_sign (xneg yneg : Bool) (a b m n r : Int) (h4 : m = if xneg then -a else a) (k4 : n = if yneg then -b else b) (hr : r = a * b) : m * n = if (xneg != yneg) then -r else r := by
  subst h4; subst k4; subst hr
  cases xneg <;> cases yneg <;> simp [Int.neg_mul, Int.mul_neg]
set_option maxRecDepth 100000 in
set_option maxHeartbeats 4000000 in
theorem mul_new (gz : Nat) (b0 : Bool) (az : Option Addr) (lz cz : Nat) (gx gy : Nat) (m n : Int) (L : Nat) (w : World)
    (hz : w.heap[gz]? = some (.cells #[.bool b0, .slice az lz cz] 97 (0, 0))) (hx : IntAt w gx m L) (hy : IntAt w gy n L) (hL : L ≤ 100000) :
    Calls Tryz.prog 107 #[.pointer (some ⟨gz, 0, none⟩), .pointer (some ⟨gx, 0, none⟩), .pointer (some ⟨gy, 0, none⟩)] w fun e w' => e = .returned (.pointer (some ⟨gz, 0, none⟩)) ∧ IntAt w' gz (m * n) (2 * L) ∧ w.grownBy w' (some gz) := by
  obtain ⟨xneg, xs, sv, h1, h2, h3, h4, h5, h6⟩ := hx
  obtain ⟨yneg, ys, sw, k1, k2, k3, k4, k5, k6⟩ := hy
  obtain ⟨ax, cx, rfl, hcx, hCx⟩ := h2
  obtain ⟨ay, cy, rfl, hcy, hCy⟩ := k2
  have HX := Lib.hid h1
  have HY := Lib.hid k1
  have HZ := Lib.hid hz
  obtain ⟨x0, x1, x2, x3⟩ := two_cells h1
  obtain ⟨y0, y1, y2, y3⟩ := two_cells k1
  obtain ⟨z0, z1, z2, z3⟩ := two_cells hz
  have HXV : Hid (NatV w (.slice ax xs.length cx) xs) := Lib.hid ⟨ax, cx, rfl, hcx, hCx⟩
  have HYV : Hid (NatV w (.slice ay ys.length cy) ys) := Lib.hid ⟨ay, cy, rfl, hcy, hCy⟩
  have HC := Lib.hid (fun k : Nat => (c_mul _ _ _ _ (w.drewN k) (NatV.drewN HXV.out k) (NatV.drewN HYV.out k) h3 k3 (by omega) (by omega)).mono (fun e w' ⟨v', r, a1, a2, a3, a4, a5, a6⟩ =>
    (⟨v', r, a1, a2, a3, mul_sign xneg yneg (nv xs) (nv ys) m n (nv r) h4 k4 a4, by omega, a6⟩ : ∃ v' r, e = Ending.returned v' ∧ NatV w' v' r ∧ isN r ∧ m * n = (if (xneg != yneg) then -nv r else nv r) ∧ r.length ≤ 2 * L ∧ Below (w.drewN k).heap.size (w.drewN k) w')))
  clear h1 k1 hz hcx hCx hcy hCy h3 k3 h5 k5 h6 k6 h4 k4 HXV HYV
  go_enter Tryz.func107, Tryz.ntmps107
  go_wp2_with fail
  go_region_with (go_at_call 157; refine (HC.out 1).mono ?_; rintro e w1 ⟨v', r, rfl, hV, hN, hnv, hl, hb⟩; obtain ⟨a', c', rfl, hc', hC'⟩ := hV; obtain ⟨q0, q1, q2, q3⟩ := two_cells ((hb.block gz (IntW.lt_of_heap HZ.out)).trans HZ.out); obtain ⟨p0, p1, p2, p3⟩ := two_cells ((hb.block gx (IntW.lt_of_heap HX.out)).trans HX.out); obtain ⟨o0, o1, o2, o3⟩ := two_cells ((hb.block gy (IntW.lt_of_heap HY.out)).trans HY.out); have FF := Lib.hid (fun b2 hb2 => fin_sum ((hb.block gz (IntW.lt_of_heap HZ.out)).trans HZ.out) ((pw_below_drewN (Below.refl w.heap.size w) 1).trans hb) (⟨a', c', rfl, hc', hC'⟩ : NatV w1 _ r) hN (xneg != yneg) b2 (m * n) (2 * L) hnv hb2 hl); clear hN hnv hl hb hc' hC')
  all_goals
    by_cases hr : 0 < r.length
    · have hr1 : decide (0 < r.length) = true := decide_eq_true hr
      have hr2 : decide (0 < (r.length : Int)) = true := decide_eq_true (by omega)
      go_wp2_with fail
      go_ret
      exact ⟨rfl, FF.out _ (by rw [hr1]; cases xneg <;> cases yneg <;> rfl)⟩
    · have hr1 : decide (0 < r.length) = false := decide_eq_false hr
      have hr2 : decide (0 < (r.length : Int)) = false := decide_eq_false (by omega)
      go_wp2_with fail
      go_ret
      exact ⟨rfl, FF.out _ (by rw [hr1]; rfl)⟩
end Go.Proofs.YtaiidipcmnejoaaGreatDoor.IntW
