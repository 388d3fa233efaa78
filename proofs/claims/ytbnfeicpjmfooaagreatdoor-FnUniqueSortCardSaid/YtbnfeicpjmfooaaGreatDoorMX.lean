/-
Parts of the proof, one behind the other: StbQ, StbG, StbW.
-/
import Derived.Test.YtbnfeicpjmfooaaGreatDoorMU
import Derived.Test.YtbnfeicpjmfooaaGreatDoorMW
/-
A stable sort: blocks that rise, in plain terms.
-/
set_option linter.unusedSimpArgs false
set_option linter.unusedVariables false
namespace Go.Proofs.YtbnfeicpjmfooaaGreatDoor.Stb
variable {α : Type} {lt : α → α → Bool}
/-- The elements of each block of k, from lo on and ahead of hi, rise. -/
def RB (lt : α → α → Bool) (k lo hi : Nat) (l : List α) : Prop := ∀ (x y : Nat) (u v : α), lo ≤ x → x < y → y < hi → x / k = y / k → l[x]? = some u → l[y]? = some v → lt v u = false
theorem rb_none (k lo : Nat) (l : List α) : RB lt k lo lo l := fun x y u v h1 h2 h3 => absurd h1 (by omega)
theorem rb_keep {k hi : Nat} {p A M s : List α} (h : RB lt k (p.length + A.length) hi (p ++ (A ++ s))) (e : M.length = A.length) : RB lt k (p.length + A.length) hi (p ++ (M ++ s)) := by
  intro x y u v h1 h2 h3 h4 hu hv
  have g : ∀ z, p.length + A.length ≤ z → (p ++ (M ++ s))[z]? = (p ++ (A ++ s))[z]? := fun z hz => by
    rw [List.getElem?_append_right (by omega), List.getElem?_append_right (by omega), List.getElem?_append_right (by omega), List.getElem?_append_right (by omega), e]
  rw [g x h1] at hu
  rw [g y (by omega)] at hv
  exact h x y u v h1 h2 h3 h4 hu hv
theorem rb_later {k lo lo' hi : Nat} {l : List α} (h : RB lt k lo hi l) (e : lo ≤ lo') : RB lt k lo' hi l := fun x y u v h1 => h x y u v (by omega)
theorem rb_step {k q : Nat} (hk : 0 < k) {p A M s : List α} (h : RB lt k 0 p.length (p ++ (A ++ s))) (e : M.length = A.length) (hm : Ris lt M) (hq : p.length = k * q) : RB lt k 0 (p.length + A.length) (p ++ (M ++ s)) := by
  intro x y u v h1 h2 h3 h4 hu hv
  by_cases c : y < p.length
  · rw [List.getElem?_append_left (by omega)] at hu hv
    exact h x y u v h1 h2 c h4 (by rw [List.getElem?_append_left (by omega)]; exact hu) (by rw [List.getElem?_append_left c]; exact hv)
  · by_cases c2 : x < p.length
    · exfalso
      have a1 : x / k < q := (Nat.div_lt_iff_lt_mul hk).2 (by rw [Nat.mul_comm]; omega)
      have a2 : q ≤ y / k := (Nat.le_div_iff_mul_le hk).2 (by rw [Nat.mul_comm]; omega)
      omega
    · rw [List.getElem?_append_right (by omega), List.getElem?_append_left (by omega)] at hu hv
      obtain ⟨hx, rfl⟩ := List.getElem?_eq_some_iff.1 hu
      obtain ⟨hy, rfl⟩ := List.getElem?_eq_some_iff.1 hv
      exact List.pairwise_iff_getElem.1 hm _ _ _ _ (by omega)
theorem rb_ris {k q lo hi : Nat} (hk : 0 < k) {p A s : List α} (h : RB lt k lo hi (p ++ (A ++ s))) (h1 : lo ≤ p.length) (h2 : p.length + A.length ≤ hi) (h3 : A.length ≤ k) (hq : p.length = k * q) : Ris lt A := by
  refine List.pairwise_iff_getElem.2 fun i j hi' hj hij => ?_
  refine h (p.length + i) (p.length + j) _ _ (by omega) (by omega) (by omega) ?_ ?_ ?_
  · rw [hq, Nat.mul_add_div hk, Nat.mul_add_div hk, Nat.div_eq_of_lt (by omega), Nat.div_eq_of_lt (by omega)]
  · rw [List.getElem?_append_right (by omega), List.getElem?_append_left (by omega), Nat.add_sub_cancel_left, List.getElem?_eq_getElem]
  · rw [List.getElem?_append_right (by omega), List.getElem?_append_left (by omega), Nat.add_sub_cancel_left, List.getElem?_eq_getElem]
theorem rb_all {k : Nat} {l : List α} (h : RB lt k 0 l.length l) (h2 : l.length ≤ k) : Ris lt l := by
  refine List.pairwise_iff_getElem.2 fun i j hi hj hij => ?_
  exact h i j _ _ (Nat.zero_le _) hij hj (by rw [Nat.div_eq_of_lt (by omega), Nat.div_eq_of_lt (by omega)]) (List.getElem?_eq_getElem hi) (List.getElem?_eq_getElem hj)
/-- Cut in three. -/
theorem cut3 (l : List α) (a b : Nat) (h : a ≤ b) (hb : b ≤ l.length) : ∃ p A s, l = p ++ (A ++ s) ∧ p.length = a ∧ A.length = b - a := by
  refine ⟨l.take a, (l.drop a).take (b - a), (l.drop a).drop (b - a), ?_, ?_, ?_⟩
  · rw [List.take_append_drop, List.take_append_drop]
  · rw [List.length_take]; omega
  · rw [List.length_take, List.length_drop]; omega
theorem cut4 (l : List α) (a m b : Nat) (h : a ≤ m) (hm : m ≤ b) (hb : b ≤ l.length) : ∃ p A B s, l = p ++ (A ++ (B ++ s)) ∧ p.length = a ∧ A.length = m - a ∧ B.length = b - m := by
  obtain ⟨p, A, t, rfl, h1, h2⟩ := cut3 l a m h (by omega)
  rw [List.length_append, List.length_append] at hb
  refine ⟨p, A, t.take (b - m), t.drop (b - m), ?_, h1, h2, ?_⟩
  · rw [List.take_append_drop]
  · rw [List.length_take]; omega
theorem St.mid {p A M s : List α} (h : St lt A M) : St lt (p ++ (A ++ s)) (p ++ (M ++ s)) := St.app (St.refl p) (St.app h (St.refl s))
theorem St.len {l l' : List α} (h : St lt l l') : l'.length = l.length := h.1.length_eq
end Go.Proofs.YtbnfeicpjmfooaaGreatDoor.Stb
/-
A stable sort, over any program: stable_func at any length.
-/
set_option linter.unusedSimpArgs false
set_option linter.unusedVariables false
namespace Go.Proofs.YtbnfeicpjmfooaaGreatDoor.Stb
open Go.Shelf Go.RowKit Go.Lib Go.Sort Go.Proofs
variable {P : Program} {ρ : Ren} {α : Type} [Inhabited α]
theorem sym_any (L : LaysGt.n30 P ρ) (enc : α → Value) (lt : α → α → Bool) (hwk : Wk lt) (g : Nat) (lb : Array Value) (sf : Nat) (sb : Array Value) (blk off n : Nat) (eg : ∀ args w, (callFunc g args).run P w = .ok (.enter g args) w) (hswap : SwapSwaps P sf sb enc blk off n) (hsz : n < 4611686018427387904) :
    ∀ (N : Nat) (d : Array α) (w : World) (p A B s : List α), A.length + B.length < N → A ≠ [] → B ≠ [] → d.toList = p ++ (A ++ (B ++ s)) → Ris lt A → Ris lt B → LessB P g lb enc lt blk off d w → Holds enc w blk off d → blk < w.heap.size → d.size = n → SymIs P ρ enc lt g lb sf sb blk off d w p A B s
  | 0, _, _, _, _, _, _, h, _, _, _, _, _, _, _, _, _ => absurd h (Nat.not_lt_zero _)
  | N + 1, d, w, p, A, B, s, hN, nA, nB, hd, hA, hB, hless, hH, hblk, hn => by
    by_cases a1 : A.length = 1
    · obtain ⟨x, rfl⟩ := List.length_eq_one_iff.1 a1
      intro x1 x2 x3 hx hy hz
      exact sym_one L enc lt hwk g lb sf sb blk off d w eg hless (hn ▸ hswap) hH hblk (hn ▸ hsz) (p := p) (B := B) (s := s) (x := x) (by rw [hd]; simp) hB hx (by simpa using hy) (by simpa using hz)
    by_cases b1 : B.length = 1
    · obtain ⟨x, rfl⟩ := List.length_eq_one_iff.1 b1
      intro x1 x2 x3 hx hy hz
      exact sym_last L enc lt hwk g lb sf sb blk off d w eg hless (hn ▸ hswap) hH hblk (hn ▸ hsz) (p := p) (A := A) (s := s) (y := x) (by rw [hd]; simp) hA (by have := List.length_pos_iff.2 nA; omega) hx hy (by simpa using hz)
    have a0 := List.length_pos_iff.2 nA
    have b0 := List.length_pos_iff.2 nB
    refine sym_gen L enc lt hwk g lb sf sb blk off d w eg hless (hn ▸ hswap) hH hblk (hn ▸ hsz) hd hA hB (by omega) (by omega) fun d' w' p' A' B' s' hl nA' nB' hd' hA' hB' hS => ?_
    exact sym_any L enc lt hwk g lb sf sb blk off n eg hswap hsz N d' w' p' A' B' s' (by omega) nA' nB' hd' hA' hB' (hless.next hS) hS.2.1 (Nat.lt_of_lt_of_le hblk hS.1.size) (hS.size.trans hn)
set_option maxHeartbeats 4000000 in
set_option maxRecDepth 100000 in
theorem stable_any (L : LaysGt.n15 P ρ) (enc : α → Value) (lt : α → α → Bool) (hwk : Wk lt) (g : Nat) (lb : Array Value) (sf : Nat) (sb : Array Value) (blk off : Nat) (d : Array α) (w : World)
    (eg : ∀ args w, (callFunc g args).run P w = .ok (.enter g args) w) (hless : LessB P g lb enc lt blk off d w) (hswap : SwapSwaps P sf sb enc blk off d.size) (hH : Holds enc w blk off d) (hblk : blk < w.heap.size) (hsz : d.size < 1152921504606846976) :
    Calls P (ρ.f 15) #[.agg #[.func (.func g) #[] lb, .func (.func sf) #[] sb], .int .i64 d.size] w fun e w' => e = .returned (.tuple #[]) ∧ ∃ d' : Array α, Ris lt d'.toList ∧ St lt d.toList d'.toList ∧ Srt enc w blk off d d' w' := by
  have mixed := L.mixed; have t0 := L.t0; have a0 := L.a0; have z0 := L.z0; have v0 := L.v0; have t3 := L.t3; have a3 := L.a3; have z3 := L.z3; have v3 := L.v3; have t4 := L.t4; have a4 := L.a4; have z4 := L.z4; have v4 := L.v4; have t26 := L.t26; have a26 := L.a26; have z26 := L.z26; have v26 := L.v26; have t38 := L.t38; have a38 := L.a38; have z38 := L.z38; have v38 := L.v38; have t42 := L.t42; have a42 := L.a42; have z42 := L.z42; have v42 := L.v42; have t47 := L.t47; have a47 := L.a47; have z47 := L.z47; have v47 := L.v47
  have u42 := run_underlying L.t42
  have e29 : ∀ args w, (callFunc (ρ.f 29) args).run P w = .ok (.enter (ρ.f 29) args) w := enters_of L.f29 (by kernel_rfl) rfl
  have e30 : ∀ args w, (callFunc (ρ.f 30) args).run P w = .ok (.enter (ρ.f 30) args) w := enters_of L.f30 (by kernel_rfl) rfl
  have HL29 : Hid (LaysGt.n29 P ρ) := Lib.hid { L with }
  have HL30 : Hid (LaysGt.n30 P ρ) := Lib.hid { L with }
  have h0 := (Srt.start hH).alloc hblk (.cells #[.func (.func g) #[] lb, .func (.func sf) #[] sb] (ρ.t 42))
  have H0 := Lib.hid h0
  obtain ⟨n, hn⟩ : ∃ n, n = d.size := ⟨_, rfl⟩
  have HI : Hid (∀ (dk : Array α) (wr : World) (a b q : Nat), Srt enc w blk off d dk wr → a ≤ b → b ≤ n → a = 20 * q → RB lt 20 0 a dk.toList → St lt d.toList dk.toList → ∀ x y : Int, x = a → y = b →
      Calls P (ρ.f 29) #[.agg #[.func (.func g) #[] lb, .func (.func sf) #[] sb], .int .i64 x, .int .i64 y] wr fun e w' => e = .returned (.tuple #[]) ∧ ∃ d' : Array α, RB lt 20 0 b d'.toList ∧ St lt d.toList d'.toList ∧ Srt enc w blk off d d' w' ∧ (∀ (k : Nat) (v : Value), wr.cell? ⟨w.heap.size, k, none⟩ = some v → w'.cell? ⟨w.heap.size, k, none⟩ = some v)) := Lib.hid (fun dk wr a b q hS hab hbn hq hR hst x y hx hy => by
    obtain ⟨p, A, s, hd, hp, hA⟩ := cut3 dk.toList a b hab (by rw [Array.length_toList, hS.size, ← hn]; exact hbn)
    refine (insSort_any HL29.out enc lt hwk g lb sf sb blk off dk wr eg (hless.next hS) (by rw [hS.size]; exact hswap) hS.2.1 (Nat.lt_of_lt_of_le hblk hS.1.size) (by rw [hS.size]; omega) hd (by rw [hp]; exact hx) (by rw [hp, hA, show a + (b - a) = b by omega]; exact hy)).mono ?_
    rintro e w' ⟨rfl, d', M, hd', hr, hs, hS'⟩
    refine ⟨rfl, d', ?_, ?_, hS.trans hS', fun k v hv => hS'.1.cell hv (by simp; omega)⟩
    · have h := rb_step (k := 20) (q := q) (by omega) (p := p) (A := A) (M := M) (s := s) (by rw [← hd, hp]; exact hR) hs.len hr (by omega)
      rw [hd']
      rwa [hp, hA, show a + (b - a) = b by omega] at h
    · rw [hd']
      refine hst.trans ?_
      rw [hd]
      exact hs.mid)
  have HM : Hid (∀ (dk : Array α) (wr : World) (k a m b q : Nat), Srt enc w blk off d dk wr → 0 < k → a = 2 * k * q → m = a + k → m < b → b ≤ n → b ≤ a + 2 * k → RB lt (2 * k) 0 a dk.toList → RB lt k a n dk.toList → St lt d.toList dk.toList → ∀ x y z : Int, x = a → y = m → z = b →
      Calls P (ρ.f 30) #[.agg #[.func (.func g) #[] lb, .func (.func sf) #[] sb], .int .i64 x, .int .i64 y, .int .i64 z] wr fun e w' => e = .returned (.tuple #[]) ∧ ∃ d' : Array α, RB lt (2 * k) 0 b d'.toList ∧ RB lt k b n d'.toList ∧ St lt d.toList d'.toList ∧ Srt enc w blk off d d' w' ∧ (∀ (k : Nat) (v : Value), wr.cell? ⟨w.heap.size, k, none⟩ = some v → w'.cell? ⟨w.heap.size, k, none⟩ = some v)) := Lib.hid (fun dk wr k a m b q hS hk ha hm hmb hbn hbk hR1 hR2 hst x y z hx hy hz => by
    obtain ⟨p, A, B, s, hd, hp, hA, hB⟩ := cut4 dk.toList a m b (by omega) (by omega) (by rw [Array.length_toList, hS.size, ← hn]; exact hbn)
    have hd2 : dk.toList = p ++ ((A ++ B) ++ s) := by rw [hd]; simp
    have hd3 : dk.toList = (p ++ A) ++ (B ++ s) := by rw [hd]; simp
    have hrA : Ris lt A := rb_ris (k := k) (q := 2 * q) hk (by rw [← hd]; exact hR2) (by omega) (by omega) (by omega) (by rw [hp, ha, Nat.mul_comm 2 k, Nat.mul_assoc])
    have hrB : Ris lt B := rb_ris (k := k) (q := 2 * q + 1) hk (by rw [← hd3]; exact hR2) (by rw [List.length_append]; omega) (by rw [List.length_append]; omega) (by omega) (by rw [List.length_append, hp, hA, Nat.mul_add, ← Nat.mul_assoc, Nat.mul_comm k 2, ← ha]; omega)
    refine (sym_any HL30.out enc lt hwk g lb sf sb blk off n eg (hn ▸ hswap) (by omega) _ dk wr p A B s (Nat.lt_succ_self _) (by intro e; rw [e] at hA; simp at hA; omega) (by intro e; rw [e] at hB; simp at hB; omega) hd hrA hrB (hless.next hS) hS.2.1 (Nat.lt_of_lt_of_le hblk hS.1.size) (hS.size.trans hn.symm) x y z (by rw [hp]; exact hx) (by rw [hp, hA, show a + (m - a) = m by omega]; exact hy) (by rw [hp, hA, hB, show a + (m - a) + (b - m) = b by omega]; exact hz)).mono ?_
    rintro e w' ⟨rfl, d', M, hd', hr, hs, hS'⟩
    have hl : (A ++ B).length = b - a := by rw [List.length_append]; omega
    refine ⟨rfl, d', ?_, ?_, ?_, hS.trans hS', fun k v hv => hS'.1.cell hv (by simp; omega)⟩
    · have h := rb_step (k := 2 * k) (q := q) (by omega) (p := p) (A := A ++ B) (M := M) (s := s) (by rw [← hd2, hp]; exact hR1) hs.len hr (by rw [hp]; exact ha)
      rw [hd']
      rwa [hp, hl, show a + (b - a) = b by omega] at h
    · have h := rb_keep (k := k) (hi := n) (p := p) (A := A ++ B) (M := M) (s := s) (by rw [← hd2]; exact rb_later hR2 (by omega)) hs.len
      rw [hd']
      rwa [hp, hl, show a + (b - a) = b by omega] at h
    · rw [hd']
      refine hst.trans ?_
      rw [hd2]
      exact hs.mid)
  have HR : Hid (∀ (dk : Array α) (wr : World) (k a q : Nat), Srt enc w blk off d dk wr → 0 < k → a = 2 * k * q → a ≤ n → n ≤ a + k → RB lt (2 * k) 0 a dk.toList → RB lt k a n dk.toList → RB lt (2 * k) 0 n dk.toList) := Lib.hid (fun dk wr k a q hS hk ha han hak hR1 hR2 => by
    obtain ⟨p, A, s, hd, hp, hA⟩ := cut3 dk.toList a n han (by rw [Array.length_toList, hS.size, ← hn]; exact Nat.le_refl _)
    have hrA : Ris lt A := rb_ris (k := k) (q := 2 * q) hk (by rw [← hd]; exact hR2) (by omega) (by omega) (by omega) (by rw [hp, ha, Nat.mul_comm 2 k, Nat.mul_assoc])
    have h := rb_step (k := 2 * k) (q := q) (by omega) (p := p) (A := A) (M := A) (s := s) (by rw [← hd, hp]; exact hR1) rfl hrA (by rw [hp]; exact ha)
    rw [← hd] at h
    rwa [hp, hA, show a + (n - a) = n by omega] at h)
  have HSZ : Hid (∀ (dk : Array α) (wr : World), Srt enc w blk off d dk wr → dk.toList.length = n) := Lib.hid (fun dk wr hS => by rw [Array.length_toList, hS.size, hn])
  have hnz : n < 1152921504606846976 := by rw [hn]; exact hsz
  rw [← hn]
  clear h0 hH hless hswap hn hsz
  go_enter L.f15, BodyGt.n15_ntmps ρ
  go_wp2
  go_loopw [5, 6] (fun va vb wr => ∃ (a q : Nat) (dk : Array α), va = .int .i64 a ∧ vb = .int .i64 (a + 20 : Nat) ∧ a = 20 * q ∧ a ≤ n ∧ RB lt 20 0 a dk.toList ∧ St lt d.toList dk.toList ∧ Srt enc w blk off d dk wr ∧ wr.cell? ⟨w.heap.size, 0, none⟩ = some (.func (.func g) #[] lb) ∧ wr.cell? ⟨w.heap.size, 1, none⟩ = some (.func (.func sf) #[] sb)) (fun va vb _ => n - (intOf va).toNat)
  case atStart => exact ⟨0, 0, d, rfl, rfl, rfl, Nat.zero_le _, rb_none _ _ _, St.refl _, H0.out, by simp, by simp⟩
  case round =>
    obtain ⟨a, q, dk, rfl, rfl, haq, han, hR, hst, hS, hc0, hc1⟩ := hrel
    have HS := Lib.hid (And.intro haq (And.intro hR (And.intro hst hS)))
    clear hR hst hS haq
    by_cases hlt : a + 20 ≤ n
    · go_wp2_with (go_at_fn (ρ.f 29); refine (HI.out dk wr a (a + 20) q HS.out.2.2.2 (by omega) hlt HS.out.1 HS.out.2.1 HS.out.2.2.1 _ _ (by omega) (by omega)).mono ?_; rintro e w1 ⟨rfl, d1, hR1, hst1, hS1, hk1⟩)
      have hq := HS.out.1
      exact ⟨⟨a + 20, q + 1, d1, rfl, by congr 1, by omega, hlt, hR1, hst1, hS1, hk1 _ _ hc0, hk1 _ _ hc1⟩, by simp [intOf]; omega⟩
    · go_wp2_with (go_at_fn (ρ.f 29); refine (HI.out dk wr a n q HS.out.2.2.2 han (Nat.le_refl _) HS.out.1 HS.out.2.1 HS.out.2.2.1 _ _ (by omega) (by omega)).mono ?_; rintro e w1 ⟨rfl, d1, hR1, hst1, hS1, hk1⟩)
      have hd0 := hk1 _ _ hc0
      have hd1 := hk1 _ _ hc1
      have H1 := Lib.hid (And.intro hR1 (And.intro hst1 hS1))
      clear hc0 hc1 hk1 hR1 hst1 hS1 HS HI
      clear hlt han
      go_loopw [4, 5, 6] (fun vk va vb wr => ∃ (k : Nat) (dk : Array α) (va0 vb0 : Int), va = .int .i64 va0 ∧ vb = .int .i64 vb0 ∧ vk = .int .i64 k ∧ 20 ≤ k ∧ RB lt k 0 n dk.toList ∧ St lt d.toList dk.toList ∧ Srt enc w blk off d dk wr ∧ wr.cell? ⟨w.heap.size, 0, none⟩ = some (.func (.func g) #[] lb) ∧ wr.cell? ⟨w.heap.size, 1, none⟩ = some (.func (.func sf) #[] sb)) (fun vk va vb _ => n - (intOf vk).toNat)
      case atStart => exact ⟨20, d1, _, _, rfl, rfl, rfl, Nat.le_refl _, H1.out.1, H1.out.2.1, H1.out.2.2, hd0, hd1⟩
      case round =>
        clear hd0 hd1 H1
        obtain ⟨k, dk, va0, vb0, rfl, rfl, rfl, hk20, hR, hst, hS, hc0, hc1⟩ := hrel
        have HS := Lib.hid (And.intro hR (And.intro hst hS))
        clear hR hst hS
        by_cases hkn : k < n
        · go_wp2
          go_loopw [5, 6] (fun va vb wr => ∃ (a q : Nat) (dk : Array α), va = .int .i64 a ∧ vb = .int .i64 (a + 2 * k : Nat) ∧ a = 2 * k * q ∧ a ≤ n ∧ RB lt (2 * k) 0 a dk.toList ∧ RB lt k a n dk.toList ∧ St lt d.toList dk.toList ∧ Srt enc w blk off d dk wr ∧ wr.cell? ⟨w.heap.size, 0, none⟩ = some (.func (.func g) #[] lb) ∧ wr.cell? ⟨w.heap.size, 1, none⟩ = some (.func (.func sf) #[] sb)) (fun va vb _ => n - (intOf va).toNat)
          case atStart => exact ⟨0, 0, dk, rfl, by first | rfl | (congr 1; omega) | simp, rfl, Nat.zero_le _, rb_none _ _ _, HS.out.1, HS.out.2.1, HS.out.2.2, hc0, hc1⟩
          case round =>
            clear hc0 hc1
            obtain ⟨a, q, dk2, rfl, rfl, haq, han, hR1, hR2, hst, hS, hc0, hc1⟩ := hrel
            have HS2 := Lib.hid (And.intro haq (And.intro hR1 (And.intro hR2 (And.intro hst hS))))
            clear hR1 hR2 hst hS haq
            by_cases hlt : a + 2 * k ≤ n
            · go_wp2_with (go_at_fn (ρ.f 30); refine (HM.out dk2 wr k a (a + k) (a + 2 * k) q HS2.out.2.2.2.2 (by omega) HS2.out.1 rfl (by omega) hlt (Nat.le_refl _) HS2.out.2.1 HS2.out.2.2.1 HS2.out.2.2.2.1 _ _ _ (by omega) (by omega) (by omega)).mono ?_; rintro e w1 ⟨rfl, d1, hR1, hR2, hst1, hS1, hk1⟩)
              have hq := HS2.out.1
              exact ⟨⟨a + 2 * k, q + 1, d1, rfl, by congr 1, by rw [Nat.mul_add, ← hq]; omega, hlt, hR1, hR2, hst1, hS1, hk1 _ _ hc0, hk1 _ _ hc1⟩, by simp [intOf]; omega⟩
            · by_cases hm : a + k < n
              · go_wp2_with (go_at_fn (ρ.f 30); refine (HM.out dk2 wr k a (a + k) n q HS2.out.2.2.2.2 (by omega) HS2.out.1 rfl hm (Nat.le_refl _) (by omega) HS2.out.2.1 HS2.out.2.2.1 HS2.out.2.2.2.1 _ _ _ (by omega) (by omega) (by omega)).mono ?_; rintro e w1 ⟨rfl, d1, hR1, hR2, hst1, hS1, hk1⟩)
                exact ⟨⟨2 * k, d1, _, _, rfl, rfl, by congr 1; omega, by omega, hR1, hst1, hS1, hk1 _ _ hc0, hk1 _ _ hc1⟩, by simp [intOf]; omega⟩
              · go_wp2
                have h := HR.out dk2 wr k a q HS2.out.2.2.2.2 (by omega) HS2.out.1 han (by omega) HS2.out.2.1 HS2.out.2.2.1
                exact ⟨⟨2 * k, dk2, _, _, rfl, rfl, by congr 1; omega, by omega, h, HS2.out.2.2.2.1, HS2.out.2.2.2.2, hc0, hc1⟩, by simp [intOf]; omega⟩
        · go_wp2
          go_end0
          have hl := HSZ.out dk wr HS.out.2.2
          exact ⟨rfl, dk, rb_all (k := k) (by rw [hl]; exact HS.out.1) (by omega), HS.out.2.1, HS.out.2.2⟩
end Go.Proofs.YtbnfeicpjmfooaaGreatDoor.Stb
/-
sort.SliceStable at any length, elements of one cell, a 'less' that may lay new blocks: over any program.
-/
set_option linter.unusedSimpArgs false
set_option linter.unusedVariables false
namespace Go.Proofs.YtbnfeicpjmfooaaGreatDoor.Stb
open Go.Shelf Go.RowKit Go.Lib Go.Sort Go.Proofs
variable {P : Program} {ρ : Ren} {α : Type} [Inhabited α]
theorem below_gr (w : World) (os : Array Obj) : Below w.heap.size w (grow w os) :=
  ⟨rfl, rfl, rfl, by show w.heap.size ≤ (w.heap ++ os).size; rw [Array.size_append]; omega, fun _ hj => Sort.heap_grow_old w os hj⟩
theorem ris_tiny {β : Type} {lt : β → β → Bool} {l : List β} (h : l.length ≤ 1) : Ris lt l := by
  match l, h with
  | [], _ => exact List.Pairwise.nil
  | [x], _ => simp [Ris]
  | x :: y :: l, h => simp only [List.length_cons] at h; omega
theorem sliceStable_any (L : LaysGt.n8 P ρ) (t e : TypeId) (i ie : TypeInfo) (hi : P.info? t = some i) (hd : i.desc = .slice e) (hpk : P.packed t = false) (hie : P.info? e = some ie) (ke : Nat) (hke : ∀ w, (Extern.Rtype.kind e).run P w = .ok ke w)
    (hs1 : ie.size = 1) (hagg : ∀ w, (isAgg e).run P w = .ok false w) (enc : α → Value) (h1 : ∀ x, (enc x).oneCell' = true) (lt : α → α → Bool) (hwk : Wk lt) (g : Nat) (lb : Array Value)
    (eg : ∀ args w, (callFunc g args).run P w = .ok (.enter g args) w) (blk off c : Nat) (d : Array α) (hsz : d.size < 1152921504606846976)
    (hf : ∀ n, ∃ f, P.funcs.findIdx? (·.name == "internal/reflectlite" ++ ".Swapper$" ++ toString (swapperK n ie ke)) = some f ∧ (2 ≤ n → ∃ gS : Bool, ∀ args W, (callFunc f args).run P W = ((Extern.ReflectliteSwapper.swap gS args).run P W).andThen fun v w' => .ok (.value v) w'))
    (w : World) (hless : LessB P g lb enc lt blk off d w) (hH : Holds enc w blk off d) (hblk : blk < w.heap.size) :
    Calls P (ρ.f 8) #[.iface t (.slice (some ⟨blk, off, none⟩) d.size c), .func (.func g) #[] lb] w fun e w' =>
      e = .returned (.tuple #[]) ∧ ∃ d' : Array α, Ris lt d'.toList ∧ St lt d.toList d'.toList ∧ Srt enc w blk off d d' w' := by
  obtain ⟨f, hf1, hf2⟩ := hf d.size
  by_cases h2 : d.size ≤ 1
  · refine (Any.sort_SliceStable_tiny L t e i ie hi hd hpk hie ke hke _ d.size c h2 f hf1 (.func g) #[] lb w).mono ?_
    rintro e w' ⟨rfl, os, rfl⟩
    refine ⟨rfl, d, ris_tiny (by rw [Array.length_toList]; exact h2), St.refl _, (Srt.start hH).below hblk ?_⟩
    exact below_gr w os
  obtain ⟨gS, hx⟩ := hf2 (by omega)
  refine Any.sort_SliceStable_of_stable L t e i ie hi hd hpk hie ke hke _ d.size c (by omega) f hf1 (.func g) #[] lb w _ ?_
  have hB : sliceBound P e ie ke (some ⟨blk, off, none⟩) d.size c = #[.slice (some ⟨blk, off, none⟩) d.size c, typeHandle P e] := by
    unfold sliceBound; rw [if_neg (swapperK_gt _ _ _ (by omega))]
  have hS : Srt enc w blk off d d (stableWorld P ρ t (some ⟨blk, off, none⟩) d.size c w) := by
    unfold stableWorld
    exact ((Srt.start hH).alloc hblk _).alloc hblk _
  generalize stableWorld P ρ t (some ⟨blk, off, none⟩) d.size c w = W at hS
  rw [hB]
  refine (stable_any (P := P) (ρ := ρ) { L with } enc lt hwk g lb f _ blk off d W eg (hless.next hS)
    (swapSwaps_of_literal gS f hx e ie hie hs1 hagg enc h1 blk off d.size c) hS.2.1 (Nat.lt_of_lt_of_le hblk hS.1.size) hsz).mono ?_
  rintro e w' ⟨rfl, d', hr, hs, hS'⟩
  exact ⟨rfl, d', hr, hs, hS.trans hS'⟩
end Go.Proofs.YtbnfeicpjmfooaaGreatDoor.Stb
