/-
Parts of the proof, one behind the other: TxtA, SStr, SliB.
-/
import Derived.Lib.RuneCountTail
import Derived.Laws.IdiomStrings
import Derived.Test.YtcoahpcjhhnkkaaGreatDoorMK
import Derived.Laws.RangeAny
import Derived.LoopTactic
/-
Plain: where the runes of a text begin, and cuts of a text at such places.
-/
set_option linter.unusedSimpArgs false
set_option linter.unusedVariables false
namespace Go.Proofs.YtcoahpcjhhnkkaaGreatDoor.TxtA
open Go Go.Lib
/-- n runes lead from p to q. -/
inductive Rn (s : ByteArray) : Nat → Nat → Nat → Prop
  | nil (p : Nat) : Rn s p p 0
  | cons (p q n : Nat) (hp : p < s.size) (h : Rn s (p + (Utf8.decode s p).2) q n) : Rn s p q (n + 1)
theorem Rn.le {s : ByteArray} {p q n : Nat} (h : Rn s p q n) : p + n ≤ q := by
  induction h with
  | nil p => omega
  | cons p q n hp h ih => have := decode_width_pos s p hp; omega
theorem Rn.trans {s : ByteArray} {p q r n m : Nat} (h : Rn s p q n) (h2 : Rn s q r m) : Rn s p r (n + m) := by
  induction h with
  | nil p => rw [Nat.zero_add]; exact h2
  | cons p q n hp h ih => rw [Nat.add_right_comm]; exact .cons p r _ hp (ih h2)
theorem Rn.snoc {s : ByteArray} {p q n : Nat} (h : Rn s p q n) (hq : q < s.size) : Rn s p (q + (Utf8.decode s q).2) (n + 1) := h.trans (.cons q _ 0 hq (.nil _))
theorem Rn.same {s : ByteArray} {p q r n : Nat} (h : Rn s p q n) (h2 : Rn s p r n) : q = r := by
  induction h generalizing r with
  | nil p => cases h2; rfl
  | cons p q n hp h ih => cases h2 with | cons _ _ _ _ h2 => exact ih h2
theorem Rn.rest {s : ByteArray} {p q r n m : Nat} (h : Rn s p q n) (h2 : Rn s p r (n + m)) : Rn s q r m := by
  induction h generalizing r with
  | nil p => rwa [Nat.zero_add] at h2
  | cons p q n hp h ih =>
    rw [Nat.add_right_comm] at h2
    cases h2 with | cons _ _ _ _ h2 => exact ih h2
theorem Rn.split {s : ByteArray} {p r : Nat} : ∀ {n m : Nat}, Rn s p r (n + m) → ∃ q, Rn s p q n ∧ Rn s q r m
  | 0, m, h => ⟨p, .nil p, by rwa [Nat.zero_add] at h⟩
  | n + 1, m, h => by
    rw [Nat.add_right_comm] at h
    cases h with
    | cons _ _ _ hp h =>
      obtain ⟨q, h1, h2⟩ := Rn.split h
      exact ⟨q, .cons p q n hp h1, h2⟩
theorem width_le {s : ByteArray} {p : Nat} (hp : p < s.size) : p + (Utf8.decode s p).2 ≤ s.size := by
  rw [decode_at]
  unfold decodeN
  repeat' split
  all_goals (simp only; omega)
/-- All of a text. -/
theorem rn_all (s : ByteArray) : ∀ (f p : Nat), s.size - p ≤ f → p ≤ s.size → Rn s p s.size (runeCountFrom s f p)
  | 0, p, h, hp => by
    obtain rfl : p = s.size := by omega
    exact .nil _
  | f + 1, p, h, hp => by
    unfold runeCountFrom
    by_cases c : p < s.size
    · rw [if_pos c, Nat.add_comm]
      have := decode_width_pos s p c
      exact .cons p _ _ c (rn_all s f _ (by omega) (width_le c))
    · rw [if_neg c]
      obtain rfl : p = s.size := by omega
      exact .nil _
theorem rn_count_at {s : ByteArray} {p q n : Nat} (h : Rn s p q n) (e : q = s.size) : ∀ f, s.size - p ≤ f → runeCountFrom s f p = n := by
  induction h with
  | nil p => intro f _; exact runeCountFrom_end s f p (by omega)
  | cons p q n hp h ih =>
    intro f hf
    have := decode_width_pos s p hp
    obtain ⟨g, rfl⟩ : ∃ g, f = g + 1 := ⟨f - 1, by omega⟩
    unfold runeCountFrom
    rw [if_pos hp, ih e g (by omega), Nat.add_comm]
theorem rn_count {s : ByteArray} {p n : Nat} (h : Rn s p s.size n) (f : Nat) (hf : s.size - p ≤ f) : runeCountFrom s f p = n := rn_count_at h rfl f hf
/-- Where the rune that is k behind place p begins; the end, if there are no more. -/
def off (s : ByteArray) : Nat → Nat → Nat
  | 0, p => p
  | k + 1, p => if p < s.size then off s k (p + (Utf8.decode s p).2) else p
theorem off_rn {s : ByteArray} {p q k : Nat} (h : Rn s p q k) : off s k p = q := by
  induction h with
  | nil p => rfl
  | cons p q n hp h ih => rw [off, if_pos hp, ih]
theorem off_end {s : ByteArray} : ∀ (k p n : Nat), Rn s p s.size n → n ≤ k → off s k p = s.size
  | 0, p, n, h, hk => by
    obtain rfl : n = 0 := by omega
    cases h
    rfl
  | k + 1, p, n, h, hk => by
    cases h with
    | nil => rw [off, if_neg (by omega)]
    | cons _ _ m hp h => rw [off, if_pos hp]; exact off_end k _ m h (by omega)
theorem off_step {s : ByteArray} : ∀ (k p : Nat), off s k p < s.size → off s (k + 1) p = off s k p + (Utf8.decode s (off s k p)).2
  | 0, p, h => by
    have hp : p < s.size := h
    simp [off, hp]
  | k + 1, p, h => by
    rw [off] at h ⊢
    by_cases c : p < s.size
    · rw [if_pos c] at h ⊢
      have e : off s (k + 1) p = off s k (p + (Utf8.decode s p).2) := by rw [off, if_pos c]
      rw [e]
      exact off_step k _ h
    · rw [if_neg c] at h
      exact absurd h c
theorem decodeN_one {n b0 b1 b2 b3 : Nat} (A : ¬ b0 < 128) (hw : (decodeN n b0 b1 b2 b3).2 ≤ 1) : decodeN n b0 b1 b2 b3 = (65533, 1) := by
  revert hw
  unfold decodeN
  rw [if_neg A]
  repeat' split
  all_goals intro hw
  all_goals first | rfl | exact absurd (show 2 ≤ 1 from hw) (by decide) | exact absurd (show 3 ≤ 1 from hw) (by decide) | exact absurd (show 4 ≤ 1 from hw) (by decide)
theorem decodeN_cut {n m b0 b1 b2 b3 c1 c2 c3 : Nat} (hm : m ≤ n) (hw : (decodeN n b0 b1 b2 b3).2 ≤ m) (h1 : 1 < m → c1 = b1) (h2 : 2 < m → c2 = b2) (h3 : 3 < m → c3 = b3) : decodeN m b0 c1 c2 c3 = decodeN n b0 b1 b2 b3 := by
  by_cases A : b0 < 128
  · unfold decodeN
    rw [if_pos A, if_pos A]
  by_cases e4 : 3 < m
  · have n1 : 1 < n := by omega
    have n2 : 2 < n := by omega
    have n3 : 3 < n := by omega
    have m1 : 1 < m := by omega
    have m2 : 2 < m := by omega
    rw [h1 m1, h2 m2, h3 e4]
    unfold decodeN
    simp only [m1, m2, e4, n1, n2, n3, true_and]
  · by_cases e3 : 2 < m
    · have n1 : 1 < n := by omega
      have n2 : 2 < n := by omega
      have m1 : 1 < m := by omega
      obtain rfl := h1 m1
      obtain rfl := h2 e3
      clear h1 h2 h3
      unfold decodeN at hw ⊢
      simp only [if_neg A, m1, e3, e4, n1, n2, true_and, false_and, and_false, if_false] at hw ⊢
      by_cases c : b0 / 32 = 6 ∧ c1 / 64 = 2
      · simp only [if_pos c]
      · simp only [if_neg c] at hw ⊢
        by_cases d : b0 / 16 = 14 ∧ c1 / 64 = 2 ∧ c2 / 64 = 2
        · simp only [if_pos d]
        · simp only [if_neg d] at hw ⊢
          revert hw
          repeat' split
          all_goals intro hw
          all_goals first | rfl | exact (e4 hw).elim
    · by_cases e2 : 1 < m
      · have n1 : 1 < n := by omega
        obtain rfl := h1 e2
        clear h1 h2 h3
        unfold decodeN at hw ⊢
        simp only [if_neg A, e2, e3, e4, n1, true_and, false_and, and_false, if_false] at hw ⊢
        by_cases c : b0 / 32 = 6 ∧ c1 / 64 = 2
        · simp only [if_pos c]
        · simp only [if_neg c] at hw ⊢
          revert hw
          repeat' split
          all_goals intro hw
          all_goals first | rfl | exact (e3 hw).elim | exact (e3 (Nat.le_of_succ_le hw)).elim
      · have hw1 : (decodeN n b0 b1 b2 b3).2 ≤ 1 := by omega
        rw [decodeN_one A hw1]
        unfold decodeN
        simp only [if_neg A, e2, e3, e4, false_and, and_false, if_false]
theorem cut_size (s : ByteArray) {p q : Nat} (h : q ≤ s.size) : (s.extract p q).size = q - p := by
  rw [size_eq, extract_data, List.length_take, List.length_drop, ← size_eq]
  omega
theorem cut_get! (s : ByteArray) {p q j : Nat} (h : p + j < q) : (s.extract p q).get! j = s.get! (p + j) := by
  rw [← getD_get!', ← getD_get!', extract_data]
  simp [List.getD, List.getElem?_drop, List.getElem?_take, show j < q - p by omega]
theorem decode_cut (s : ByteArray) {p q i : Nat} (hq : q ≤ s.size) (hi : p + i < q) (hw : p + i + (Utf8.decode s (p + i)).2 ≤ q) : Utf8.decode (s.extract p q) i = Utf8.decode s (p + i) := by
  rw [decode_at] at hw
  rw [decode_at, decode_at, cut_size s hq, cut_get! s hi]
  refine decodeN_cut (by omega) (by omega) (fun h => ?_) (fun h => ?_) (fun h => ?_)
  · rw [cut_get! s (by omega)]; rfl
  · rw [cut_get! s (by omega)]; rfl
  · rw [cut_get! s (by omega)]; rfl
/-- Runes of a cut. -/
theorem rn_cut {s : ByteArray} {p q i j n : Nat} (h : Rn s i j n) (hp : p ≤ i) (hj : j ≤ q) (hq : q ≤ s.size) : Rn (s.extract p q) (i - p) (j - p) n := by
  induction h with
  | nil i => exact .nil _
  | cons i j n hi h ih =>
    have hw := decode_width_pos s i hi
    have hl := h.le
    have e : Utf8.decode (s.extract p q) (i - p) = Utf8.decode s i := by
      have := decode_cut s (p := p) (q := q) (i := i - p) hq (by omega) (by rw [show p + (i - p) = i by omega]; omega)
      rwa [show p + (i - p) = i by omega] at this
    refine .cons _ _ _ (by rw [cut_size s hq]; omega) ?_
    rw [e]
    have := ih (by omega) hj
    rwa [show i + (Utf8.decode s i).2 - p = i - p + (Utf8.decode s i).2 by omega] at this
/-- A text from rune a to ahead of rune b. -/
def cut (s : ByteArray) (a b : Nat) : ByteArray := s.extract (off s a 0) (off s b 0)
theorem rn_off (s : ByteArray) {k : Nat} (hk : k ≤ runeCount s) : Rn s 0 (off s k 0) k ∧ Rn s (off s k 0) s.size (runeCount s - k) := by
  have h := rn_all s s.size 0 (by omega) (by omega)
  obtain ⟨q, h1, h2⟩ := Rn.split (n := k) (m := runeCount s - k) (by
    show Rn s 0 s.size _
    rw [show k + (runeCount s - k) = runeCount s by omega]
    exact h)
  rw [off_rn h1]
  exact ⟨h1, h2⟩
theorem off_top (s : ByteArray) {k : Nat} (hk : runeCount s ≤ k) : off s k 0 = s.size := off_end k 0 _ (rn_all s s.size 0 (by omega) (by omega)) hk
theorem off_le (s : ByteArray) (k : Nat) : off s k 0 ≤ s.size := by
  by_cases h : k ≤ runeCount s
  · have := (rn_off s h).2.le; omega
  · rw [off_top s (by omega)]; exact Nat.le_refl _
theorem off_mono (s : ByteArray) {a b : Nat} (h : a ≤ b) : off s a 0 ≤ off s b 0 := by
  by_cases hb : b ≤ runeCount s
  · have h1 := (rn_off s (show a ≤ runeCount s by omega)).1
    have h2 := (rn_off s hb).1
    have := (Rn.rest h1 (by rw [show a + (b - a) = b by omega]; exact h2)).le
    omega
  · rw [off_top s (show runeCount s ≤ b by omega)]
    exact off_le s a
theorem cut_count (s : ByteArray) {a b : Nat} (h : a ≤ b) (hb : b ≤ runeCount s) : runeCount (cut s a b) = b - a := by
  have h1 := (rn_off s (show a ≤ runeCount s by omega)).1
  have h2 := (rn_off s hb).1
  have h3 := Rn.rest h1 (by rw [show a + (b - a) = b by omega]; exact h2)
  have h4 := rn_cut h3 (Nat.le_refl _) (Nat.le_refl _) (off_le s b)
  rw [Nat.sub_self] at h4
  have e : (cut s a b).size = off s b 0 - off s a 0 := cut_size s (off_le s b)
  unfold runeCount
  refine rn_count (n := b - a) ?_ _ (by omega)
  rw [e]
  exact h4
theorem cut_off (s : ByteArray) {a b k : Nat} (h : a + k ≤ b) (hb : b ≤ runeCount s) : off (cut s a b) k 0 = off s (a + k) 0 - off s a 0 := by
  have h1 := (rn_off s (show a ≤ runeCount s by omega)).1
  have h2 := (rn_off s (show a + k ≤ runeCount s by omega)).1
  have h3 := Rn.rest h1 h2
  have h4 := rn_cut h3 (Nat.le_refl _) (off_mono s h) (off_le s b)
  rw [Nat.sub_self] at h4
  exact off_rn h4
/-- A cut of a cut. -/
theorem cut_cut (s : ByteArray) {a b c d : Nat} (hab : a ≤ b) (hb : b ≤ runeCount s) (hcd : c ≤ d) (hd : a + d ≤ b) : cut (cut s a b) c d = cut s (a + c) (a + d) := by
  have e1 := cut_off s (k := c) (show a + c ≤ b by omega) hb
  have e2 := cut_off s (k := d) hd hb
  have m1 := off_mono s (show a ≤ a + c by omega)
  have m2 := off_mono s (show a + c ≤ a + d by omega)
  have m3 := off_mono s hd
  unfold cut at *
  rw [e1, e2, ByteArray.extract_extract]
  congr 1 <;> omega
theorem cut_parts (s : ByteArray) (k : Nat) : cut s 0 k ++ cut s k (runeCount s) = s := by
  unfold cut
  rw [off_top s (Nat.le_refl _), show off s 0 0 = 0 from rfl, ByteArray.extract_append_extract]
  have := off_le s k
  rw [Nat.min_eq_left (by omega), Nat.max_eq_right (by omega)]
  exact ByteArray.extract_zero_size
theorem cut_all (s : ByteArray) : cut s 0 (runeCount s) = s := by
  unfold cut
  rw [off_top s (Nat.le_refl _)]
  exact ByteArray.extract_zero_size
theorem runes_size (s : ByteArray) : ∀ (f p : Nat) (acc : Array Value), (Conv.runesFrom s f p acc).size = acc.size + runeCountFrom s f p
  | 0, p, acc => by simp [Conv.runesFrom, runeCountFrom]
  | f + 1, p, acc => by
    unfold Conv.runesFrom runeCountFrom
    split
    · rw [runes_size s f]
      simp
      omega
    · simp
end Go.Proofs.YtcoahpcjhhnkkaaGreatDoor.TxtA
/-
gojq's slice at texts.
-/
set_option linter.unusedSimpArgs false
set_option linter.unusedVariables false
namespace Go.Proofs.YtcoahpcjhhnkkaaGreatDoor.NumA
open Go.RowKit Go.Lib Go.Proofs.YtcoahpcjhhnkkaaGreatDoor.ValA Go.Proofs.YtcoahpcjhhnkkaaGreatDoor.FloH Go.Proofs.YtcoahpcjhhnkkaaGreatDoorW.PrintWords Go.Proofs.YtcoahpcjhhnkkaaGreatDoorW.PrintLast Go.Proofs.YtcoahpcjhhnkkaaGreatDoorW.PrintMore Go.Proofs.YtcoahpcjhhnkkaaGreatDoor.PzzFits1 Go.Proofs.YtcoahpcjhhnkkaaGreatDoor.TxtA
theorem runes_run (s : ByteArray) (hs : s.size ≤ 2147483647) : ∃ (gc : World → Nat) (ob : World → Obj), ∀ w, (convert 9 108 (.string s)).run Tryz.prog w = .ok (.slice (some ⟨w.heap.size, 0, none⟩) (runeCount s) (gc w)) (w.drew.alloc (ob w)) := by
  have e : (Conv.runesFrom s s.size 0 #[]).size = runeCount s := by
    have := runes_size s s.size 0 #[]
    simpa [runeCount] using this
  have h46 := runeCount_le s
  have h : ∀ w : World, _ := fun w => run_runes_of_string (P := Tryz.prog) w 9 108 21 s Tryz.underlying9 Tryz.underlying108 Tryz.underlying21 (by rw [e]; omega)
  rw [e] at h
  exact ⟨_, _, h⟩
theorem rn_lt {s : ByteArray} {p k : Nat} (h : Rn s 0 p k) (hk : k < runeCount s) : p < s.size := by
  have h1 := (rn_off s (Nat.le_of_lt hk))
  have e := h.same h1.1
  have := h1.2.le
  omega
set_option maxHeartbeats 8000000 in
theorem sstr_ii (s : ByteArray) (hs : s.size ≤ 2147483647) (i : Int) (hi : -4611686018427387904 ≤ i ∧ i ≤ 4611686018427387904) (k : Int) (hk : -4611686018427387904 ≤ k ∧ k ≤ 4611686018427387904) (w : World) :
    Calls Tryz.prog 117 #[.string s, gE (some k), gE (some i)] w fun r w' => r = .returned (.iface 9 (.string (cut s (loI (some i) (runeCount s)) (hiI (some i) (some k) (runeCount s))))) ∧ Below w.heap.size w w' := by
  obtain ⟨gc, ob, hconv⟩ := runes_run s hs
  obtain ⟨C, hC⟩ : ∃ C, C = runeCount s := ⟨_, rfl⟩
  have hC2 := runeCount_le s
  rw [← hC] at hconv hC2 ⊢
  have HB0 : s.size ≤ 2147483647 ∧ runeCount s ≤ s.size ∧ C = runeCount s := ⟨hs, by omega, hC⟩
  obtain ⟨lo, hlo⟩ : ∃ lo : Nat, lo = loI (some i) C := ⟨_, rfl⟩
  obtain ⟨hi', hhi⟩ : ∃ hi' : Nat, hi' = hiI (some i) (some k) C := ⟨_, rfl⟩
  have d1 : (lo : Int) ≤ (hi' : Int) := by have := hi_in (some i) (some k) C; omega
  have d2 : (hi' : Int) ≤ (C : Int) := by have := hi_in (some i) (some k) C; omega
  have HT := Lib.hid (fun w => toInt_int i w)
  have c1 := @clamp_in i 0 C (by omega)
  have e1 : clampI i 0 C = (lo : Int) := by rw [hlo]; show clampI i 0 C = ((clampI i 0 C).toNat : Int); omega
  have HCL := Lib.hid (fun w => clamp_any i 0 C hi.1 hi.2 (by omega) (by omega) w)
  rw [e1] at HCL
  have HU := Lib.hid (fun w => toCeil_int k w)
  have c2 := @clamp_in k lo C (by omega)
  have e2 : clampI k lo C = (hi' : Int) := by rw [hhi]; show clampI k lo C = ((clampI k (loI (some i) C) C).toNat : Int); rw [← hlo]; omega
  have HD := Lib.hid (fun w => clamp_any k lo C hk.1 hk.2 (by omega) (by omega) w)
  rw [e2] at HD
  rw [← hlo, ← hhi]
  unfold cut
  obtain ⟨a, ha⟩ : ∃ a, a = off s lo 0 := ⟨_, rfl⟩
  obtain ⟨b, hb⟩ : ∃ b, b = off s hi' 0 := ⟨_, rfl⟩
  have d3 : (a : Int) ≤ (b : Int) := by have := off_mono s (a := lo) (b := hi') (by omega); omega
  have d4 : (b : Int) ≤ (s.size : Int) := by have := off_le s hi'; omega
  have HO := Lib.hid (And.intro ha.symm hb.symm)
  rw [← ha, ← hb]
  have HB := Lib.hid (show s.size ≤ 2147483647 ∧ runeCount s ≤ s.size ∧ C = runeCount s ∧ lo ≤ hi' ∧ hi' ≤ C from ⟨HB0.1, HB0.2.1, HB0.2.2, by omega, by omega⟩)
  clear ha hb hC hC2 hs HB0 c1 e1 hi c2 e2 hk
  unfold gE
  clear hlo
  clear hhi
  by_cases c1 : lo < C
  · have d5 : (lo : Int) < (C : Int) := by omega
    have HC := Lib.hid (show lo < runeCount s ∧ s.size ≤ 2147483647 ∧ runeCount s ≤ s.size from ⟨by have := HB.out; omega, HB.out.1, HB.out.2.1⟩)
    clear c1
    go_enter Tryz.func117, Tryz.ntmps117
    go_wp2_with fail
    obtain ⟨W0, hW0⟩ : ∃ W0, W0 = (w.alloc (ob w)).drew := ⟨_, rfl⟩
    have H0 := Lib.hid (show Below w.heap.size w W0 by rw [hW0]; exact ((Below.refl _ w).alloc (Nat.le_refl _) _).drew)
    rw [← hW0]
    clear hW0
    refine (HT.out _).mono ?_
    rintro e w1 ⟨rfl, hb⟩
    have H1 := Lib.hid (show Below w.heap.size w w1 from H0.out.trans (hb.mono H0.out.size))
    clear hb
    go_wp2_with fail
    refine (HCL.out _).mono ?_
    rintro e w2 ⟨rfl, hb⟩
    have H2 := Lib.hid (H1.out.trans (hb.mono H1.out.size))
    clear hb H1
    go_wp2_with fail
    refine (HU.out _).mono ?_
    rintro e w3 ⟨rfl, hb⟩
    have H3 := Lib.hid (H2.out.trans (hb.mono H2.out.size))
    clear hb H2
    go_wp2_with fail
    refine (HD.out _).mono ?_
    rintro e w4 ⟨rfl, hb⟩
    have H4 := Lib.hid (H3.out.trans (hb.mono H3.out.size))
    clear hb H3
    go_wp2_with fail
    obtain ⟨W3, hW3⟩ : ∃ W3, W3 = w4 := ⟨_, rfl⟩
    have H3 := Lib.hid (show Below w.heap.size w W3 by rw [hW3]; exact H4.out)
    rw [← hW3]
    clear hW3
    go_loopw [7] (fun n w' => ∃ (k pos : Nat) (t : Int), w' = W3.iter s pos ∧ n = .int .i64 t ∧ t + k = lo ∧ k ≤ lo ∧ Rn s 0 pos k) (fun _ w' => s.size - w'.iterPos W3.heap.size)
    case atStart => exact ⟨0, 0, lo, rfl, rfl, by omega, Nat.zero_le _, .nil _⟩
    case round =>
      obtain ⟨k, pos, t, rfl, rfl, ht, hk, hR⟩ := hrel
      have hp : pos < s.size := rn_lt hR (by have := HC.out; omega)
      have hnx : ∀ ty, (Instr.next (.pointer (some ⟨W3.heap.size, 0, none⟩)) true ty).run Tryz.prog (W3.iter s pos) = _ := fun ty => run_next_any W3 s pos ty hp
      obtain ⟨t', ht'⟩ : ∃ t', t' = t - 1 := ⟨_, rfl⟩
      have hw : wrap64 (t - 1) = t' := by have := HC.out; unfold wrap64; omega
      have HR := Lib.hid (And.intro hR (And.intro hp (And.intro ht ht')))
      by_cases c : k < lo
      · have d : decide (t' < 0) = false := decide_eq_false (by omega)
        have HK := Lib.hid c
        clear c ht ht' hk hR hp
        go_wp2_with fail
        go_roundw
        case rel => exact ⟨k + 1, _, _, rfl, rfl, by have := HR.out; omega, HK.out, HR.out.1.snoc HR.out.2.1⟩
        case measure =>
          have := decode_width_pos s pos HR.out.2.1
          have := HR.out.2.1
          simp
          omega
      · have d : decide (t' < 0) = true := decide_eq_true (by omega)
        obtain rfl : k = lo := by omega
        obtain rfl : pos = a := by have h1 := off_rn hR; have h2 := HO.out.1; omega
        clear c ht ht' hk hR hp
        by_cases c2 : hi' < C
        · have d6 : (hi' : Int) < (C : Int) := by omega
          have HC := Lib.hid (show hi' < runeCount s ∧ s.size ≤ 2147483647 ∧ runeCount s ≤ s.size from ⟨by have := HB.out; omega, HB.out.1, HB.out.2.1⟩)
          clear c2
          go_wp2_with fail
          obtain ⟨W5, hW5⟩ : ∃ W5, W5 = (W3.iter s (pos + (Utf8.decode s pos).2)) := ⟨_, rfl⟩
          have H5 := Lib.hid (show Below w.heap.size w W5 by rw [hW5]; exact (H3.out.alloc H3.out.size _))
          rw [← hW5]
          clear hW5
          go_loopw [8] (fun n w' => ∃ (k pos : Nat) (t : Int), w' = W5.iter s pos ∧ n = .int .i64 t ∧ t + k = hi' ∧ k ≤ hi' ∧ Rn s 0 pos k) (fun _ w' => s.size - w'.iterPos W5.heap.size)
          case atStart => exact ⟨0, 0, hi', rfl, rfl, by omega, Nat.zero_le _, .nil _⟩
          case round =>
            obtain ⟨k, pos, t, rfl, rfl, ht, hk, hR⟩ := hrel
            have hp : pos < s.size := rn_lt hR (by have := HC.out; omega)
            have hnx : ∀ ty, (Instr.next (.pointer (some ⟨W5.heap.size, 0, none⟩)) true ty).run Tryz.prog (W5.iter s pos) = _ := fun ty => run_next_any W5 s pos ty hp
            obtain ⟨t', ht'⟩ : ∃ t', t' = t - 1 := ⟨_, rfl⟩
            have hw : wrap64 (t - 1) = t' := by have := HC.out; unfold wrap64; omega
            have HR := Lib.hid (And.intro hR (And.intro hp (And.intro ht ht')))
            by_cases c : k < hi'
            · have d : decide (t' < 0) = false := decide_eq_false (by omega)
              have HK := Lib.hid c
              clear c ht ht' hk hR hp
              go_wp2_with fail
              go_roundw
              case rel => exact ⟨k + 1, _, _, rfl, rfl, by have := HR.out; omega, HK.out, HR.out.1.snoc HR.out.2.1⟩
              case measure =>
                have := decode_width_pos s pos HR.out.2.1
                have := HR.out.2.1
                simp
                omega
            · have d : decide (t' < 0) = true := decide_eq_true (by omega)
              obtain rfl : k = hi' := by omega
              obtain rfl : pos = b := by have h1 := off_rn hR; have h2 := HO.out.2; omega
              clear c ht ht' hk hR hp
              go_wp2_with fail
              go_ret
              exact ⟨by first | rfl | (rw [show s.extract s.size s.size = ByteArray.empty by simp]; rfl), H5.out.alloc H5.out.size _⟩
        · have d6 : decide ((hi' : Int) < (C : Int)) = false := decide_eq_false (by omega)
          have d6' : decide (hi' < C) = false := decide_eq_false (by omega)
          obtain rfl : b = s.size := by have h1 := off_top s (k := hi') (by have := HB.out; omega); have h2 := HO.out.2; omega
          clear c2
          go_wp2_with fail
          go_ret
          exact ⟨by first | rfl | (rw [show s.extract s.size s.size = ByteArray.empty by simp]; rfl), (H3.out.alloc H3.out.size _)⟩
  · have d5 : decide ((lo : Int) < (C : Int)) = false := decide_eq_false (by omega)
    have d5' : decide (lo < C) = false := decide_eq_false (by omega)
    obtain rfl : a = s.size := by have h1 := off_top s (k := lo) (by have := HB.out; omega); have h2 := HO.out.1; omega
    have d7 : decide ((hi' : Int) < (C : Int)) = false := decide_eq_false (by omega)
    have d7' : decide (hi' < C) = false := decide_eq_false (by omega)
    obtain rfl : b = s.size := by have h1 := off_top s (k := hi') (by have := HB.out; omega); have h2 := HO.out.2; omega
    clear c1
    go_enter Tryz.func117, Tryz.ntmps117
    go_wp2_with fail
    obtain ⟨W0, hW0⟩ : ∃ W0, W0 = (w.alloc (ob w)).drew := ⟨_, rfl⟩
    have H0 := Lib.hid (show Below w.heap.size w W0 by rw [hW0]; exact ((Below.refl _ w).alloc (Nat.le_refl _) _).drew)
    rw [← hW0]
    clear hW0
    refine (HT.out _).mono ?_
    rintro e w1 ⟨rfl, hb⟩
    have H1 := Lib.hid (show Below w.heap.size w w1 from H0.out.trans (hb.mono H0.out.size))
    clear hb
    go_wp2_with fail
    refine (HCL.out _).mono ?_
    rintro e w2 ⟨rfl, hb⟩
    have H2 := Lib.hid (H1.out.trans (hb.mono H1.out.size))
    clear hb H1
    go_wp2_with fail
    refine (HU.out _).mono ?_
    rintro e w3 ⟨rfl, hb⟩
    have H3 := Lib.hid (H2.out.trans (hb.mono H2.out.size))
    clear hb H2
    go_wp2_with fail
    refine (HD.out _).mono ?_
    rintro e w4 ⟨rfl, hb⟩
    have H4 := Lib.hid (H3.out.trans (hb.mono H3.out.size))
    clear hb H3
    go_wp2_with fail
    go_ret
    exact ⟨by first | rfl | (rw [show s.extract s.size s.size = ByteArray.empty by simp]; rfl), H4.out⟩
set_option maxHeartbeats 8000000 in
theorem sstr_in (s : ByteArray) (hs : s.size ≤ 2147483647) (i : Int) (hi : -4611686018427387904 ≤ i ∧ i ≤ 4611686018427387904) (w : World) :
    Calls Tryz.prog 117 #[.string s, gE none, gE (some i)] w fun r w' => r = .returned (.iface 9 (.string (cut s (loI (some i) (runeCount s)) (hiI (some i) none (runeCount s))))) ∧ Below w.heap.size w w' := by
  obtain ⟨gc, ob, hconv⟩ := runes_run s hs
  obtain ⟨C, hC⟩ : ∃ C, C = runeCount s := ⟨_, rfl⟩
  have hC2 := runeCount_le s
  rw [← hC] at hconv hC2 ⊢
  have HB0 : s.size ≤ 2147483647 ∧ runeCount s ≤ s.size ∧ C = runeCount s := ⟨hs, by omega, hC⟩
  obtain ⟨lo, hlo⟩ : ∃ lo : Nat, lo = loI (some i) C := ⟨_, rfl⟩
  obtain ⟨hi', hhi⟩ : ∃ hi' : Nat, hi' = hiI (some i) none C := ⟨_, rfl⟩
  have d1 : (lo : Int) ≤ (hi' : Int) := by have := hi_in (some i) none C; omega
  have d2 : (hi' : Int) ≤ (C : Int) := by have := hi_in (some i) none C; omega
  have HT := Lib.hid (fun w => toInt_int i w)
  have c1 := @clamp_in i 0 C (by omega)
  have e1 : clampI i 0 C = (lo : Int) := by rw [hlo]; show clampI i 0 C = ((clampI i 0 C).toNat : Int); omega
  have HCL := Lib.hid (fun w => clamp_any i 0 C hi.1 hi.2 (by omega) (by omega) w)
  rw [e1] at HCL
  rw [← hlo, ← hhi]
  unfold cut
  obtain ⟨a, ha⟩ : ∃ a, a = off s lo 0 := ⟨_, rfl⟩
  obtain ⟨b, hb⟩ : ∃ b, b = off s hi' 0 := ⟨_, rfl⟩
  have d3 : (a : Int) ≤ (b : Int) := by have := off_mono s (a := lo) (b := hi') (by omega); omega
  have d4 : (b : Int) ≤ (s.size : Int) := by have := off_le s hi'; omega
  have HO := Lib.hid (And.intro ha.symm hb.symm)
  rw [← ha, ← hb]
  have HB := Lib.hid (show s.size ≤ 2147483647 ∧ runeCount s ≤ s.size ∧ C = runeCount s ∧ lo ≤ hi' ∧ hi' ≤ C from ⟨HB0.1, HB0.2.1, HB0.2.2, by omega, by omega⟩)
  clear ha hb hC hC2 hs HB0 c1 e1 hi
  unfold gE
  clear hlo
  have hhi2 : hi' = C := hhi
  clear hhi
  subst hhi2
  by_cases c1 : lo < hi'
  · have d5 : (lo : Int) < (hi' : Int) := by omega
    have HC := Lib.hid (show lo < runeCount s ∧ s.size ≤ 2147483647 ∧ runeCount s ≤ s.size from ⟨by have := HB.out; omega, HB.out.1, HB.out.2.1⟩)
    clear c1
    go_enter Tryz.func117, Tryz.ntmps117
    go_wp2_with fail
    obtain ⟨W0, hW0⟩ : ∃ W0, W0 = (w.alloc (ob w)).drew := ⟨_, rfl⟩
    have H0 := Lib.hid (show Below w.heap.size w W0 by rw [hW0]; exact ((Below.refl _ w).alloc (Nat.le_refl _) _).drew)
    rw [← hW0]
    clear hW0
    refine (HT.out _).mono ?_
    rintro e w1 ⟨rfl, hb⟩
    have H1 := Lib.hid (show Below w.heap.size w w1 from H0.out.trans (hb.mono H0.out.size))
    clear hb
    go_wp2_with fail
    refine (HCL.out _).mono ?_
    rintro e w2 ⟨rfl, hb⟩
    have H2 := Lib.hid (H1.out.trans (hb.mono H1.out.size))
    clear hb H1
    go_wp2_with fail
    obtain ⟨W3, hW3⟩ : ∃ W3, W3 = w2 := ⟨_, rfl⟩
    have H3 := Lib.hid (show Below w.heap.size w W3 by rw [hW3]; exact H2.out)
    rw [← hW3]
    clear hW3
    go_loopw [7] (fun n w' => ∃ (k pos : Nat) (t : Int), w' = W3.iter s pos ∧ n = .int .i64 t ∧ t + k = lo ∧ k ≤ lo ∧ Rn s 0 pos k) (fun _ w' => s.size - w'.iterPos W3.heap.size)
    case atStart => exact ⟨0, 0, lo, rfl, rfl, by omega, Nat.zero_le _, .nil _⟩
    case round =>
      obtain ⟨k, pos, t, rfl, rfl, ht, hk, hR⟩ := hrel
      have hp : pos < s.size := rn_lt hR (by have := HC.out; omega)
      have hnx : ∀ ty, (Instr.next (.pointer (some ⟨W3.heap.size, 0, none⟩)) true ty).run Tryz.prog (W3.iter s pos) = _ := fun ty => run_next_any W3 s pos ty hp
      obtain ⟨t', ht'⟩ : ∃ t', t' = t - 1 := ⟨_, rfl⟩
      have hw : wrap64 (t - 1) = t' := by have := HC.out; unfold wrap64; omega
      have HR := Lib.hid (And.intro hR (And.intro hp (And.intro ht ht')))
      by_cases c : k < lo
      · have d : decide (t' < 0) = false := decide_eq_false (by omega)
        have HK := Lib.hid c
        clear c ht ht' hk hR hp
        go_wp2_with fail
        go_roundw
        case rel => exact ⟨k + 1, _, _, rfl, rfl, by have := HR.out; omega, HK.out, HR.out.1.snoc HR.out.2.1⟩
        case measure =>
          have := decode_width_pos s pos HR.out.2.1
          have := HR.out.2.1
          simp
          omega
      · have d : decide (t' < 0) = true := decide_eq_true (by omega)
        obtain rfl : k = lo := by omega
        obtain rfl : pos = a := by have h1 := off_rn hR; have h2 := HO.out.1; omega
        clear c ht ht' hk hR hp
        obtain rfl : b = s.size := by have h1 := off_top s (k := hi') (by have := HB.out; omega); have h2 := HO.out.2; omega
        go_wp2_with fail
        go_ret
        exact ⟨by first | rfl | (rw [show s.extract s.size s.size = ByteArray.empty by simp]; rfl), (H3.out.alloc H3.out.size _)⟩
  · have d5 : decide ((lo : Int) < (hi' : Int)) = false := decide_eq_false (by omega)
    have d5' : decide (lo < hi') = false := decide_eq_false (by omega)
    obtain rfl : a = s.size := by have h1 := off_top s (k := lo) (by have := HB.out; omega); have h2 := HO.out.1; omega
    have d7 : decide ((hi' : Int) < (hi' : Int)) = false := decide_eq_false (by omega)
    have d7' : decide (hi' < hi') = false := decide_eq_false (by omega)
    obtain rfl : b = s.size := by have h1 := off_top s (k := hi') (by have := HB.out; omega); have h2 := HO.out.2; omega
    clear c1
    go_enter Tryz.func117, Tryz.ntmps117
    go_wp2_with fail
    obtain ⟨W0, hW0⟩ : ∃ W0, W0 = (w.alloc (ob w)).drew := ⟨_, rfl⟩
    have H0 := Lib.hid (show Below w.heap.size w W0 by rw [hW0]; exact ((Below.refl _ w).alloc (Nat.le_refl _) _).drew)
    rw [← hW0]
    clear hW0
    refine (HT.out _).mono ?_
    rintro e w1 ⟨rfl, hb⟩
    have H1 := Lib.hid (show Below w.heap.size w w1 from H0.out.trans (hb.mono H0.out.size))
    clear hb
    go_wp2_with fail
    refine (HCL.out _).mono ?_
    rintro e w2 ⟨rfl, hb⟩
    have H2 := Lib.hid (H1.out.trans (hb.mono H1.out.size))
    clear hb H1
    go_wp2_with fail
    go_ret
    exact ⟨by first | rfl | (rw [show s.extract s.size s.size = ByteArray.empty by simp]; rfl), H2.out⟩
set_option maxHeartbeats 8000000 in
theorem sstr_ni (s : ByteArray) (hs : s.size ≤ 2147483647) (k : Int) (hk : -4611686018427387904 ≤ k ∧ k ≤ 4611686018427387904) (w : World) :
    Calls Tryz.prog 117 #[.string s, gE (some k), gE none] w fun r w' => r = .returned (.iface 9 (.string (cut s (loI none (runeCount s)) (hiI none (some k) (runeCount s))))) ∧ Below w.heap.size w w' := by
  obtain ⟨gc, ob, hconv⟩ := runes_run s hs
  obtain ⟨C, hC⟩ : ∃ C, C = runeCount s := ⟨_, rfl⟩
  have hC2 := runeCount_le s
  rw [← hC] at hconv hC2 ⊢
  have HB0 : s.size ≤ 2147483647 ∧ runeCount s ≤ s.size ∧ C = runeCount s := ⟨hs, by omega, hC⟩
  obtain ⟨lo, hlo⟩ : ∃ lo : Nat, lo = loI none C := ⟨_, rfl⟩
  obtain ⟨hi', hhi⟩ : ∃ hi' : Nat, hi' = hiI none (some k) C := ⟨_, rfl⟩
  have d1 : (lo : Int) ≤ (hi' : Int) := by have := hi_in none (some k) C; omega
  have d2 : (hi' : Int) ≤ (C : Int) := by have := hi_in none (some k) C; omega
  have HU := Lib.hid (fun w => toCeil_int k w)
  have c2 := @clamp_in k lo C (by omega)
  have e2 : clampI k lo C = (hi' : Int) := by rw [hhi]; show clampI k lo C = ((clampI k (loI none C) C).toNat : Int); rw [← hlo]; omega
  have HD := Lib.hid (fun w => clamp_any k lo C hk.1 hk.2 (by omega) (by omega) w)
  rw [e2] at HD
  rw [← hlo, ← hhi]
  unfold cut
  obtain ⟨a, ha⟩ : ∃ a, a = off s lo 0 := ⟨_, rfl⟩
  obtain ⟨b, hb⟩ : ∃ b, b = off s hi' 0 := ⟨_, rfl⟩
  have d3 : (a : Int) ≤ (b : Int) := by have := off_mono s (a := lo) (b := hi') (by omega); omega
  have d4 : (b : Int) ≤ (s.size : Int) := by have := off_le s hi'; omega
  have HO := Lib.hid (And.intro ha.symm hb.symm)
  rw [← ha, ← hb]
  have HB := Lib.hid (show s.size ≤ 2147483647 ∧ runeCount s ≤ s.size ∧ C = runeCount s ∧ lo ≤ hi' ∧ hi' ≤ C from ⟨HB0.1, HB0.2.1, HB0.2.2, by omega, by omega⟩)
  clear ha hb hC hC2 hs HB0 c2 e2 hk
  unfold gE
  have hlo2 : lo = 0 := hlo
  clear hlo
  subst hlo2
  clear hhi
  by_cases c1 : 0 < C
  · have d5 : (0 : Int) < (C : Int) := by omega
    have HC := Lib.hid (show 0 < runeCount s ∧ s.size ≤ 2147483647 ∧ runeCount s ≤ s.size from ⟨by have := HB.out; omega, HB.out.1, HB.out.2.1⟩)
    clear c1
    go_enter Tryz.func117, Tryz.ntmps117
    go_wp2_with fail
    obtain ⟨W0, hW0⟩ : ∃ W0, W0 = (w.alloc (ob w)).drew := ⟨_, rfl⟩
    have H0 := Lib.hid (show Below w.heap.size w W0 by rw [hW0]; exact ((Below.refl _ w).alloc (Nat.le_refl _) _).drew)
    rw [← hW0]
    clear hW0
    refine (HU.out _).mono ?_
    rintro e w1 ⟨rfl, hb⟩
    have H1 := Lib.hid (show Below w.heap.size w w1 from H0.out.trans (hb.mono H0.out.size))
    clear hb
    go_wp2_with fail
    refine (HD.out _).mono ?_
    rintro e w2 ⟨rfl, hb⟩
    have H2 := Lib.hid (H1.out.trans (hb.mono H1.out.size))
    clear hb H1
    go_wp2_with fail
    obtain ⟨W3, hW3⟩ : ∃ W3, W3 = w2 := ⟨_, rfl⟩
    have H3 := Lib.hid (show Below w.heap.size w W3 by rw [hW3]; exact H2.out)
    rw [← hW3]
    clear hW3
    go_loopw [7] (fun n w' => ∃ (k pos : Nat) (t : Int), w' = W3.iter s pos ∧ n = .int .i64 t ∧ t + k = 0 ∧ k ≤ 0 ∧ Rn s 0 pos k) (fun _ w' => s.size - w'.iterPos W3.heap.size)
    case atStart => exact ⟨0, 0, 0, rfl, rfl, by omega, Nat.zero_le _, .nil _⟩
    case round =>
      obtain ⟨k, pos, t, rfl, rfl, ht, hk, hR⟩ := hrel
      have hp : pos < s.size := rn_lt hR (by have := HC.out; omega)
      have hnx : ∀ ty, (Instr.next (.pointer (some ⟨W3.heap.size, 0, none⟩)) true ty).run Tryz.prog (W3.iter s pos) = _ := fun ty => run_next_any W3 s pos ty hp
      obtain ⟨t', ht'⟩ : ∃ t', t' = t - 1 := ⟨_, rfl⟩
      have hw : wrap64 (t - 1) = t' := by have := HC.out; unfold wrap64; omega
      have HR := Lib.hid (And.intro hR (And.intro hp (And.intro ht ht')))
      by_cases c : k < 0
      · have d : decide (t' < 0) = false := decide_eq_false (by omega)
        have HK := Lib.hid c
        clear c ht ht' hk hR hp
        go_wp2_with fail
        go_roundw
        case rel => exact ⟨k + 1, _, _, rfl, rfl, by have := HR.out; omega, HK.out, HR.out.1.snoc HR.out.2.1⟩
        case measure =>
          have := decode_width_pos s pos HR.out.2.1
          have := HR.out.2.1
          simp
          omega
      · have d : decide (t' < 0) = true := decide_eq_true (by omega)
        obtain rfl : k = 0 := by omega
        obtain rfl : pos = a := by have h1 := off_rn hR; have h2 := HO.out.1; omega
        clear c ht ht' hk hR hp
        by_cases c2 : hi' < C
        · have d6 : (hi' : Int) < (C : Int) := by omega
          have HC := Lib.hid (show hi' < runeCount s ∧ s.size ≤ 2147483647 ∧ runeCount s ≤ s.size from ⟨by have := HB.out; omega, HB.out.1, HB.out.2.1⟩)
          clear c2
          go_wp2_with fail
          obtain ⟨W5, hW5⟩ : ∃ W5, W5 = (W3.iter s (pos + (Utf8.decode s pos).2)) := ⟨_, rfl⟩
          have H5 := Lib.hid (show Below w.heap.size w W5 by rw [hW5]; exact (H3.out.alloc H3.out.size _))
          rw [← hW5]
          clear hW5
          go_loopw [8] (fun n w' => ∃ (k pos : Nat) (t : Int), w' = W5.iter s pos ∧ n = .int .i64 t ∧ t + k = hi' ∧ k ≤ hi' ∧ Rn s 0 pos k) (fun _ w' => s.size - w'.iterPos W5.heap.size)
          case atStart => exact ⟨0, 0, hi', rfl, rfl, by omega, Nat.zero_le _, .nil _⟩
          case round =>
            obtain ⟨k, pos, t, rfl, rfl, ht, hk, hR⟩ := hrel
            have hp : pos < s.size := rn_lt hR (by have := HC.out; omega)
            have hnx : ∀ ty, (Instr.next (.pointer (some ⟨W5.heap.size, 0, none⟩)) true ty).run Tryz.prog (W5.iter s pos) = _ := fun ty => run_next_any W5 s pos ty hp
            obtain ⟨t', ht'⟩ : ∃ t', t' = t - 1 := ⟨_, rfl⟩
            have hw : wrap64 (t - 1) = t' := by have := HC.out; unfold wrap64; omega
            have HR := Lib.hid (And.intro hR (And.intro hp (And.intro ht ht')))
            by_cases c : k < hi'
            · have d : decide (t' < 0) = false := decide_eq_false (by omega)
              have HK := Lib.hid c
              clear c ht ht' hk hR hp
              go_wp2_with fail
              go_roundw
              case rel => exact ⟨k + 1, _, _, rfl, rfl, by have := HR.out; omega, HK.out, HR.out.1.snoc HR.out.2.1⟩
              case measure =>
                have := decode_width_pos s pos HR.out.2.1
                have := HR.out.2.1
                simp
                omega
            · have d : decide (t' < 0) = true := decide_eq_true (by omega)
              obtain rfl : k = hi' := by omega
              obtain rfl : pos = b := by have h1 := off_rn hR; have h2 := HO.out.2; omega
              clear c ht ht' hk hR hp
              go_wp2_with fail
              go_ret
              exact ⟨by first | rfl | (rw [show s.extract s.size s.size = ByteArray.empty by simp]; rfl), H5.out.alloc H5.out.size _⟩
        · have d6 : decide ((hi' : Int) < (C : Int)) = false := decide_eq_false (by omega)
          have d6' : decide (hi' < C) = false := decide_eq_false (by omega)
          obtain rfl : b = s.size := by have h1 := off_top s (k := hi') (by have := HB.out; omega); have h2 := HO.out.2; omega
          clear c2
          go_wp2_with fail
          go_ret
          exact ⟨by first | rfl | (rw [show s.extract s.size s.size = ByteArray.empty by simp]; rfl), (H3.out.alloc H3.out.size _)⟩
  · have d5 : decide ((0 : Int) < (C : Int)) = false := decide_eq_false (by omega)
    have d5' : decide (0 < C) = false := decide_eq_false (by omega)
    obtain rfl : a = s.size := by have h1 := off_top s (k := 0) (by have := HB.out; omega); have h2 := HO.out.1; omega
    have d7 : decide ((hi' : Int) < (C : Int)) = false := decide_eq_false (by omega)
    have d7' : decide (hi' < C) = false := decide_eq_false (by omega)
    obtain rfl : b = s.size := by have h1 := off_top s (k := hi') (by have := HB.out; omega); have h2 := HO.out.2; omega
    clear c1
    go_enter Tryz.func117, Tryz.ntmps117
    go_wp2_with fail
    obtain ⟨W0, hW0⟩ : ∃ W0, W0 = (w.alloc (ob w)).drew := ⟨_, rfl⟩
    have H0 := Lib.hid (show Below w.heap.size w W0 by rw [hW0]; exact ((Below.refl _ w).alloc (Nat.le_refl _) _).drew)
    rw [← hW0]
    clear hW0
    refine (HU.out _).mono ?_
    rintro e w1 ⟨rfl, hb⟩
    have H1 := Lib.hid (show Below w.heap.size w w1 from H0.out.trans (hb.mono H0.out.size))
    clear hb
    go_wp2_with fail
    refine (HD.out _).mono ?_
    rintro e w2 ⟨rfl, hb⟩
    have H2 := Lib.hid (H1.out.trans (hb.mono H1.out.size))
    clear hb H1
    go_wp2_with fail
    go_ret
    exact ⟨by first | rfl | (rw [show s.extract s.size s.size = ByteArray.empty by simp]; rfl), H2.out⟩
set_option maxHeartbeats 8000000 in
theorem sstr_nn (s : ByteArray) (hs : s.size ≤ 2147483647) (w : World) :
    Calls Tryz.prog 117 #[.string s, gE none, gE none] w fun r w' => r = .returned (.iface 9 (.string (cut s (loI none (runeCount s)) (hiI none none (runeCount s))))) ∧ Below w.heap.size w w' := by
  obtain ⟨gc, ob, hconv⟩ := runes_run s hs
  obtain ⟨C, hC⟩ : ∃ C, C = runeCount s := ⟨_, rfl⟩
  have hC2 := runeCount_le s
  rw [← hC] at hconv hC2 ⊢
  have HB0 : s.size ≤ 2147483647 ∧ runeCount s ≤ s.size ∧ C = runeCount s := ⟨hs, by omega, hC⟩
  obtain ⟨lo, hlo⟩ : ∃ lo : Nat, lo = loI none C := ⟨_, rfl⟩
  obtain ⟨hi', hhi⟩ : ∃ hi' : Nat, hi' = hiI none none C := ⟨_, rfl⟩
  have d1 : (lo : Int) ≤ (hi' : Int) := by have := hi_in none none C; omega
  have d2 : (hi' : Int) ≤ (C : Int) := by have := hi_in none none C; omega
  rw [← hlo, ← hhi]
  unfold cut
  obtain ⟨a, ha⟩ : ∃ a, a = off s lo 0 := ⟨_, rfl⟩
  obtain ⟨b, hb⟩ : ∃ b, b = off s hi' 0 := ⟨_, rfl⟩
  have d3 : (a : Int) ≤ (b : Int) := by have := off_mono s (a := lo) (b := hi') (by omega); omega
  have d4 : (b : Int) ≤ (s.size : Int) := by have := off_le s hi'; omega
  have HO := Lib.hid (And.intro ha.symm hb.symm)
  rw [← ha, ← hb]
  have HB := Lib.hid (show s.size ≤ 2147483647 ∧ runeCount s ≤ s.size ∧ C = runeCount s ∧ lo ≤ hi' ∧ hi' ≤ C from ⟨HB0.1, HB0.2.1, HB0.2.2, by omega, by omega⟩)
  clear ha hb hC hC2 hs HB0
  unfold gE
  have hlo2 : lo = 0 := hlo
  clear hlo
  subst hlo2
  have hhi2 : hi' = C := hhi
  clear hhi
  subst hhi2
  by_cases c1 : 0 < hi'
  · have d5 : (0 : Int) < (hi' : Int) := by omega
    have HC := Lib.hid (show 0 < runeCount s ∧ s.size ≤ 2147483647 ∧ runeCount s ≤ s.size from ⟨by have := HB.out; omega, HB.out.1, HB.out.2.1⟩)
    clear c1
    go_enter Tryz.func117, Tryz.ntmps117
    go_wp2_with fail
    obtain ⟨W3, hW3⟩ : ∃ W3, W3 = (w.alloc (ob w)).drew := ⟨_, rfl⟩
    have H3 := Lib.hid (show Below w.heap.size w W3 by rw [hW3]; exact ((Below.refl _ w).alloc (Nat.le_refl _) _).drew)
    have hsz : W3.heap.size = w.heap.size + 1 := by rw [hW3]; exact World.size_alloc _ _
    rw [← hW3]
    rw [← hsz]
    clear hsz
    clear hW3
    go_loopw [7] (fun n w' => ∃ (k pos : Nat) (t : Int), w' = W3.iter s pos ∧ n = .int .i64 t ∧ t + k = 0 ∧ k ≤ 0 ∧ Rn s 0 pos k) (fun _ w' => s.size - w'.iterPos W3.heap.size)
    case atStart => exact ⟨0, 0, 0, rfl, rfl, by omega, Nat.zero_le _, .nil _⟩
    case round =>
      obtain ⟨k, pos, t, rfl, rfl, ht, hk, hR⟩ := hrel
      have hp : pos < s.size := rn_lt hR (by have := HC.out; omega)
      have hnx : ∀ ty, (Instr.next (.pointer (some ⟨W3.heap.size, 0, none⟩)) true ty).run Tryz.prog (W3.iter s pos) = _ := fun ty => run_next_any W3 s pos ty hp
      obtain ⟨t', ht'⟩ : ∃ t', t' = t - 1 := ⟨_, rfl⟩
      have hw : wrap64 (t - 1) = t' := by have := HC.out; unfold wrap64; omega
      have HR := Lib.hid (And.intro hR (And.intro hp (And.intro ht ht')))
      by_cases c : k < 0
      · have d : decide (t' < 0) = false := decide_eq_false (by omega)
        have HK := Lib.hid c
        clear c ht ht' hk hR hp
        go_wp2_with fail
        go_roundw
        case rel => exact ⟨k + 1, _, _, rfl, rfl, by have := HR.out; omega, HK.out, HR.out.1.snoc HR.out.2.1⟩
        case measure =>
          have := decode_width_pos s pos HR.out.2.1
          have := HR.out.2.1
          simp
          omega
      · have d : decide (t' < 0) = true := decide_eq_true (by omega)
        obtain rfl : k = 0 := by omega
        obtain rfl : pos = a := by have h1 := off_rn hR; have h2 := HO.out.1; omega
        clear c ht ht' hk hR hp
        obtain rfl : b = s.size := by have h1 := off_top s (k := hi') (by have := HB.out; omega); have h2 := HO.out.2; omega
        go_wp2_with fail
        go_ret
        exact ⟨by first | rfl | (rw [show s.extract s.size s.size = ByteArray.empty by simp]; rfl), (H3.out.alloc H3.out.size _)⟩
  · have d5 : decide ((0 : Int) < (hi' : Int)) = false := decide_eq_false (by omega)
    have d5' : decide (0 < hi') = false := decide_eq_false (by omega)
    obtain rfl : a = s.size := by have h1 := off_top s (k := 0) (by have := HB.out; omega); have h2 := HO.out.1; omega
    have d7 : decide ((hi' : Int) < (hi' : Int)) = false := decide_eq_false (by omega)
    have d7' : decide (hi' < hi') = false := decide_eq_false (by omega)
    obtain rfl : b = s.size := by have h1 := off_top s (k := hi') (by have := HB.out; omega); have h2 := HO.out.2; omega
    clear c1
    go_enter Tryz.func117, Tryz.ntmps117
    go_wp2_with fail
    go_ret
    exact ⟨by first | rfl | (rw [show s.extract s.size s.size = ByteArray.empty by simp]; rfl), ((Below.refl _ w).alloc (Nat.le_refl _) _).drew⟩
theorem sstr_any (s : ByteArray) (hs : s.size ≤ 2147483647) (b e : Option Int) (hb : Small b) (he : Small e) (w : World) :
    Calls Tryz.prog 117 #[.string s, gE e, gE b] w fun r w' => r = .returned (.iface 9 (.string (cut s (loI b (runeCount s)) (hiI b e (runeCount s))))) ∧ Below w.heap.size w w' := by
  cases b with
  | none =>
    cases e with
    | none => exact sstr_nn s hs w
    | some k => exact sstr_ni s hs k (he k rfl) w
  | some i =>
    cases e with
    | none => exact sstr_in s hs i (hb i rfl) w
    | some k => exact sstr_ii s hs i (hb i rfl) k (he k rfl) w
end Go.Proofs.YtcoahpcjhhnkkaaGreatDoor.NumA
/-
Slices of arrays and texts alike.
-/
set_option linter.unusedSimpArgs false
set_option linter.unusedVariables false
namespace Go.Proofs.YtcoahpcjhhnkkaaGreatDoor.NumA
open Go.RowKit Go.Lib Go.Proofs.YtcoahpcjhhnkkaaGreatDoor.ValA Go.Proofs.YtcoahpcjhhnkkaaGreatDoor.FloH Go.Proofs.YtcoahpcjhhnkkaaGreatDoorW.PrintWords Go.Proofs.YtcoahpcjhhnkkaaGreatDoorW.PrintLast Go.Proofs.YtcoahpcjhhnkkaaGreatDoorW.PrintMore Go.Proofs.YtcoahpcjhhnkkaaGreatDoor.PzzFits1 Go.Proofs.YtcoahpcjhhnkkaaGreatDoor.TxtA
theorem funcSlice_text (Q : Value → World → Prop) (s : ByteArray) (g h : Value) (w : World) (HC : Calls Tryz.prog 117 #[.string s, g, h] w fun e w' => ∃ R, e = .returned R ∧ Q R w') :
    Calls Tryz.prog 77 #[.nilIface, .iface 9 (.string s), g, h] w fun e w' => ∃ R, e = .returned R ∧ Q R w' := by
  have H := Lib.hid HC
  clear HC
  have fL := fun w => qSL (.string s) w
  have gS := fun w => qS (.string s) w
  go_enter Tryz.func77, Tryz.ntmps77
  go_wp2_with fail
  refine H.out.mono ?_
  rintro e w1 ⟨R, rfl, hb⟩
  have HB := Lib.hid hb; clear hb
  go_wp2_with fail
  go_ret
  exact ⟨R, rfl, HB.out⟩
/-- A text as a value; how long a value is; a part of it. -/
def tV (s : ByteArray) : V := ⟨4, 0, s, [], [], []⟩
def lenV (x : V) : Nat := if x.f0 = 4 then runeCount x.f2 else x.f3.length
def partV (x : V) (a b : Nat) : V := if x.f0 = 4 then tV (cut x.f2 a b) else lV ((x.f3.drop a).take (b - a))
def slV (x : V) (s e : Option Int) : V := partV x (loI s (lenV x)) (hiI s e (lenV x))
theorem wl_tV (s : ByteArray) : WL (tV s) :=
  .mk _ (by simp [tV, c1B]) (show c2B 0 = true by decide) (by simp [tV]) (by simp [tV]) (fun i _ h => by simp [tV] at h) (fun y hy => by cases hy) (fun y hy => by cases hy)
theorem sz_tV {s : ByteArray} (h : s.size ≤ 9223372036854775807) : Sz (tV s) := .mk _ h (fun s hs => by cases hs) (fun y hy => by cases hy) (fun y hy => by cases hy)
theorem cut_le (s : ByteArray) (a b : Nat) : (cut s a b).size ≤ s.size := by
  unfold cut
  rw [cut_size s (off_le s b)]
  have := off_le s b
  omega
theorem part_f0 {x : V} (hx : x.f0 = 4 ∨ x.f0 = 5) (a b : Nat) : (partV x a b).f0 = x.f0 := by
  unfold partV
  rcases hx with h | h
  · rw [if_pos h, h]; rfl
  · rw [if_neg (by omega), h]; rfl
theorem part_wl {x : V} (hx : WL x) (a b : Nat) : WL (partV x a b) := by
  unfold partV
  split
  · exact wl_tV _
  · have hn : x.f3.length ≤ 1000000 := by cases hx; assumption
    exact wl_lV (by rw [List.length_take, List.length_drop]; omega) (fun y hy => hx.h3 y (List.mem_of_mem_drop (List.mem_of_mem_take hy)))
theorem part_sz {x : V} (hx : Sz x) (a b : Nat) : Sz (partV x a b) := by
  unfold partV
  split
  · exact sz_tV (Nat.le_trans (cut_le _ _ _) (sz_h2 hx))
  · exact sz_lV (fun y hy => (sz_h3 hx) y (List.mem_of_mem_drop (List.mem_of_mem_take hy)))
theorem part_size {x : V} (a b n : Nat) (h : x.f2.size ≤ n) : (partV x a b).f2.size ≤ n := by
  unfold partV
  split
  · exact Nat.le_trans (cut_le _ _ _) h
  · exact Nat.zero_le _
theorem part_len {x : V} (hx : x.f0 = 4 ∨ x.f0 = 5) {a b : Nat} (hab : a ≤ b) (hb : b ≤ lenV x) : lenV (partV x a b) = b - a := by
  rcases hx with h | h
  · have e : partV x a b = tV (cut x.f2 a b) := by unfold partV; rw [if_pos h]
    unfold lenV at hb
    rw [if_pos h] at hb
    rw [e]
    show (if (4 : Int) = 4 then runeCount (cut x.f2 a b) else _) = _
    rw [if_pos rfl, cut_count _ hab hb]
  · have h4 : ¬ x.f0 = 4 := by omega
    have e : partV x a b = lV ((x.f3.drop a).take (b - a)) := by unfold partV; rw [if_neg h4]
    unfold lenV at hb
    rw [if_neg h4] at hb
    rw [e]
    show (if (5 : Int) = 4 then _ else ((x.f3.drop a).take (b - a)).length) = _
    rw [if_neg (by omega), List.length_take, List.length_drop]
    omega
theorem part_part {x : V} (hx : x.f0 = 4 ∨ x.f0 = 5) {a b c d : Nat} (hab : a ≤ b) (hb : b ≤ lenV x) (hcd : c ≤ d) (hd : a + d ≤ b) : partV (partV x a b) c d = partV x (a + c) (a + d) := by
  unfold lenV at hb
  rcases hx with h | h
  · rw [if_pos h] at hb
    unfold partV
    simp only [if_pos h]
    show (if (4 : Int) = 4 then tV (cut (cut x.f2 a b) c d) else _) = _
    rw [if_pos rfl, cut_cut _ hab hb hcd hd]
  · rw [if_neg (by omega)] at hb
    have h4 : ¬ x.f0 = 4 := by omega
    unfold partV
    simp only [if_neg h4]
    show (if (5 : Int) = 4 then _ else lV ((((x.f3.drop a).take (b - a)).drop c).take (d - c))) = _
    rw [if_neg (by omega), List.drop_take, List.drop_drop, List.take_take]
    congr 2
    · omega
theorem part_all {x : V} (hw : WL x) (hx : x.f0 = 4 ∨ x.f0 = 5) : partV x 0 (lenV x) = x := by
  unfold partV lenV
  rcases hx with h | h
  · simp only [if_pos h]
    rw [cut_all]
    obtain ⟨s1, s2, s3, s4⟩ := wf_shape hw
    obtain ⟨f0, f1, f2, f3, f4, f5⟩ := x
    obtain rfl : f0 = 4 := h
    obtain rfl : f1 = 0 := s1 (by show (4 : Int) ≠ 3; omega)
    obtain rfl : f3 = [] := s3 (by show (4 : Int) ≠ 5; omega)
    obtain ⟨rfl, rfl⟩ : f4 = [] ∧ f5 = [] := s4 (by show (4 : Int) ≠ 6; omega)
    rfl
  · have h4 : ¬ x.f0 = 4 := by omega
    simp only [if_neg h4]
    rw [List.drop_zero, Nat.sub_zero, List.take_length]
    exact (list_eq hw h).symm
theorem zz_slice_any {x : V} (hx : WL x) (zx : Sz x) (hk : x.f0 = 4 ∨ x.f0 = 5) (h2 : x.f2.size ≤ 2147483647) (s e : Option Int) (hs : Small s) (he' : Small e) {n : Nat} {w : World} {g : Value} (hg : G n w x g) :
    Calls Tryz.prog 43 #[g, gE s, gE e] w (ShowsIs (slV x s e) w) := by
  rcases hk with hk | hk
  · rw [hg.flat_inv (by omega), hk]
    have e0 : slV x s e = tV (cut x.f2 (loI s (runeCount x.f2)) (hiI s e (runeCount x.f2))) := by
      unfold slV partV lenV
      simp only [if_pos hk]
    rw [e0]
    refine (zz_slice_of (fun R w' => R = .iface 9 (.string (cut x.f2 (loI s (runeCount x.f2)) (hiI s e (runeCount x.f2)))) ∧ Below w.heap.size w w') _ _ _ w (funcSlice_text _ _ _ _ w ((sstr_any x.f2 h2 s e hs he' w).mono fun r w' h => ⟨_, h.1, rfl, h.2⟩))).mono ?_
    rintro r w1 ⟨_, rfl, rfl, hb1⟩
    refine ⟨_, rfl, ?_, hb1⟩
    exact (show G n w1 (tV _) _ from G.flat (tV _) (by show (4 : Int) ≤ 4; omega)).shows (wl_tV _) (sz_tV (Nat.le_trans (cut_le _ _ _) (sz_h2 zx)))
  · have e0 : slV x s e = lV (sliceL x.f3 s e) := by
      have h4 : ¬ x.f0 = 4 := by omega
      unfold slV partV lenV sliceL
      simp only [if_neg h4]
    rw [e0]
    exact zz_slice_list hx zx hk s e hs he' hg
theorem slice_resV (w0 : World) {x : V} {A3 A4 A5 : Option Addr} {c3 c4 c5 : Nat} (T : ToGo w0 x [.int .i64 x.f0, .int .i64 x.f1, .string x.f2, .slice A3 x.f3.length c3, .slice A4 x.f4.length c4, .slice A5 x.f5.length c5]) (hx : WL x) (zx : Sz x) (hk : x.f0 = 4 ∨ x.f0 = 5) (h2 : x.f2.size ≤ 2147483647) (s e : Option Int) (hs : Tiny s) (he : Tiny e)
    {w w1 : World} {L : List (Nat × Array Value × TypeId)} {rs : List (V × Array Value)} (hS : SPR w L rs w1) (hb : Below w0.heap.size w0 w1) :
    Calls Tryz.prog 25 #[.agg #[.int .i64 x.f0, .int .i64 x.f1, .string x.f2, .slice A3 x.f3.length c3, .slice A4 x.f4.length c4, .slice A5 x.f5.length c5], .agg #[.int .i64 (kA s), .int .i64 (hA s), .string ⟨#[]⟩, .slice none 0 0, .slice none 0 0, .slice none 0 0], .agg #[.int .i64 (kA e), .int .i64 (hA e), .string ⟨#[]⟩, .slice none 0 0, .slice none 0 0, .slice none 0 0]] w1
      fun e' w' => ∃ cs, e' = .returned (.agg cs) ∧ SPR w L (rs ++ [(slV x s e, cs)]) w' :=
  hS.res (impl_Slice w0 x (aV s) (aV e) (slV x s e) _ _ _ _ _ _ _ _ _ _ _ _ _ _ _ _ _ _ _ _ _ _ _ _ _ _ _ _ _ _ _ _ _ _ _ _ T (toGo_aV w0 s hs) (toGo_aV w0 e he) (fun g h i n m o w hg hh hi => by rw [G_aV hh, G_aV hi]; exact zz_slice_any hx zx hk h2 s e hs.small he.small hg) w1 hb)
/-- A slice of a slice. -/
theorem slice_slice {x : V} (hx : x.f0 = 4 ∨ x.f0 = 5) {a b c : Int} (ha : 0 ≤ a) (hb : 0 ≤ b) (hc : 0 ≤ c) : slV (slV x (some a) none) (some b) (some (b + c)) = slV x (some (a + b)) (some (a + b + c)) := by
  have L : ∀ (j lo n : Nat), lo ≤ n → clampI j lo n = (max lo (min j n) : Nat) := fun j lo n h => by
    unfold clampI
    rw [if_neg (show ¬ (j : Int) < 0 by omega)]
    split
    · omega
    · split <;> omega
  obtain ⟨a, rfl⟩ := Int.eq_ofNat_of_zero_le ha
  obtain ⟨b, rfl⟩ := Int.eq_ofNat_of_zero_le hb
  obtain ⟨c, rfl⟩ := Int.eq_ofNat_of_zero_le hc
  obtain ⟨n, hn⟩ : ∃ n, n = lenV x := ⟨_, rfl⟩
  have l1 : loI (some (a : Int)) n = min a n := by show (clampI a (0 : Nat) n).toNat = _; rw [L _ _ _ (by omega)]; omega
  have e1 : slV x (some (a : Int)) none = partV x (min a n) n := by unfold slV; rw [← hn, l1]; rfl
  have ln : lenV (partV x (min a n) n) = n - min a n := part_len hx (by omega) (by omega)
  have l2 : loI (some (b : Int)) (n - min a n) = min b (n - min a n) := by show (clampI b (0 : Nat) _).toNat = _; rw [L _ _ _ (by omega)]; omega
  have h2 : hiI (some (b : Int)) (some ((b : Int) + (c : Int))) (n - min a n) = min (b + c) (n - min a n) := by
    show (clampI ((b : Int) + (c : Int)) (loI (some (b : Int)) (n - min a n)) _).toNat = _
    rw [l2, show (b : Int) + (c : Int) = ((b + c : Nat) : Int) by omega, L _ _ _ (by omega)]
    omega
  have l3 : loI (some ((a : Int) + (b : Int))) n = min (a + b) n := by
    rw [show (a : Int) + (b : Int) = ((a + b : Nat) : Int) by omega]
    show (clampI ((a + b : Nat) : Int) (0 : Nat) n).toNat = _
    rw [L _ _ _ (by omega)]
    omega
  have h3 : hiI (some ((a : Int) + (b : Int))) (some ((a : Int) + (b : Int) + (c : Int))) n = min (a + b + c) n := by
    show (clampI ((a : Int) + (b : Int) + (c : Int)) (loI (some ((a : Int) + (b : Int))) n) _).toNat = _
    rw [l3, show (a : Int) + (b : Int) + (c : Int) = ((a + b + c : Nat) : Int) by omega, L _ _ _ (by omega)]
    omega
  rw [e1]
  unfold slV
  rw [ln, l2, h2, ← hn, l3, h3, part_part hx (by omega) (by omega) (by omega) (by omega)]
  congr 1 <;> omega
end Go.Proofs.YtcoahpcjhhnkkaaGreatDoor.NumA
