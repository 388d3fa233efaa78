/- What the functions of the reference that work on decimal texts give: plain mathematics over the printed functions. -/
import Derived.Test.YtaiidipcmnejoaaGreatDoorPwidex1
import Derived.Test.YtaiidipcmnejoaaGreatDoorPisDigitsx1
import Derived.Test.YtaiidipcmnejoaaGreatDoorPtogetherx1
import Derived.Test.YtaiidipcmnejoaaGreatDoorPlessx1
import Derived.Test.YtaiidipcmnejoaaGreatDoorDec
import Derived.Lib.Strings
import Derived.Lib.IndexBytes
namespace Go.Proofs.YtaiidipcmnejoaaGreatDoor.Spec
open Go.RowKit Go.Lib Go.Proofs.YtaiidipcmnejoaaGreatDoorW.PrintWords Go.Proofs.YtaiidipcmnejoaaGreatDoorW.PrintLast Go.Proofs.YtaiidipcmnejoaaGreatDoorW.PrintMore
open Go.Proofs.YtaiidipcmnejoaaGreatDoor.Dec

/-- A text by its bytes. -/
def S (l : List UInt8) : ByteArray := ⟨l.toArray⟩
theorem S_list (l : List UInt8) : (S l).data.toList = l := rfl
theorem S_toList (l : List UInt8) : (S l).toList = l := by rw [Lib.toList_data]; rfl
theorem S_size (l : List UInt8) : (S l).size = l.length := by simp [S, ByteArray.size]
theorem S_of (s : ByteArray) : S s.data.toList = s := by cases s; simp [S]
theorem S_ext {s : ByteArray} {l : List UInt8} (h : s.data.toList = l) : s = S l := by rw [← h, S_of]
theorem S_drop (l : List UInt8) (a n : Nat) (hn : n = l.length) : (S l).extract a n = S (l.drop a) := by
  subst hn
  apply S_ext
  have := Lib.extract_to_end (S l) a
  rw [S_size] at this
  exact this
theorem S_get (l : List UInt8) (i : Nat) (h : i < (S l).size) : (S l)[i] = l[i]'(by simpa [S_size] using h) := rfl
theorem bt_S (l : List UInt8) (i : Int) (h : i.toNat < l.length) : bt (S l) i = ((l[i.toNat]).toNat : Int) := by
  unfold bt
  rw [dif_pos (by simpa [S_size] using h)]
  rfl
theorem bt_S0 (c : UInt8) (l : List UInt8) : bt (S (c :: l)) 0 = (c.toNat : Int) := bt_S (c :: l) 0 (by simp)
theorem w64 (n : Int) (h0 : -9223372036854775808 ≤ n) (h1 : n ≤ 9223372036854775807) : wrap64 n = n := by unfold wrap64; omega

/-! ### below, digitsOf, IsWhole, wide -/
theorem below_f (l : List UInt8) : Pwide.spec_below.f (S l) = some (belowB l) := by
  unfold Pwide.spec_below.f belowB
  rw [S_size]
  cases l with
  | nil => simp
  | cons c l =>
    rw [if_pos (by simp only [List.length_cons]; omega), if_pos (by simp only [List.length_cons]; omega), bt_S0]
    congr 1
    rw [Bool.eq_iff_iff]
    simp only [beq_iff_eq, List.head?_cons, Option.some.injEq]
    constructor
    · intro h; exact toNat_inj (by simpa using (Int.ofNat.inj h))
    · rintro rfl; rfl
theorem digitsOf_f (l : List UInt8) : Pwide.spec_digitsOf.f (S l) = some (S (digitsB l)) := by
  unfold Pwide.spec_digitsOf.f digitsB
  rw [below_f, Option.bind_some]
  by_cases h : belowB l = true
  · rw [if_pos h, if_pos h]
    have : 1 ≤ l.length := by
      cases l with
      | nil => simp [belowB] at h
      | cons _ _ => simp
    rw [if_pos (by rw [S_size]; omega), S_drop _ _ _ (S_size l), List.drop_one]
  · rw [if_neg h, if_neg h]

theorem isWhole_l0 (l : List UInt8) (hl : l.length ≤ 140737488355328) (d : Nat) : ∀ (k i : Nat), i ≤ l.length → l.length - i = d → d < k →
    Pwide.spec_IsWhole.l0 k (S l) (i : Int) = some (allDig (l.drop i)) := by
  induction d with
  | zero =>
    intro k i hi hd hk
    obtain ⟨k, rfl⟩ : ∃ m, k = m + 1 := ⟨k - 1, by omega⟩
    simp only [Pwide.spec_IsWhole.l0]
    rw [if_neg (by rw [S_size]; omega), List.drop_of_length_le (by omega)]
    rfl
  | succ d ih =>
    intro k i hi hd hk
    obtain ⟨k, rfl⟩ : ∃ m, k = m + 1 := ⟨k - 1, by omega⟩
    simp only [Pwide.spec_IsWhole.l0]
    have hlt : i < l.length := by omega
    rw [if_pos (by rw [S_size]; omega), if_pos (by omega), bt_S l i (by simpa using hlt)]
    have e : l.drop i = l[i] :: l.drop (i + 1) := List.drop_eq_getElem_cons hlt
    have eall : allDig (l.drop i) = ((decide (48 ≤ (l[i]).toNat) && decide ((l[i]).toNat ≤ 57)) && allDig (l.drop (i + 1))) := by rw [e]; rfl
    rw [eall]
    have et : ((i : Int).toNat) = i := by omega
    simp only [et]
    by_cases h1 : ((l[i]).toNat : Int) < 48
    · rw [if_pos h1, decide_eq_false (by omega : ¬ 48 ≤ (l[i]).toNat)]; rfl
    · rw [if_neg h1]
      by_cases h2 : ((l[i]).toNat : Int) > 57
      · rw [if_pos h2, decide_eq_false (by omega : ¬ (l[i]).toNat ≤ 57)]; simp
      · rw [if_neg h2, w64 _ (by omega) (by omega), show ((i : Int) + 1) = ((i + 1 : Nat) : Int) by omega, ih k (i + 1) (by omega) (by omega) (by omega),
          decide_eq_true (by omega : 48 ≤ (l[i]).toNat), decide_eq_true (by omega : (l[i]).toNat ≤ 57)]
        rfl
theorem digitsB_le (l : List UInt8) : (digitsB l).length ≤ l.length := by
  unfold digitsB; split <;> simp
theorem isWhole_f (l : List UInt8) (hl : l.length ≤ 140737488355328) (k : Nat) (hk : l.length + 2 ≤ k) : Pwide.spec_IsWhole.f k (S l) = some (wholeB l) := by
  unfold Pwide.spec_IsWhole.f
  rw [digitsOf_f, Option.bind_some, S_size]
  have hle := digitsB_le l
  obtain ⟨k, rfl⟩ : ∃ m, k = m + 1 := ⟨k - 1, by omega⟩
  have hloop := isWhole_l0 (digitsB l) (by omega) (digitsB l).length k 0 (by omega) (by omega) (by omega)
  rw [List.drop_zero] at hloop
  simp only [Pwide.spec_IsWhole.j0]
  unfold wholeB
  cases hd : digitsB l with
  | nil => simp
  | cons c r =>
    rw [hd] at hloop
    rw [if_neg (by simp only [List.length_cons]; omega), if_pos (by simp only [List.length_cons]; omega), bt_S0, S_toList]
    by_cases h48 : (c.toNat : Int) = 48
    · have hc : c = 48 := toNat_inj (by simpa using (Int.ofNat.inj h48))
      subst hc
      rw [if_pos (by rfl)]
      by_cases hz : l = [48]
      · subst hz
        simp only [bne_self_eq_false, Bool.false_eq_true, if_false]
        erw [hloop]; simp
      · have : (l != [48]) = true := by simpa using hz
        rw [this, if_pos rfl]
        have h2 : (l == [48]) = false := by simpa using hz
        simp [h2]
    · rw [if_neg h48]
      have hc : (c == 48) = false := by
        rw [beq_eq_false_iff_ne]; rintro rfl; exact h48 rfl
      simp only [Bool.false_eq_true, if_false]
      erw [hloop]
      have hc' : c ≠ 48 := by simpa using hc
      simp [hc']

theorem wide_two (a b : List UInt8) (ha : a.length ≤ 140737488355328) (hb : b.length ≤ 140737488355328) (k : Nat) (hk : a.length + b.length + 10 ≤ k) :
    Pwide.laws_wide.f k [S a, S b] = some ((decide (a.length ≤ 400) && wholeB a) && (decide (b.length ≤ 400) && wholeB b)) := by
  unfold Pwide.laws_wide.f
  obtain ⟨k, rfl⟩ : ∃ m, k = m + 3 := ⟨k - 3, by omega⟩
  have e0 : rdOf ByteArray.empty [S a, S b] 0 = S a := rfl
  have e1 : rdOf ByteArray.empty [S a, S b] 1 = S b := rfl
  have e2 : wrap64 (1 + 1) = 2 := w64 _ (by omega) (by omega)
  have e3 : wrap64 (0 + 1) = 1 := w64 _ (by omega) (by omega)
  rw [Pwide.laws_wide.l0, if_pos (by simp), if_pos (by decide), if_pos (by simp), e0, S_size]
  by_cases h1 : (a.length : Int) > 400
  · rw [if_pos h1, decide_eq_false (by omega)]; rfl
  rw [if_neg h1, decide_eq_true (by omega : a.length ≤ 400), isWhole_f a ha _ (by omega), Option.bind_some]
  cases hwa : wholeB a with
  | false => rfl
  | true =>
    rw [if_pos rfl, e3, Pwide.laws_wide.l0, if_pos (by simp), if_pos (by decide), if_pos (by simp), e1, S_size]
    by_cases h2 : (b.length : Int) > 400
    · rw [if_pos h2, decide_eq_false (by omega)]; rfl
    rw [if_neg h2, decide_eq_true (by omega : b.length ≤ 400), isWhole_f b hb _ (by omega), Option.bind_some]
    cases hwb : wholeB b with
    | false => rfl
    | true => rw [if_pos rfl, e2, Pwide.laws_wide.l0, if_neg (by simp)]; rfl
theorem wide_one (a : List UInt8) (ha : a.length ≤ 140737488355328) (k : Nat) (hk : a.length + 10 ≤ k) :
    Pwide.laws_wide.f k [S a] = some (decide (a.length ≤ 400) && wholeB a) := by
  unfold Pwide.laws_wide.f
  obtain ⟨k, rfl⟩ : ∃ m, k = m + 2 := ⟨k - 2, by omega⟩
  have e0 : rdOf ByteArray.empty [S a] 0 = S a := rfl
  have e3 : wrap64 (0 + 1) = 1 := w64 _ (by omega) (by omega)
  rw [Pwide.laws_wide.l0, if_pos (by simp), if_pos (by decide), if_pos (by simp), e0, S_size]
  by_cases h1 : (a.length : Int) > 400
  · rw [if_pos h1, decide_eq_false (by omega)]; rfl
  rw [if_neg h1, decide_eq_true (by omega : a.length ≤ 400), isWhole_f a ha _ (by omega), Option.bind_some]
  cases hwa : wholeB a with
  | false => rfl
  | true => rw [if_pos rfl, e3, Pwide.laws_wide.l0, if_neg (by simp)]; rfl

/-! ### isDigits -/
theorem isDigits_l0 (l : List UInt8) (hl : l.length ≤ 140737488355328) (h : allDig l = true) (d : Nat) : ∀ (k i : Nat), i ≤ l.length → l.length - i = d → d < k →
    PisDigits.impl_isDigits.l0 k (S l) (l.length : Int) (i : Int) = PisDigits.impl_isDigits.l0 1 (S l) (l.length : Int) (l.length : Int) := by
  induction d with
  | zero =>
    intro k i hi hd hk
    obtain ⟨k, rfl⟩ : ∃ m, k = m + 1 := ⟨k - 1, by omega⟩
    have : i = l.length := by omega
    subst this
    simp only [PisDigits.impl_isDigits.l0]
    rw [if_neg (by omega), if_neg (show ¬ ((l.length : Int) < (l.length : Int)) by omega)]
  | succ d ih =>
    intro k i hi hd hk
    obtain ⟨k, rfl⟩ : ∃ m, k = m + 1 := ⟨k - 1, by omega⟩
    have hlt : i < l.length := by omega
    have hdig := (allDig_iff l).1 h l[i] (List.getElem_mem hlt)
    have et : ((i : Int).toNat) = i := by omega
    rw [PisDigits.impl_isDigits.l0, if_pos (by omega), if_pos (by omega), if_pos (by rw [S_size]; omega), bt_S l i (by simpa using hlt)]
    simp only [et]
    rw [if_neg (by omega), if_neg (by omega), w64 _ (by omega) (by omega), show ((i : Int) + 1) = ((i + 1 : Nat) : Int) by omega, ih k (i + 1) (by omega) (by omega) (by omega)]
theorem isDigits_dec (n : Nat) (hn : (decDigits n).length ≤ 140737488355328) (k : Nat) (hk : (decDigits n).length + 2 ≤ k) : PisDigits.impl_isDigits.f k (S (decDigits n)) = some true := by
  unfold PisDigits.impl_isDigits.f
  rw [S_size]
  have := isDigits_l0 (decDigits n) hn ((allDig_iff _).2 (isDig_decDigits n)) (decDigits n).length k 0 (by omega) (by omega) (by omega)
  erw [this]
  rw [PisDigits.impl_isDigits.l0, if_neg (by omega), S_toList]
  by_cases h0 : n = 0
  · subst h0; rw [if_pos decDigits_zero]
  · rw [if_neg (fun e => h0 (decDigits_eq48.1 e)), if_neg (decDigits_ne_nil n)]
    have hh := head_decDigits n h0
    cases hd : decDigits n with
    | nil => exact absurd hd (decDigits_ne_nil n)
    | cons c r =>
      rw [hd] at hh
      rw [if_pos (by rw [S_size]; simp only [List.length_cons]; omega), bt_S0]
      congr 1
      rw [bne_iff_ne]
      intro e
      apply hh
      have : c = 48 := toNat_inj (by simpa using (Int.ofNat.inj e))
      rw [this]; rfl

/-! ### together: signed, digitAt, textOf -/
theorem together_signed_f (neg : Bool) (k : Nat) : ∀ (l : List UInt8), l.length ≤ 140737488355328 → l.length + 1 ≤ k → Ptogether.spec_signed.f k neg (S l) = some (S (signedB neg l)) := by
  unfold Ptogether.spec_signed.f
  induction k with
  | zero => intro l _ hk; omega
  | succ k ih =>
    intro l hl hk
    have fin : ∀ m : List UInt8, m.length ≤ 140737488355328 → strip m = m → (if neg = true then (if (S m).toList = ([48] : List UInt8) then (some (S m)) else (if 1 + (S m).size ≤ 9223372036854775807 then (some ((⟨#[45]⟩ : ByteArray) ++ (S m))) else (none))) else (some (S m))) = some (S (signedB neg m)) := by
      intro m hm hs
      unfold signedB
      rw [hs, S_toList, S_size]
      cases neg with
      | false => rfl
      | true =>
        rw [if_pos rfl]
        by_cases h : m = [48]
        · subst h; rfl
        · rw [if_neg h, if_pos (by omega)]
          have : (m == [48]) = false := by simpa using h
          rw [this]
          simp only [Bool.not_false, Bool.and_self, if_true]
          congr 1
    simp only [Ptogether.spec_signed.l0]
    match l, hl, hk with
    | [], hl, hk =>
      rw [if_neg (by rw [S_size]; simp)]
      exact fin [] (by simp) rfl
    | [c], hl, hk =>
      rw [if_neg (by rw [S_size]; simp)]
      exact fin [c] (by simp) rfl
    | c :: d :: r, hl, hk =>
      rw [if_pos (by rw [S_size]; simp only [List.length_cons]; omega), if_pos (by rw [S_size]; simp only [List.length_cons]; omega), bt_S0]
      by_cases h48 : (c.toNat : Int) = 48
      · have hc : c = 48 := toNat_inj (by simpa using (Int.ofNat.inj h48))
        subst hc
        rw [if_pos (by rfl), if_pos (by rw [S_size]; simp only [List.length_cons]; omega), S_drop _ _ _ (S_size _), List.drop_one, List.tail_cons, ih (d :: r) (by simp only [List.length_cons] at hl ⊢; omega) (by simp only [List.length_cons] at hk ⊢; omega)]
        congr 2
      · rw [if_neg h48]
        refine fin _ hl ?_
        rw [strip, if_neg (by rintro rfl; exact h48 rfl)]

theorem together_digitAt_f (l : List UInt8) (h : isDig l) (hl : l.length ≤ 140737488355328) (i : Nat) (hi : i ≤ 140737488355328) : Ptogether.spec_digitAt.f (S l) (i : Int) = some ((be l / 10 ^ i % 10 : Nat) : Int) := by
  unfold Ptogether.spec_digitAt.f
  rw [S_size]
  by_cases hlt : i < l.length
  · rw [if_neg (by omega), w64 ((l.length : Int) - 1) (by omega) (by omega), w64 ((l.length : Int) - 1 - (i : Int)) (by omega) (by omega), if_pos (by omega), if_pos (by omega)]
    have et : ((l.length : Int) - 1 - (i : Int)).toNat = l.length - 1 - i := by omega
    rw [bt_S l _ (by omega)]
    simp only [et]
    have hd := digit_at l h i hlt
    have hr := h _ (List.getElem_mem (show l.length - 1 - i < l.length by omega))
    congr 1
    omega
  · rw [if_pos (by omega), digit_above l h i (by omega)]; rfl

theorem together_textOf_l0 (l : List Int) (hd : digs l) (hl : l.length ≤ 1000000000) (n : Nat) : ∀ (k i : Nat) (x3 : List Int), i ≤ l.length → l.length - i = n → n + l.length + 3 ≤ k → x3.length = l.length →
    x3.drop (l.length - i) = ((l.take i).reverse.map fun d => 48 + d) →
    Ptogether.spec_textOf.l0 k l x3 l (l.length : Int) (i : Int) = some (S (signedB false (chars l))) := by
  induction n with
  | zero =>
    intro k i x3 hi hn hk hx he
    obtain ⟨k, rfl⟩ : ∃ m, k = m + 1 := ⟨k - 1, by omega⟩
    have : i = l.length := by omega
    subst this
    simp only [Ptogether.spec_textOf.l0]
    rw [if_neg (by omega)]
    rw [Nat.sub_self, List.drop_zero, List.take_length] at he
    have es : strOfNums x3 = S (chars l) := by
      apply S_ext
      rw [he]
      simp only [strOfNums, chars, List.map_map]
      congr 1
    rw [es, together_signed_f false k (chars l) (by rw [chars_length]; omega) (by rw [chars_length]; omega)]
    rfl
  | succ n ih =>
    intro k i x3 hi hn hk hx he
    obtain ⟨k, rfl⟩ : ∃ m, k = m + 1 := ⟨k - 1, by omega⟩
    have hlt : i < l.length := by omega
    have hdi := hd l[i] (List.getElem_mem hlt)
    have erd : rd l (i : Int) = l[i] := by
      unfold rd
      rw [show ((i : Int)).toNat = i by omega, List.getD_eq_getElem?_getD, List.getElem?_eq_getElem hlt]; rfl
    simp only [Ptogether.spec_textOf.l0]
    rw [if_pos (by omega), if_pos (by omega), if_pos (by omega), w64 ((l.length : Int) - 1) (by omega) (by omega), w64 ((l.length : Int) - 1 - (i : Int)) (by omega) (by omega), if_pos (by omega), if_pos (by omega),
      w64 ((i : Int) + 1) (by omega) (by omega), show ((i : Int) + 1) = ((i + 1 : Nat) : Int) by omega, erd, w64 _ (by omega) (by omega), show ((l.length : Int) - 1 - (i : Int)).toNat = l.length - 1 - i by omega, show (48 + l[i]) % 256 = 48 + l[i] by omega]
    refine ih k (i + 1) _ (by omega) (by omega) (by omega) (by rw [List.length_set]; exact hx) ?_
    have e1 : l.take (i + 1) = l.take i ++ [l[i]] := by rw [List.take_add_one, List.getElem?_eq_getElem hlt]; rfl
    rw [e1, List.reverse_append, List.map_append, ← he, show l.length - (i + 1) = l.length - 1 - i by omega]
    have hj : l.length - 1 - i < x3.length := by omega
    rw [List.drop_eq_getElem_cons (by rw [List.length_set]; exact hj), List.getElem_set_self, List.drop_set_of_lt (by omega), show l.length - 1 - i + 1 = l.length - i by omega]
    rfl
theorem together_textOf_f (l : List Int) (hd : digs l) (h0 : l ≠ []) (hl : l.length ≤ 1000000000) (k : Nat) (hk : 2 * l.length + 3 ≤ k) : Ptogether.spec_textOf.f k l = some (S (decDigits (le l).toNat)) := by
  unfold Ptogether.spec_textOf.f
  rw [if_pos (by omega), if_pos (by omega)]
  have := together_textOf_l0 l hd hl l.length k 0 (List.replicate ((l.length : Int)).toNat 0) (by omega) (by omega) (by omega) (by simp) (by simp)
  erw [this]
  have hc0 : chars l ≠ [] := fun e => h0 (List.length_eq_zero_iff.1 (by rw [← chars_length, e]; rfl))
  have h1 := le_nonneg l hd
  rw [signed_eq false _ (chars_dig l hd) hc0, be_chars l hd, if_neg (by decide), itoa_pos _ (by omega)]
  rfl

/-! ### less: signed, digitAt, textOf -/
theorem less_signed_f (neg : Bool) (k : Nat) : ∀ (l : List UInt8), l.length ≤ 140737488355328 → l.length + 1 ≤ k → Pless.spec_signed.f k neg (S l) = some (S (signedB neg l)) := by
  unfold Pless.spec_signed.f
  induction k with
  | zero => intro l _ hk; omega
  | succ k ih =>
    intro l hl hk
    have fin : ∀ m : List UInt8, m.length ≤ 140737488355328 → strip m = m → (if neg = true then (if (S m).toList = ([48] : List UInt8) then (some (S m)) else (if 1 + (S m).size ≤ 9223372036854775807 then (some ((⟨#[45]⟩ : ByteArray) ++ (S m))) else (none))) else (some (S m))) = some (S (signedB neg m)) := by
      intro m hm hs
      unfold signedB
      rw [hs, S_toList, S_size]
      cases neg with
      | false => rfl
      | true =>
        rw [if_pos rfl]
        by_cases h : m = [48]
        · subst h; rfl
        · rw [if_neg h, if_pos (by omega)]
          have : (m == [48]) = false := by simpa using h
          rw [this]
          simp only [Bool.not_false, Bool.and_self, if_true]
          congr 1
    simp only [Pless.spec_signed.l0]
    match l, hl, hk with
    | [], hl, hk =>
      rw [if_neg (by rw [S_size]; simp)]
      exact fin [] (by simp) rfl
    | [c], hl, hk =>
      rw [if_neg (by rw [S_size]; simp)]
      exact fin [c] (by simp) rfl
    | c :: d :: r, hl, hk =>
      rw [if_pos (by rw [S_size]; simp only [List.length_cons]; omega), if_pos (by rw [S_size]; simp only [List.length_cons]; omega), bt_S0]
      by_cases h48 : (c.toNat : Int) = 48
      · have hc : c = 48 := toNat_inj (by simpa using (Int.ofNat.inj h48))
        subst hc
        rw [if_pos (by rfl), if_pos (by rw [S_size]; simp only [List.length_cons]; omega), S_drop _ _ _ (S_size _), List.drop_one, List.tail_cons, ih (d :: r) (by simp only [List.length_cons] at hl ⊢; omega) (by simp only [List.length_cons] at hk ⊢; omega)]
        congr 2
      · rw [if_neg h48]
        refine fin _ hl ?_
        rw [strip, if_neg (by rintro rfl; exact h48 rfl)]

theorem less_digitAt_f (l : List UInt8) (h : isDig l) (hl : l.length ≤ 140737488355328) (i : Nat) (hi : i ≤ 140737488355328) : Pless.spec_digitAt.f (S l) (i : Int) = some ((be l / 10 ^ i % 10 : Nat) : Int) := by
  unfold Pless.spec_digitAt.f
  rw [S_size]
  by_cases hlt : i < l.length
  · rw [if_neg (by omega), w64 ((l.length : Int) - 1) (by omega) (by omega), w64 ((l.length : Int) - 1 - (i : Int)) (by omega) (by omega), if_pos (by omega), if_pos (by omega)]
    have et : ((l.length : Int) - 1 - (i : Int)).toNat = l.length - 1 - i := by omega
    rw [bt_S l _ (by omega)]
    simp only [et]
    have hd := digit_at l h i hlt
    have hr := h _ (List.getElem_mem (show l.length - 1 - i < l.length by omega))
    congr 1
    omega
  · rw [if_pos (by omega), digit_above l h i (by omega)]; rfl

theorem less_textOf_l0 (l : List Int) (hd : digs l) (hl : l.length ≤ 1000000000) (n : Nat) : ∀ (k i : Nat) (x3 : List Int), i ≤ l.length → l.length - i = n → n + l.length + 3 ≤ k → x3.length = l.length →
    x3.drop (l.length - i) = ((l.take i).reverse.map fun d => 48 + d) →
    Pless.spec_textOf.l0 k l x3 l (l.length : Int) (i : Int) = some (S (signedB false (chars l))) := by
  induction n with
  | zero =>
    intro k i x3 hi hn hk hx he
    obtain ⟨k, rfl⟩ : ∃ m, k = m + 1 := ⟨k - 1, by omega⟩
    have : i = l.length := by omega
    subst this
    simp only [Pless.spec_textOf.l0]
    rw [if_neg (by omega)]
    rw [Nat.sub_self, List.drop_zero, List.take_length] at he
    have es : strOfNums x3 = S (chars l) := by
      apply S_ext
      rw [he]
      simp only [strOfNums, chars, List.map_map]
      congr 1
    rw [es, less_signed_f false k (chars l) (by rw [chars_length]; omega) (by rw [chars_length]; omega)]
    rfl
  | succ n ih =>
    intro k i x3 hi hn hk hx he
    obtain ⟨k, rfl⟩ : ∃ m, k = m + 1 := ⟨k - 1, by omega⟩
    have hlt : i < l.length := by omega
    have hdi := hd l[i] (List.getElem_mem hlt)
    have erd : rd l (i : Int) = l[i] := by
      unfold rd
      rw [show ((i : Int)).toNat = i by omega, List.getD_eq_getElem?_getD, List.getElem?_eq_getElem hlt]; rfl
    simp only [Pless.spec_textOf.l0]
    rw [if_pos (by omega), if_pos (by omega), if_pos (by omega), w64 ((l.length : Int) - 1) (by omega) (by omega), w64 ((l.length : Int) - 1 - (i : Int)) (by omega) (by omega), if_pos (by omega), if_pos (by omega),
      w64 ((i : Int) + 1) (by omega) (by omega), show ((i : Int) + 1) = ((i + 1 : Nat) : Int) by omega, erd, w64 _ (by omega) (by omega), show ((l.length : Int) - 1 - (i : Int)).toNat = l.length - 1 - i by omega, show (48 + l[i]) % 256 = 48 + l[i] by omega]
    refine ih k (i + 1) _ (by omega) (by omega) (by omega) (by rw [List.length_set]; exact hx) ?_
    have e1 : l.take (i + 1) = l.take i ++ [l[i]] := by rw [List.take_add_one, List.getElem?_eq_getElem hlt]; rfl
    rw [e1, List.reverse_append, List.map_append, ← he, show l.length - (i + 1) = l.length - 1 - i by omega]
    have hj : l.length - 1 - i < x3.length := by omega
    rw [List.drop_eq_getElem_cons (by rw [List.length_set]; exact hj), List.getElem_set_self, List.drop_set_of_lt (by omega), show l.length - 1 - i + 1 = l.length - i by omega]
    rfl
theorem less_textOf_f (l : List Int) (hd : digs l) (h0 : l ≠ []) (hl : l.length ≤ 1000000000) (k : Nat) (hk : 2 * l.length + 3 ≤ k) : Pless.spec_textOf.f k l = some (S (decDigits (le l).toNat)) := by
  unfold Pless.spec_textOf.f
  rw [if_pos (by omega), if_pos (by omega)]
  have := less_textOf_l0 l hd hl l.length k 0 (List.replicate ((l.length : Int)).toNat 0) (by omega) (by omega) (by omega) (by simp) (by simp)
  erw [this]
  have hc0 : chars l ≠ [] := fun e => h0 (List.length_eq_zero_iff.1 (by rw [← chars_length, e]; rfl))
  have h1 := le_nonneg l hd
  rw [signed_eq false _ (chars_dig l hd) hc0, be_chars l hd, if_neg (by decide), itoa_pos _ (by omega)]
  rfl

/-! ### places -/
theorem mod_next (A i : Nat) : A % 10 ^ (i + 1) = A % 10 ^ i + (A / 10 ^ i % 10) * 10 ^ i := by
  rw [Nat.pow_succ, Nat.mod_mul, Nat.mul_comm]
theorem le_lt : ∀ l : List Int, digs l → le l < 10 ^ l.length
  | [], _ => by simp [le]
  | d :: r, h => by
    have h1 := h d (List.mem_cons_self ..)
    have h2 := le_lt r fun x hx => h x (List.mem_cons_of_mem _ hx)
    simp only [le, List.length_cons, Int.pow_succ]
    omega
theorem pow_cast (i : Nat) : ((10 ^ i : Nat) : Int) = (10 : Int) ^ i := by simp
theorem add_step (A B i : Nat) (out : List Int) (c n : Int) (hl : out.length = i) (hinv : le out + c * 10 ^ i = ((A % 10 ^ i + B % 10 ^ i : Nat) : Int))
    (hn : n = ((A / 10 ^ i % 10 : Nat) : Int) + ((B / 10 ^ i % 10 : Nat) : Int) + c) :
    le (out ++ [n % 10]) + (n / 10) * 10 ^ (i + 1) = ((A % 10 ^ (i + 1) + B % 10 ^ (i + 1) : Nat) : Int) := by
  rw [le_snoc, hl, mod_next, mod_next, Int.pow_succ]
  have e : n = n % 10 + 10 * (n / 10) := by omega
  have e2 : n % 10 * 10 ^ i + n / 10 * (10 ^ i * 10) = n * 10 ^ i := by
    conv => rhs; rw [e]
    rw [Int.add_mul, Int.mul_comm (10 ^ i) 10, ← Int.mul_assoc, Int.mul_comm (n / 10) 10]
  rw [Int.add_assoc, e2, hn]
  have h3 := hinv
  simp only [Int.natCast_add, Int.natCast_mul, pow_cast] at *
  rw [Int.add_mul, Int.add_mul]
  omega
theorem sub_step (A B i : Nat) (out : List Int) (c n c' d : Int) (hl : out.length = i) (hinv : le out = ((A % 10 ^ i : Nat) : Int) - ((B % 10 ^ i : Nat) : Int) + c * 10 ^ i)
    (hn : n = ((A / 10 ^ i % 10 : Nat) : Int) - ((B / 10 ^ i % 10 : Nat) : Int) - c) (hd : d = n + 10 * c') :
    le (out ++ [d]) = ((A % 10 ^ (i + 1) : Nat) : Int) - ((B % 10 ^ (i + 1) : Nat) : Int) + c' * 10 ^ (i + 1) := by
  rw [le_snoc, hl, mod_next, mod_next, Int.pow_succ, hd, hn]
  have h3 := hinv
  have e : c' * (10 ^ i * 10) = 10 * c' * 10 ^ i := by rw [Int.mul_comm (10 ^ i) 10, ← Int.mul_assoc, Int.mul_comm c' 10]
  rw [e]
  simp only [Int.natCast_add, Int.natCast_mul, pow_cast] at *
  simp only [Int.add_mul, Int.sub_mul]
  omega

/-! ### together: the sum of digits -/
theorem below_pow (X : List UInt8) (hX : isDig X) (i : Nat) (hi : X.length ≤ i) : be X % 10 ^ i = be X := by
  have h1 := be_lt X hX
  have h2 : 10 ^ X.length ≤ 10 ^ i := Nat.pow_le_pow_right (by decide) hi
  exact Nat.mod_eq_of_lt (by omega)
theorem together_j1 (X Y : List UInt8) (hX : isDig X) (hY : isDig Y) (hXl : X.length ≤ 1000000) (hYl : Y.length ≤ 1000000) (k i : Nat) (hi : i ≤ 2000002) (out : List Int) (c : Int) (hl : out.length = i) (hc0 : 0 ≤ c) (hc1 : c ≤ 1)
    (a b n : Int) (ha : a = ((be X / 10 ^ i % 10 : Nat) : Int)) (hb : b = ((be Y / 10 ^ i % 10 : Nat) : Int)) (hn : n = a + b + c) :
    Ptogether.spec_together.j1 (k + 1) (S X) (S Y) out c (i : Int) true = Ptogether.spec_together.l0 k (S X) (S Y) (out ++ [n % 10]) (n / 10) ((i + 1 : Nat) : Int) := by
  have ha9 : 0 ≤ a ∧ a ≤ 9 := by omega
  have hb9 : 0 ≤ b ∧ b ≤ 9 := by omega
  rw [Ptogether.spec_together.j1, if_pos rfl, together_digitAt_f X hX (by omega) i (by omega), Option.bind_some, together_digitAt_f Y hY (by omega) i (by omega), Option.bind_some, ← ha, ← hb, if_pos (by omega), w64 (a + b) (by omega) (by omega), w64 (a + b + c) (by omega) (by omega), ← hn,
    Int.tdiv_eq_ediv_of_nonneg (by omega), Int.tmod_eq_emod_of_nonneg (by omega), w64 (n / 10) (by omega) (by omega), w64 _ (by omega) (by omega)]
  rfl
theorem together_l0 (X Y : List UInt8) (hX : isDig X) (hY : isDig Y) (hXl : X.length ≤ 1000000) (hYl : Y.length ≤ 1000000) (n : Nat) :
    ∀ (k i : Nat) (out : List Int) (c : Int), i + n = max X.length Y.length + 1 → 4 * max X.length Y.length + 2 * n + 20 ≤ k → 1 ≤ i → out.length = i → digs out → 0 ≤ c → c ≤ 1 →
    le out + c * 10 ^ i = ((be X % 10 ^ i + be Y % 10 ^ i : Nat) : Int) →
    Ptogether.spec_together.l0 k (S X) (S Y) out c (i : Int) = some (S (decDigits (be X + be Y))) := by
  have stop : ∀ (k i : Nat) (out : List Int) (c : Int), i ≤ max X.length Y.length + 1 → 2 * max X.length Y.length + 10 ≤ k → 1 ≤ i → out.length = i → digs out → X.length ≤ i → Y.length ≤ i → c = 0 →
      le out + c * 10 ^ i = ((be X % 10 ^ i + be Y % 10 ^ i : Nat) : Int) → Ptogether.spec_together.l0 k (S X) (S Y) out c (i : Int) = some (S (decDigits (be X + be Y))) := by
    intro k i out c hi hk h1 hl hd hx hy hc hinv
    obtain ⟨k, rfl⟩ : ∃ m, k = m + 2 := ⟨k - 2, by omega⟩
    rw [below_pow X hX i hx, below_pow Y hY i hy] at hinv
    subst hc
    rw [Ptogether.spec_together.l0, if_neg (by rw [S_size]; omega), if_neg (by rw [S_size]; omega), decide_eq_false (by omega), Ptogether.spec_together.j1, if_neg (by decide),
      together_textOf_f out hd (fun e => by rw [e] at hl; simp at hl; omega) (by omega) k (by omega), Option.bind_some]
    congr 3
    omega
  induction n with
  | zero =>
    intro k i out c hi hk h1 hl hd hc0 hc1 hinv
    have hx : X.length ≤ i := by omega
    have hy : Y.length ≤ i := by omega
    refine stop k i out c (by omega) (by omega) h1 hl hd hx hy ?_ hinv
    rw [below_pow X hX i hx, below_pow Y hY i hy] at hinv
    have b1 := be_lt X hX
    have b2 := be_lt Y hY
    have p1 : 10 ^ X.length ≤ 10 ^ (i - 1) := Nat.pow_le_pow_right (by decide) (by omega)
    have p2 : 10 ^ Y.length ≤ 10 ^ (i - 1) := Nat.pow_le_pow_right (by decide) (by omega)
    have p3 : (10 : Nat) ^ i = 10 ^ (i - 1) * 10 := by rw [← Nat.pow_succ]; congr 1; omega
    have p4 := pow_cast i
    have h5 := le_nonneg out hd
    rw [← p4] at hinv
    by_cases hc : c = 0
    · exact hc
    · exfalso
      have : c = 1 := by omega
      subst this
      omega
  | succ n ih =>
    intro k i out c hi hk h1 hl hd hc0 hc1 hinv
    obtain ⟨k, rfl⟩ : ∃ m, k = m + 2 := ⟨k - 2, by omega⟩
    obtain ⟨a, ha⟩ : ∃ a : Int, a = ((be X / 10 ^ i % 10 : Nat) : Int) := ⟨_, rfl⟩
    obtain ⟨b, hb⟩ : ∃ b : Int, b = ((be Y / 10 ^ i % 10 : Nat) : Int) := ⟨_, rfl⟩
    obtain ⟨m, hm⟩ : ∃ m : Int, m = a + b + c := ⟨_, rfl⟩
    have hj := together_j1 X Y hX hY hXl hYl k i (by omega) out c hl hc0 hc1 a b m ha hb hm
    have hgo : Ptogether.spec_together.j1 (k + 1) (S X) (S Y) out c (i : Int) true = some (S (decDigits (be X + be Y))) := by
      rw [hj]
      refine ih k (i + 1) _ _ (by omega) (by omega) (by omega) (by simp [hl]) (digs_snoc hd (by omega) (by omega)) (by omega) (by omega) ?_
      exact add_step (be X) (be Y) i out c m hl hinv (by rw [hm, ha, hb])
    rw [Ptogether.spec_together.l0]
    by_cases hx : (i : Int) < ((S X).size : Int)
    · rw [if_pos hx]; exact hgo
    · rw [if_neg hx]
      by_cases hy : (i : Int) < ((S Y).size : Int)
      · rw [if_pos hy]; exact hgo
      · rw [if_neg hy]
        by_cases hc : c > 0
        · rw [decide_eq_true hc]; exact hgo
        · rw [S_size] at hx hy
          have := stop (k + 2) i out c (by omega) (by omega) h1 hl hd (by omega) (by omega) (by omega) hinv
          rw [Ptogether.spec_together.l0, if_neg (by rw [S_size]; omega), if_neg (by rw [S_size]; omega)] at this
          exact this
theorem together_f (X Y : List UInt8) (hX : isDig X) (hY : isDig Y) (hXl : X.length ≤ 1000000) (hYl : Y.length ≤ 1000000) (h0 : X ≠ []) (k : Nat) (hk : 6 * max X.length Y.length + 30 ≤ k) :
    Ptogether.spec_together.f k (S X) (S Y) = some (S (decDigits (be X + be Y))) := by
  unfold Ptogether.spec_together.f
  have hx1 : 1 ≤ X.length := by
    cases X with
    | nil => exact absurd rfl h0
    | cons _ _ => simp
  obtain ⟨k, rfl⟩ : ∃ m, k = m + 2 := ⟨k - 2, by omega⟩
  rw [Ptogether.spec_together.l0, if_pos (by rw [S_size]; omega)]
  obtain ⟨a, ha⟩ : ∃ a : Int, a = ((be X / 10 ^ 0 % 10 : Nat) : Int) := ⟨_, rfl⟩
  obtain ⟨b, hb⟩ : ∃ b : Int, b = ((be Y / 10 ^ 0 % 10 : Nat) : Int) := ⟨_, rfl⟩
  have hj := together_j1 X Y hX hY hXl hYl k 0 (by omega) [] 0 rfl (by omega) (by omega) a b (a + b + 0) ha hb rfl
  refine Eq.trans hj ?_
  refine together_l0 X Y hX hY hXl hYl (max X.length Y.length) k 1 _ _ (by omega) (by omega) (by omega) rfl (digs_snoc (fun _ h => by cases h) (by omega) (by omega)) (by omega) (by omega) ?_
  exact add_step (be X) (be Y) 0 [] 0 (a + b + 0) rfl (by simp [le, Nat.mod_one]) (by rw [ha, hb])

/-! ### less: the difference of digits -/
theorem less_l0 (X Y : List UInt8) (hX : isDig X) (hY : isDig Y) (hXl : X.length ≤ 1000000) (hYl : Y.length ≤ 1000000) (h0 : X ≠ []) (hge : be Y ≤ be X) (n : Nat) :
    ∀ (k i : Nat) (out : List Int) (c : Int), i + n = X.length → 2 * X.length + n + 10 ≤ k → out.length = i → digs out → 0 ≤ c → c ≤ 1 →
    le out = ((be X % 10 ^ i : Nat) : Int) - ((be Y % 10 ^ i : Nat) : Int) + c * 10 ^ i →
    Pless.spec_less.l0 k (S X) (S Y) out c (i : Int) = some (S (decDigits (be X - be Y))) := by
  induction n with
  | zero =>
    intro k i out c hi hk hl hd hc0 hc1 hinv
    obtain ⟨k, rfl⟩ : ∃ m, k = m + 1 := ⟨k - 1, by omega⟩
    have b1 := be_lt X hX
    have hi' : i = X.length := by omega
    rw [← hi'] at b1
    rw [Nat.mod_eq_of_lt b1, Nat.mod_eq_of_lt (by omega)] at hinv
    have h5 := le_lt out hd
    rw [hl, ← pow_cast i] at h5
    rw [← pow_cast i] at hinv
    have hc : c = 0 := by
      by_cases hc : c = 0
      · exact hc
      · have : c = 1 := by omega
        subst this; omega
    subst hc
    rw [Pless.spec_less.l0, if_neg (by rw [S_size]; omega),
      less_textOf_f out hd (fun e => by rw [e] at hl; simp at hl; exact h0 (List.length_eq_zero_iff.1 (by omega))) (by omega) k (by omega), Option.bind_some]
    congr 3
    omega
  | succ n ih =>
    intro k i out c hi hk hl hd hc0 hc1 hinv
    obtain ⟨k, rfl⟩ : ∃ m, k = m + 1 := ⟨k - 1, by omega⟩
    obtain ⟨a, ha⟩ : ∃ a : Int, a = ((be X / 10 ^ i % 10 : Nat) : Int) := ⟨_, rfl⟩
    obtain ⟨b, hb⟩ : ∃ b : Int, b = ((be Y / 10 ^ i % 10 : Nat) : Int) := ⟨_, rfl⟩
    have ha9 : 0 ≤ a ∧ a ≤ 9 := by omega
    have hb9 : 0 ≤ b ∧ b ≤ 9 := by omega
    rw [Pless.spec_less.l0, if_pos (by rw [S_size]; omega), less_digitAt_f X hX (by omega) i (by omega), Option.bind_some, less_digitAt_f Y hY (by omega) i (by omega), Option.bind_some, ← ha, ← hb,
      w64 (a - b) (by omega) (by omega), w64 (a - b - c) (by omega) (by omega), w64 ((i : Int) + 1) (by omega) (by omega)]
    have e1 : ((i : Int) + 1) = ((i + 1 : Nat) : Int) := by omega
    rw [e1]
    by_cases hneg : a - b - c < 0
    · rw [if_pos hneg, if_pos (by omega), w64 (a - b - c + 10) (by omega) (by omega)]
      refine ih k (i + 1) _ _ (by omega) (by omega) (by simp [hl]) (digs_snoc hd (by omega) (by omega)) (by omega) (by omega) ?_
      exact sub_step (be X) (be Y) i out c (a - b - c) 1 _ hl hinv (by rw [ha, hb]) (by omega)
    · rw [if_neg hneg, if_pos (by omega)]
      refine ih k (i + 1) _ _ (by omega) (by omega) (by simp [hl]) (digs_snoc hd (by omega) (by omega)) (by omega) (by omega) ?_
      exact sub_step (be X) (be Y) i out c (a - b - c) 0 _ hl hinv (by rw [ha, hb]) (by omega)
theorem less_f (X Y : List UInt8) (hX : isDig X) (hY : isDig Y) (hXl : X.length ≤ 1000000) (hYl : Y.length ≤ 1000000) (h0 : X ≠ []) (hge : be Y ≤ be X) (k : Nat) (hk : 3 * X.length + 10 ≤ k) :
    Pless.spec_less.f k (S X) (S Y) = some (S (decDigits (be X - be Y))) := by
  unfold Pless.spec_less.f
  exact less_l0 X Y hX hY hXl hYl h0 hge X.length k 0 [] 0 (by omega) (by omega) rfl (fun _ h => by cases h) (by omega) (by omega) (by simp [le, Nat.mod_one])
end Go.Proofs.YtaiidipcmnejoaaGreatDoor.Spec
