import Derived.Lib.ItoaNum
import GoSem.Op.String
import Derived.Test.YtaiidipcmnejoaaGreatDoorPwidex1
import Derived.Test.YtaiidipcmnejoaaGreatDoorPisDigitsx1
import Derived.Lib.Strings
import Derived.Lib.IndexBytes

/- Plain mathematics: decimal texts of integers, digit lists and their values. No program. -/
namespace Go.Proofs.YtaiidipcmnejoaaGreatDoor.Dec
open Go.Lib

theorem snoc_cases {α : Type} (l : List α) : l = [] ∨ ∃ r d, l = r ++ [d] := by
 rcases List.eq_nil_or_concat l with h | ⟨r, d, h⟩
 ·
  exact .inl h
 ·
  exact .inr ⟨r, d, by simpa using h⟩

/-! ### Digits, the highest first -/
def isDig (l : List UInt8) : Prop := ∀ c ∈ l, 48 ≤ c.toNat ∧ c.toNat ≤ 57
def be (l : List UInt8) : Nat := l.foldl (fun a c => 10 * a + (c.toNat - 48)) 0

theorem be_nil : be [] = 0 := rfl
theorem be_snoc (l : List UInt8) (c : UInt8) : be (l ++ [c]) = 10 * be l + (c.toNat - 48) := by simp [be]
theorem fold_shift (l : List UInt8) : ∀ a : Nat, l.foldl (fun a c => 10 * a + (c.toNat - 48)) a = a * 10 ^ l.length + be l := by
 induction l with
 | nil => intro a; simp [be]
 | cons c l ih =>
  intro a
  have h2 := ih (10 * 0 + (c.toNat - 48))
  simp only [List.foldl_cons, be, List.length_cons] at *
  rw [ih, h2, Nat.pow_succ, Nat.add_mul, Nat.mul_comm 10 a, Nat.mul_assoc, Nat.mul_comm 10 (10 ^ l.length)]
  simp only [Nat.mul_zero, Nat.zero_add]
  omega
theorem be_cons (c : UInt8) (l : List UInt8) : be (c :: l) = (c.toNat - 48) * 10 ^ l.length + be l := by
 have := fold_shift l (10 * 0 + (c.toNat - 48))
 simpa [be] using this
theorem be_zero_cons (l : List UInt8) : be (48 :: l) = be l := by rw [be_cons]; simp
theorem isDig_tail {c : UInt8} {l : List UInt8} (h : isDig (c :: l)) : isDig l := fun x hx => h x (List.mem_cons_of_mem _ hx)
theorem isDig_head {c : UInt8} {l : List UInt8} (h : isDig (c :: l)) : 48 ≤ c.toNat ∧ c.toNat ≤ 57 := h c (List.mem_cons_self ..)
theorem isDig_append {l r : List UInt8} (h : isDig l) (k : isDig r) : isDig (l ++ r) := fun c hc => (List.mem_append.1 hc).elim (h c) (k c)
theorem isDig_left {l r : List UInt8} (h : isDig (l ++ r)) : isDig l := fun c hc => h c (List.mem_append_left _ hc)
theorem isDig_right {l r : List UInt8} (h : isDig (l ++ r)) : isDig r := fun c hc => h c (List.mem_append_right _ hc)
theorem be_lt : ∀ (l : List UInt8), isDig l → be l < 10 ^ l.length
 | [], _ => by simp [be]
 | c :: l, h => by
  have ih := be_lt l (isDig_tail h)
  have hc := isDig_head h
  rw [be_cons, List.length_cons, Nat.pow_succ]
  have : (c.toNat - 48) * 10 ^ l.length ≤ 9 * 10 ^ l.length := Nat.mul_le_mul_right _ (by omega)
  omega
theorem toNat_inj {a b : UInt8} (h : a.toNat = b.toNat) : a = b := UInt8.toNat_inj.1 h
theorem be_pos {c : UInt8} {l : List UInt8} (h : isDig (c :: l)) (hc : c ≠ 48) : 10 ^ l.length ≤ be (c :: l) := by
 have h1 := isDig_head h
 have h2 : c.toNat ≠ 48 := fun e => hc (toNat_inj (by simpa using e))
 rw [be_cons]
 have : 1 * 10 ^ l.length ≤ (c.toNat - 48) * 10 ^ l.length := Nat.mul_le_mul_right _ (by omega)
 omega

theorem ofNat_digit {c : UInt8} (h : 48 ≤ c.toNat ∧ c.toNat ≤ 57) : UInt8.ofNat (48 + (c.toNat - 48)) = c := by
 apply toNat_inj
 rw [show 48 + (c.toNat - 48) = c.toNat by omega]
 simp

/-- Digits without a zero in front are the numeral of their value. -/
theorem decDigits_be (l : List UInt8) (h : isDig l) (h0 : l ≠ []) (hc : l.head? ≠ some 48 ∨ l.length = 1) : decDigits (be l) = l := by
 generalize hn : l.length = n
 induction n generalizing l with
 | zero => exact absurd (List.length_eq_zero_iff.1 hn) h0
 | succ n ih =>
  rcases snoc_cases l with rfl | ⟨r, d, rfl⟩
  ·
   exact absurd rfl h0
  have hd := isDig_right h d (by simp)
  by_cases hr : r = []
  ·
   subst hr
   have he : be ([] ++ [d]) = d.toNat - 48 := by simp [be]
   rw [he, decDigits, dif_pos (by omega), ofNat_digit hd]; rfl
  ·
   have hl : r.length = n := by simpa using hn
   have hh : r.head? ≠ some 48 := by
    rcases hc with hc | hc
    ·
     intro e; apply hc
     cases r with
     | nil => exact absurd rfl hr
     | cons a r => simpa using e
    ·
     exfalso
     have : r.length ≠ 0 := fun e => hr (List.length_eq_zero_iff.1 e)
     simp at hc; exact hr hc
   have ih' := ih r (isDig_left h) hr (.inl hh) hl
   have hb : 1 ≤ be r := by
    cases r with
    | nil => exact absurd rfl hr
    | cons a r =>
     have := be_pos (isDig_left h) (c := a) (l := r) (fun e => hh (by simp [e]))
     have hp : 1 ≤ 10 ^ r.length := Nat.one_le_pow _ _ (by decide)
     omega
   rw [be_snoc, decDigits, dif_neg (by omega), show (10 * be r + (d.toNat - 48)) / 10 = be r by omega, show (10 * be r + (d.toNat - 48)) % 10 = d.toNat - 48 by omega, ih', ofNat_digit hd]

theorem digit_ok (n : Nat) (h : n < 10) : (UInt8.ofNat (48 + n)).toNat = 48 + n := by
 rw [UInt8.toNat_ofNat']; omega

theorem isDig_decDigits (n : Nat) : isDig (decDigits n) := by
 induction n using Nat.strongRecOn with
 | _ n ih =>
  rw [decDigits]
  split
  ·
   intro c hc
   rw [List.mem_singleton] at hc; subst hc
   rw [digit_ok _ (by omega)]; omega
  ·
   refine isDig_append (ih _ (by omega)) fun c hc => ?_
   rw [List.mem_singleton] at hc; subst hc
   rw [digit_ok _ (by omega)]; omega
theorem decDigits_ne_nil (n : Nat) : decDigits n ≠ [] := by
 rw [decDigits]; split <;> simp
theorem be_decDigits (n : Nat) : be (decDigits n) = n := by
 induction n using Nat.strongRecOn with
 | _ n ih =>
  rw [decDigits]
  split
  ·
   have := digit_ok n (by omega)
   show 10 * 0 + ((UInt8.ofNat (48 + n)).toNat - 48) = n
   omega
  ·
   rw [be_snoc, ih _ (by omega), digit_ok _ (by omega)]; omega
theorem head_decDigits (n : Nat) (h : n ≠ 0) : (decDigits n).head? ≠ some 48 := by
 induction n using Nat.strongRecOn with
 | _ n ih =>
  rw [decDigits]
  split
  ·
   intro e
   simp only [List.head?_cons, Option.some.injEq] at e
   have := congrArg UInt8.toNat e
   rw [digit_ok _ (by omega)] at this
   simp at this; exact h this
  ·
   have := ih (n / 10) (by omega) (by omega)
   rw [List.head?_append]
   cases hh : (decDigits (n / 10)).head? with
   | none => exact absurd (List.head?_eq_none_iff.1 hh) (decDigits_ne_nil _)
   | some x => rw [hh] at this; simpa using this
theorem decDigits_zero : decDigits 0 = [48] := by rw [decDigits, dif_pos (by omega)]; rfl
theorem decDigits_inj {a b : Nat} (h : decDigits a = decDigits b) : a = b := by rw [← be_decDigits a, h, be_decDigits]
theorem decDigits_eq48 {n : Nat} : decDigits n = [48] ↔ n = 0 :=
 ⟨fun h => decDigits_inj (h.trans decDigits_zero.symm), fun h => by rw [h, decDigits_zero]⟩

/-- What 'signed' does to zeros in front. -/
def strip : List UInt8 → List UInt8
 | c :: d :: r => if c = 48 then strip (d :: r) else c :: d :: r
 | l => l
theorem strip_eq : ∀ (l : List UInt8), isDig l → l ≠ [] → strip l = decDigits (be l)
 | [], _, h => absurd rfl h
 | [c], h, _ => (decDigits_be [c] h (by simp) (.inr rfl)).symm
 | c :: d :: r, h, _ => by
  unfold strip
  split
  ·
   rename_i e; subst e
   rw [be_zero_cons]; exact strip_eq (d :: r) (isDig_tail h) (by simp)
  ·
   rename_i e
   exact (decDigits_be _ h (by simp) (.inl (by simpa using e))).symm

/-- A digit by its place from the end. -/
theorem digit_at (l : List UInt8) (h : isDig l) (i : Nat) (hi : i < l.length) : (l[l.length - 1 - i]'(by omega)).toNat - 48 = be l / 10 ^ i % 10 := by
 induction i generalizing l with
 | zero =>
  rcases snoc_cases l with rfl | ⟨r, d, rfl⟩
  ·
   simp at hi
  ·
   have hd := isDig_right h d (by simp)
   rw [be_snoc]
   simp
   omega
 | succ i ih =>
  rcases snoc_cases l with rfl | ⟨r, d, rfl⟩
  ·
   simp at hi
  ·
   have hd := isDig_right h d (by simp)
   have hi' : i < r.length := by simpa using hi
   have := ih r (isDig_left h) hi'
   have e : (r ++ [d])[(r ++ [d]).length - 1 - (i + 1)]'(by simp; omega) = r[r.length - 1 - i]'(by omega) := by
    rw [List.getElem_append_left (by simp; omega)]
    congr 1
    simp; omega
   rw [e, this, be_snoc, Nat.pow_succ, Nat.mul_comm (10 ^ i) 10, ← Nat.div_div_eq_div_mul]
   congr 2
   omega
theorem digit_above (l : List UInt8) (h : isDig l) (i : Nat) (hi : l.length ≤ i) : be l / 10 ^ i % 10 = 0 := by
 have h1 := be_lt l h
 have h2 : 10 ^ l.length ≤ 10 ^ i := Nat.pow_le_pow_right (by decide) hi
 rw [Nat.div_eq_of_lt (by omega)]

/-! ### Digits, the lowest first -/
def le : List Int → Int
 | [] => 0
 | d :: r => d + 10 * le r
theorem le_snoc (l : List Int) (d : Int) : le (l ++ [d]) = le l + d * 10 ^ l.length := by
 induction l with
 | nil => simp [le]
 | cons a r ih =>
  simp only [List.cons_append, le, ih, List.length_cons, Int.pow_succ]
  rw [Int.mul_add, ← Int.add_assoc]
  congr 1
  rw [Int.mul_comm (10 ^ r.length) 10, ← Int.mul_assoc, ← Int.mul_assoc, Int.mul_comm 10 d]
def digs (l : List Int) : Prop := ∀ d ∈ l, 0 ≤ d ∧ d ≤ 9
theorem digs_snoc {l : List Int} {d : Int} (h : digs l) (h0 : 0 ≤ d) (h1 : d ≤ 9) : digs (l ++ [d]) := fun x hx => by
 rcases List.mem_append.1 hx with hx | hx
 ·
  exact h x hx
 ·
  rw [List.mem_singleton] at hx; subst hx; exact ⟨h0, h1⟩
theorem le_nonneg : ∀ l : List Int, digs l → 0 ≤ le l
 | [], _ => by simp [le]
 | d :: r, h => by
  have h1 := h d (List.mem_cons_self ..)
  have h2 := le_nonneg r fun x hx => h x (List.mem_cons_of_mem _ hx)
  simp only [le]; omega
def chars (l : List Int) : List UInt8 := l.reverse.map fun d => UInt8.ofNat (48 + d).toNat
theorem chars_cons (d : Int) (r : List Int) : chars (d :: r) = chars r ++ [UInt8.ofNat (48 + d).toNat] := by simp [chars]
theorem chars_dig : ∀ l : List Int, digs l → isDig (chars l)
 | [], _ => by simp [chars, isDig]
 | d :: r, h => by
  have h1 := h d (List.mem_cons_self ..)
  have h2 := chars_dig r fun x hx => h x (List.mem_cons_of_mem _ hx)
  rw [chars_cons]
  refine isDig_append h2 fun c hc => ?_
  rw [List.mem_singleton] at hc; subst hc
  rw [show (48 + d).toNat = 48 + d.toNat by omega, digit_ok _ (by omega)]; omega
theorem be_chars : ∀ l : List Int, digs l → be (chars l) = (le l).toNat
 | [], _ => by simp [chars, be, le]
 | d :: r, h => by
  have h1 := h d (List.mem_cons_self ..)
  have hr : digs r := fun x hx => h x (List.mem_cons_of_mem _ hx)
  have h2 := be_chars r hr
  have h3 := le_nonneg r hr
  rw [chars_cons, be_snoc, h2, show (48 + d).toNat = 48 + d.toNat by omega, digit_ok _ (by omega)]
  simp only [le]; omega
theorem chars_length (l : List Int) : (chars l).length = l.length := by simp [chars]

/-! ### Integers as texts -/
theorem itoa_neg (n : Int) (h : n < 0) : itoa n = 45 :: decDigits n.natAbs := by unfold itoa; rw [if_pos h]
theorem itoa_pos (n : Int) (h : 0 ≤ n) : itoa n = decDigits n.natAbs := by unfold itoa; rw [if_neg (by omega)]; congr 1; omega

def belowB (l : List UInt8) : Bool := l.head? == some 45
def digitsB (l : List UInt8) : List UInt8 := if belowB l then l.tail else l
def allDig (l : List UInt8) : Bool := l.all fun c => decide (48 ≤ c.toNat) && decide (c.toNat ≤ 57)
def wholeB (l : List UInt8) : Bool := !(digitsB l).isEmpty && !((digitsB l).head? == some 48 && !(l == [48])) && allDig (digitsB l)

theorem allDig_iff (l : List UInt8) : allDig l = true ↔ isDig l := by
 simp [allDig, isDig]
theorem head_decDigits_45 (n : Nat) : (decDigits n).head? ≠ some 45 := by
 have h := isDig_decDigits n
 cases hh : decDigits n with
 | nil => simp
 | cons c r =>
  rw [hh] at h
  have := isDig_head h
  intro e
  simp only [List.head?_cons, Option.some.injEq] at e
  subst e; simp at this
theorem below_itoa (n : Int) : belowB (itoa n) = decide (n < 0) := by
 unfold belowB
 by_cases h : n < 0
 ·
  rw [itoa_neg n h]; simp [h]
 ·
  rw [itoa_pos n (by omega)]
  have := head_decDigits_45 n.natAbs
  simp [h, this]
theorem digits_itoa (n : Int) : digitsB (itoa n) = decDigits n.natAbs := by
 unfold digitsB
 rw [below_itoa]
 by_cases h : n < 0
 ·
  rw [itoa_neg n h]; simp [h]
 ·
  rw [itoa_pos n (by omega)]; simp [h]
theorem whole_itoa (n : Int) : wholeB (itoa n) = true := by
 unfold wholeB
 rw [digits_itoa]
 have h1 := decDigits_ne_nil n.natAbs
 have h2 := (allDig_iff _).2 (isDig_decDigits n.natAbs)
 by_cases h0 : n = 0
 ·
  subst h0
  have : itoa 0 = [48] := by rw [itoa_pos 0 (by omega)]; exact decDigits_zero
  rw [this]
  simp only [Int.natAbs_zero, decDigits_zero] at h2 ⊢
  simp [h2]
 ·
  have h3 := head_decDigits n.natAbs (by omega)
  simp [h1, h2, h3]
theorem itoa_whole (l : List UInt8) (h : wholeB l = true) : ∃ n : Int, l = itoa n := by
 simp only [wholeB, Bool.and_eq_true, Bool.not_eq_true', Bool.and_eq_false_iff, List.isEmpty_eq_false_iff] at h
 obtain ⟨⟨h1, h2⟩, h3⟩ := h
 have hd := (allDig_iff _).1 h3
 have hcan : (digitsB l).head? ≠ some 48 ∨ l = [48] := by
  rcases h2 with h2 | h2
  ·
   left; simpa using h2
  ·
   right; simpa using h2
 by_cases hb : belowB l = true
 ·
  have hl : l = 45 :: digitsB l := by
   unfold digitsB; rw [if_pos hb]
   unfold belowB at hb
   cases l with
   | nil => simp at hb
   | cons c r => simp at hb; simp [hb]
  have hc : (digitsB l).head? ≠ some 48 := by
   rcases hcan with hc | hc
   ·
    exact hc
   ·
    rw [hc] at hb; simp [belowB] at hb
  have hv := decDigits_be _ hd h1 (.inl hc)
  refine ⟨-(be (digitsB l) : Int), ?_⟩
  have hp : 1 ≤ be (digitsB l) := by
   cases hx : digitsB l with
   | nil => exact absurd hx h1
   | cons a r =>
    rw [hx] at hd hc
    have := be_pos hd (fun e => hc (by simp [e]))
    have hp : 1 ≤ 10 ^ r.length := Nat.one_le_pow _ _ (by decide)
    omega
  rw [itoa_neg _ (by omega), show (-(be (digitsB l) : Int)).natAbs = be (digitsB l) by omega, hv]
  exact hl
 ·
  have hl : digitsB l = l := by unfold digitsB; rw [if_neg hb]
  rw [hl] at hd h1 hcan
  have hv := decDigits_be _ hd h1 (by
   rcases hcan with hc | hc
   ·
    exact .inl hc
   ·
    right; rw [hc]; rfl)
  refine ⟨(be l : Int), ?_⟩
  rw [itoa_pos _ (by omega), show ((be l : Int)).natAbs = be l by omega, hv]

/-- What 'signed' gives. -/
def signedB (neg : Bool) (l : List UInt8) : List UInt8 := if neg && !(strip l == [48]) then 45 :: strip l else strip l
theorem signed_eq (neg : Bool) (l : List UInt8) (h : isDig l) (h0 : l ≠ []) : signedB neg l = itoa (if neg then -(be l : Int) else be l) := by
 unfold signedB
 rw [strip_eq l h h0]
 cases neg with
 | false => simp [itoa_pos]
 | true =>
  by_cases hz : be l = 0
  ·
   rw [hz, decDigits_zero]; simp [itoa_pos, decDigits_zero]
  ·
   have : (decDigits (be l) == [48]) = false := by
    rw [beq_eq_false_iff_ne]; intro e; exact hz (decDigits_eq48.1 e)
   rw [this]
   simp only [Bool.not_false, Bool.and_self, if_true]
   rw [itoa_neg _ (by omega)]
   congr 1
   congr 1
   omega
theorem itoa_inj {a b : Int} (h : itoa a = itoa b) : a = b := by
 have h1 := congrArg belowB h
 have h2 := congrArg digitsB h
 rw [below_itoa, below_itoa] at h1
 rw [digits_itoa, digits_itoa] at h2
 have h3 := decDigits_inj h2
 have h4 : (a < 0) ↔ (b < 0) := by simpa using h1
 omega

/-! ### Comparison -/
theorem len_lt_of {a b : Nat} (h : (decDigits a).length < (decDigits b).length) : a < b := by
 have h1 := be_lt _ (isDig_decDigits a)
 rw [be_decDigits] at h1
 by_cases hb : b = 0
 ·
  subst hb; rw [decDigits_zero] at h
  have : (decDigits a).length ≠ 0 := fun e => decDigits_ne_nil a (List.length_eq_zero_iff.1 e)
  simp at h; exact absurd h (decDigits_ne_nil a)
 ·
  have hh := head_decDigits b hb
  have hd := isDig_decDigits b
  have hv := be_decDigits b
  cases hx : decDigits b with
  | nil => exact absurd hx (decDigits_ne_nil b)
  | cons c r =>
   rw [hx] at hh hd hv h
   have h2 := be_pos hd (fun e => hh (by simp [e]))
   rw [hv] at h2
   have h3 : 10 ^ (decDigits a).length ≤ 10 ^ r.length := Nat.pow_le_pow_right (by decide) (by simp at h; omega)
   omega
theorem bytesLess_be : ∀ (x y : List UInt8), isDig x → isDig y → x.length = y.length → Op.bytesLess x y = decide (be x < be y)
 | [], [], _, _, _ => by simp [Op.bytesLess, be]
 | [], _ :: _, _, _, h => by simp at h
 | _ :: _, [], _, _, h => by simp at h
 | a :: x, b :: y, hx, hy, h => by
  have hl : x.length = y.length := by simpa using h
  have ih := bytesLess_be x y (isDig_tail hx) (isDig_tail hy) hl
  have h1 := be_lt x (isDig_tail hx)
  have h2 := be_lt y (isDig_tail hy)
  have ha := isDig_head hx
  have hb := isDig_head hy
  unfold Op.bytesLess
  rw [ih, be_cons, be_cons, hl]
  rw [hl] at h1
  rw [Bool.eq_iff_iff]
  simp only [Bool.or_eq_true, decide_eq_true_eq, Bool.and_eq_true, beq_iff_eq, UInt8.lt_iff_toNat_lt]
  constructor
  ·
   rintro (h | ⟨rfl, h⟩)
   ·
    have : ((a.toNat - 48) + 1) * 10 ^ y.length ≤ (b.toNat - 48) * 10 ^ y.length := Nat.mul_le_mul_right _ (by omega)
    rw [Nat.add_mul] at this
    omega
   ·
    omega
  ·
   intro h
   rcases Nat.lt_trichotomy a.toNat b.toNat with h3 | h3 | h3
   ·
    exact .inl h3
   ·
    right
    refine ⟨toNat_inj h3, ?_⟩
    rw [h3] at h; omega
   ·
    exfalso
    have : ((b.toNat - 48) + 1) * 10 ^ y.length ≤ (a.toNat - 48) * 10 ^ y.length := Nat.mul_le_mul_right _ (by omega)
    rw [Nat.add_mul] at this
    omega
end Go.Proofs.YtaiidipcmnejoaaGreatDoor.Dec

/- What the functions of the reference that work on decimal texts give: plain mathematics over the printed functions. -/
namespace Go.Proofs.YtaiidipcmnejoaaGreatDoor.Spec
open Go.RowKit Go.Lib Go.Proofs.YtaiidipcmnejoaaGreatDoorW.PrintWords Go.Proofs.YtaiidipcmnejoaaGreatDoorW.PrintLast Go.Proofs.YtaiidipcmnejoaaGreatDoorW.PrintMore
open Go.Proofs.YtaiidipcmnejoaaGreatDoor.Dec

/-- A text by its bytes. -/
def S (l : List UInt8) : ByteArray := ⟨l.toArray⟩
theorem S_list (l : List UInt8) : (S l).data.toList = l := rfl
theorem S_toList (l : List UInt8) : (S l).toList = l := by rw [Lib.toList_data]; rfl
theorem S_size (l : List UInt8) : (S l).size = l.length := by simp [S, ByteArray.size]
theorem S_of (s : ByteArray) : S s.data.toList = s := by cases s; simp [S]
theorem S_ext {s : ByteArray} {l : List UInt8} (h : s.data.toList = l) : s = S l := by rw [← h, S_of]
theorem S_drop (l : List UInt8) (a n : Nat) (hn : n = l.length) : (S l).extract a n = S (l.drop a) := by
 subst hn
 apply S_ext
 have := Lib.extract_to_end (S l) a
 rw [S_size] at this
 exact this
theorem S_get (l : List UInt8) (i : Nat) (h : i < (S l).size) : (S l)[i] = l[i]'(by simpa [S_size] using h) := rfl
theorem bt_S (l : List UInt8) (i : Int) (h : i.toNat < l.length) : bt (S l) i = ((l[i.toNat]).toNat : Int) := by
 unfold bt
 rw [dif_pos (by simpa [S_size] using h)]
 rfl
theorem bt_S0 (c : UInt8) (l : List UInt8) : bt (S (c :: l)) 0 = (c.toNat : Int) := bt_S (c :: l) 0 (by simp)
theorem w64 (n : Int) (h0 : -9223372036854775808 ≤ n) (h1 : n ≤ 9223372036854775807) : wrap64 n = n := by unfold wrap64; omega

/-! ### below, digitsOf, IsWhole, wide -/
theorem below_f (l : List UInt8) : Pwide.spec_below.f (S l) = some (belowB l) := by
 unfold Pwide.spec_below.f belowB
 rw [S_size]
 cases l with
 | nil => simp
 | cons c l =>
  rw [if_pos (by simp only [List.length_cons]; omega), if_pos (by simp only [List.length_cons]; omega), bt_S0]
  congr 1
  rw [Bool.eq_iff_iff]
  simp only [beq_iff_eq, List.head?_cons, Option.some.injEq]
  constructor
  ·
   intro h; exact toNat_inj (by simpa using (Int.ofNat.inj h))
  ·
   rintro rfl; rfl
theorem digitsOf_f (l : List UInt8) : Pwide.spec_digitsOf.f (S l) = some (S (digitsB l)) := by
 unfold Pwide.spec_digitsOf.f digitsB
 rw [below_f, Option.bind_some]
 by_cases h : belowB l = true
 ·
  rw [if_pos h, if_pos h]
  have : 1 ≤ l.length := by
   cases l with
   | nil => simp [belowB] at h
   | cons _ _ => simp
  rw [if_pos (by rw [S_size]; omega), S_drop _ _ _ (S_size l), List.drop_one]
 ·
  rw [if_neg h, if_neg h]

theorem isWhole_l0 (l : List UInt8) (hl : l.length ≤ 140737488355328) (d : Nat) : ∀ (k i : Nat), i ≤ l.length → l.length - i = d → d < k →
  Pwide.spec_IsWhole.l0 k (S l) (i : Int) = some (allDig (l.drop i)) := by
 induction d with
 | zero =>
  intro k i hi hd hk
  obtain ⟨k, rfl⟩ : ∃ m, k = m + 1 := ⟨k - 1, by omega⟩
  simp only [Pwide.spec_IsWhole.l0]
  rw [if_neg (by rw [S_size]; omega), List.drop_of_length_le (by omega)]
  rfl
 | succ d ih =>
  intro k i hi hd hk
  obtain ⟨k, rfl⟩ : ∃ m, k = m + 1 := ⟨k - 1, by omega⟩
  simp only [Pwide.spec_IsWhole.l0]
  have hlt : i < l.length := by omega
  rw [if_pos (by rw [S_size]; omega), if_pos (by omega), bt_S l i (by simpa using hlt)]
  have e : l.drop i = l[i] :: l.drop (i + 1) := List.drop_eq_getElem_cons hlt
  have eall : allDig (l.drop i) = ((decide (48 ≤ (l[i]).toNat) && decide ((l[i]).toNat ≤ 57)) && allDig (l.drop (i + 1))) := by rw [e]; rfl
  rw [eall]
  have et : ((i : Int).toNat) = i := by omega
  simp only [et]
  by_cases h1 : ((l[i]).toNat : Int) < 48
  ·
   rw [if_pos h1, decide_eq_false (by omega : ¬ 48 ≤ (l[i]).toNat)]; rfl
  ·
   rw [if_neg h1]
   by_cases h2 : ((l[i]).toNat : Int) > 57
   ·
    rw [if_pos h2, decide_eq_false (by omega : ¬ (l[i]).toNat ≤ 57)]; simp
   ·
    rw [if_neg h2, w64 _ (by omega) (by omega), show ((i : Int) + 1) = ((i + 1 : Nat) : Int) by omega, ih k (i + 1) (by omega) (by omega) (by omega),
     decide_eq_true (by omega : 48 ≤ (l[i]).toNat), decide_eq_true (by omega : (l[i]).toNat ≤ 57)]
    rfl
theorem digitsB_le (l : List UInt8) : (digitsB l).length ≤ l.length := by
 unfold digitsB; split <;> simp
theorem isWhole_f (l : List UInt8) (hl : l.length ≤ 140737488355328) (k : Nat) (hk : l.length + 2 ≤ k) : Pwide.spec_IsWhole.f k (S l) = some (wholeB l) := by
 unfold Pwide.spec_IsWhole.f
 rw [digitsOf_f, Option.bind_some, S_size]
 have hle := digitsB_le l
 obtain ⟨k, rfl⟩ : ∃ m, k = m + 1 := ⟨k - 1, by omega⟩
 have hloop := isWhole_l0 (digitsB l) (by omega) (digitsB l).length k 0 (by omega) (by omega) (by omega)
 rw [List.drop_zero] at hloop
 simp only [Pwide.spec_IsWhole.j0]
 unfold wholeB
 cases hd : digitsB l with
 | nil => simp
 | cons c r =>
  rw [hd] at hloop
  rw [if_neg (by simp only [List.length_cons]; omega), if_pos (by simp only [List.length_cons]; omega), bt_S0, S_toList]
  by_cases h48 : (c.toNat : Int) = 48
  ·
   have hc : c = 48 := toNat_inj (by simpa using (Int.ofNat.inj h48))
   subst hc
   rw [if_pos (by rfl)]
   by_cases hz : l = [48]
   ·
    subst hz
    simp only [bne_self_eq_false, Bool.false_eq_true, if_false]
    erw [hloop]; simp
   ·
    have : (l != [48]) = true := by simpa using hz
    rw [this, if_pos rfl]
    have h2 : (l == [48]) = false := by simpa using hz
    simp [h2]
  ·
   rw [if_neg h48]
   have hc : (c == 48) = false := by
    rw [beq_eq_false_iff_ne]; rintro rfl; exact h48 rfl
   simp only [Bool.false_eq_true, if_false]
   erw [hloop]
   have hc' : c ≠ 48 := by simpa using hc
   simp [hc']

theorem wide_two (a b : List UInt8) (ha : a.length ≤ 140737488355328) (hb : b.length ≤ 140737488355328) (k : Nat) (hk : a.length + b.length + 10 ≤ k) :
  Pwide.laws_wide.f k [S a, S b] = some ((decide (a.length ≤ 400) && wholeB a) && (decide (b.length ≤ 400) && wholeB b)) := by
 unfold Pwide.laws_wide.f
 obtain ⟨k, rfl⟩ : ∃ m, k = m + 3 := ⟨k - 3, by omega⟩
 have e0 : rdOf ByteArray.empty [S a, S b] 0 = S a := rfl
 have e1 : rdOf ByteArray.empty [S a, S b] 1 = S b := rfl
 have e2 : wrap64 (1 + 1) = 2 := w64 _ (by omega) (by omega)
 have e3 : wrap64 (0 + 1) = 1 := w64 _ (by omega) (by omega)
 rw [Pwide.laws_wide.l0, if_pos (by simp), if_pos (by decide), if_pos (by simp), e0, S_size]
 by_cases h1 : (a.length : Int) > 400
 ·
  rw [if_pos h1, decide_eq_false (by omega)]; rfl
 rw [if_neg h1, decide_eq_true (by omega : a.length ≤ 400), isWhole_f a ha _ (by omega), Option.bind_some]
 cases hwa : wholeB a with
 | false => rfl
 | true =>
  rw [if_pos rfl, e3, Pwide.laws_wide.l0, if_pos (by simp), if_pos (by decide), if_pos (by simp), e1, S_size]
  by_cases h2 : (b.length : Int) > 400
  ·
   rw [if_pos h2, decide_eq_false (by omega)]; rfl
  rw [if_neg h2, decide_eq_true (by omega : b.length ≤ 400), isWhole_f b hb _ (by omega), Option.bind_some]
  cases hwb : wholeB b with
  | false => rfl
  | true => rw [if_pos rfl, e2, Pwide.laws_wide.l0, if_neg (by simp)]; rfl
/-! ### isDigits -/
theorem isDigits_l0 (l : List UInt8) (hl : l.length ≤ 140737488355328) (h : allDig l = true) (d : Nat) : ∀ (k i : Nat), i ≤ l.length → l.length - i = d → d < k →
  PisDigits.impl_isDigits.l0 k (S l) (l.length : Int) (i : Int) = PisDigits.impl_isDigits.l0 1 (S l) (l.length : Int) (l.length : Int) := by
 induction d with
 | zero =>
  intro k i hi hd hk
  obtain ⟨k, rfl⟩ : ∃ m, k = m + 1 := ⟨k - 1, by omega⟩
  have : i = l.length := by omega
  subst this
  simp only [PisDigits.impl_isDigits.l0]
  rw [if_neg (by omega), if_neg (show ¬ ((l.length : Int) < (l.length : Int)) by omega)]
 | succ d ih =>
  intro k i hi hd hk
  obtain ⟨k, rfl⟩ : ∃ m, k = m + 1 := ⟨k - 1, by omega⟩
  have hlt : i < l.length := by omega
  have hdig := (allDig_iff l).1 h l[i] (List.getElem_mem hlt)
  have et : ((i : Int).toNat) = i := by omega
  rw [PisDigits.impl_isDigits.l0, if_pos (by omega), if_pos (by omega), if_pos (by rw [S_size]; omega), bt_S l i (by simpa using hlt)]
  simp only [et]
  rw [if_neg (by omega), if_neg (by omega), w64 _ (by omega) (by omega), show ((i : Int) + 1) = ((i + 1 : Nat) : Int) by omega, ih k (i + 1) (by omega) (by omega) (by omega)]
theorem isDigits_dec (n : Nat) (hn : (decDigits n).length ≤ 140737488355328) (k : Nat) (hk : (decDigits n).length + 2 ≤ k) : PisDigits.impl_isDigits.f k (S (decDigits n)) = some true := by
 unfold PisDigits.impl_isDigits.f
 rw [S_size]
 have := isDigits_l0 (decDigits n) hn ((allDig_iff _).2 (isDig_decDigits n)) (decDigits n).length k 0 (by omega) (by omega) (by omega)
 erw [this]
 rw [PisDigits.impl_isDigits.l0, if_neg (by omega), S_toList]
 by_cases h0 : n = 0
 ·
  subst h0; rw [if_pos decDigits_zero]
 ·
  rw [if_neg (fun e => h0 (decDigits_eq48.1 e)), if_neg (decDigits_ne_nil n)]
  have hh := head_decDigits n h0
  cases hd : decDigits n with
  | nil => exact absurd hd (decDigits_ne_nil n)
  | cons c r =>
   rw [hd] at hh
   rw [if_pos (by rw [S_size]; simp only [List.length_cons]; omega), bt_S0]
   congr 1
   rw [bne_iff_ne]
   intro e
   apply hh
   have : c = 48 := toNat_inj (by simpa using (Int.ofNat.inj e))
   rw [this]; rfl

/-! ### together: signed, digitAt, textOf -/
/-! ### less: signed, digitAt, textOf -/
/-! ### places -/
theorem mod_next (A i : Nat) : A % 10 ^ (i + 1) = A % 10 ^ i + (A / 10 ^ i % 10) * 10 ^ i := by
 rw [Nat.pow_succ, Nat.mod_mul, Nat.mul_comm]
theorem le_lt : ∀ l : List Int, digs l → le l < 10 ^ l.length
 | [], _ => by simp [le]
 | d :: r, h => by
  have h1 := h d (List.mem_cons_self ..)
  have h2 := le_lt r fun x hx => h x (List.mem_cons_of_mem _ hx)
  simp only [le, List.length_cons, Int.pow_succ]
  omega
theorem pow_cast (i : Nat) : ((10 ^ i : Nat) : Int) = (10 : Int) ^ i := by simp
/-! ### together: the sum of digits -/
theorem below_pow (X : List UInt8) (hX : isDig X) (i : Nat) (hi : X.length ≤ i) : be X % 10 ^ i = be X := by
 have h1 := be_lt X hX
 have h2 : 10 ^ X.length ≤ 10 ^ i := Nat.pow_le_pow_right (by decide) hi
 exact Nat.mod_eq_of_lt (by omega)
/-! ### less: the difference of digits -/
end Go.Proofs.YtaiidipcmnejoaaGreatDoor.Spec
