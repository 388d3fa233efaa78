/-
Parts of the proof, one behind the other: IdxP.
-/
import Derived.Test.YtcoahpcjhhnkkaaGreatDoorME
/-
Plain: what index and slice give of a list.
-/
set_option linter.unusedSimpArgs false
set_option linter.unusedVariables false
namespace Go.Proofs.YtcoahpcjhhnkkaaGreatDoor.NumA
open Go.RowKit Go.Lib Go.Proofs.YtcoahpcjhhnkkaaGreatDoor.ValA Go.Proofs.YtcoahpcjhhnkkaaGreatDoor.FloH Go.Proofs.YtcoahpcjhhnkkaaGreatDoorW.PrintWords Go.Proofs.YtcoahpcjhhnkkaaGreatDoorW.PrintLast Go.Proofs.YtcoahpcjhhnkkaaGreatDoorW.PrintMore Go.Proofs.YtcoahpcjhhnkkaaGreatDoor.PzzFits1
def nullV : V := ⟨0, 0, ⟨#[]⟩, [], [], []⟩
/-- An array of values. -/
def lV (l : List V) : V := ⟨5, 0, ⟨#[]⟩, l, [], []⟩
/-- clampIndex. -/
def clampI (i lo hi : Int) : Int := if (if i < 0 then i + hi else i) < lo then lo else if (if i < 0 then i + hi else i) < hi then (if i < 0 then i + hi else i) else hi
theorem clamp_in {i lo hi : Int} (h : lo ≤ hi) : lo ≤ clampI i lo hi ∧ clampI i lo hi ≤ hi := by unfold clampI; repeat' split <;> omega
/-- The element at an index, null if there is none. -/
def ixV (l : List V) (i : Int) : V := if (if i < 0 then i + l.length else i) < 0 then nullV else l.getD (if i < 0 then i + l.length else i).toNat nullV
theorem at_rev (l : List V) (i : Int) : ixV l.reverse (-1 - i) = ixV l i := by
  unfold ixV
  rw [List.length_reverse]
  by_cases h : i < 0
  · rw [if_neg (show ¬ (-1 - i < 0) by omega), if_pos h, if_neg (by omega)]
    by_cases h2 : i + (l.length : Int) < 0
    · rw [if_pos h2, List.getD_eq_getElem?_getD, List.getElem?_eq_none (by simp; omega)]
      rfl
    · rw [if_neg h2, List.getD_eq_getElem?_getD, List.getD_eq_getElem?_getD, List.getElem?_reverse (by omega)]
      congr 2
      omega
  · rw [if_pos (show -1 - i < 0 by omega), if_neg h, if_neg h]
    by_cases h2 : -1 - i + (l.length : Int) < 0
    · rw [if_pos h2, List.getD_eq_getElem?_getD, List.getElem?_eq_none (by omega)]
      rfl
    · rw [if_neg h2, List.getD_eq_getElem?_getD, List.getD_eq_getElem?_getD, List.getElem?_reverse (by omega)]
      congr 2
      omega
/-- A slice's ends. -/
def loI (s : Option Int) (n : Nat) : Nat := match s with | none => 0 | some i => (clampI i 0 n).toNat
def hiI (s e : Option Int) (n : Nat) : Nat := match e with | none => n | some i => (clampI i (loI s n) n).toNat
def sliceL (l : List V) (s e : Option Int) : List V := (l.drop (loI s l.length)).take (hiI s e l.length - loI s l.length)
theorem lo_le (s : Option Int) (n : Nat) : loI s n ≤ n := by
  cases s with
  | none => exact Nat.zero_le _
  | some i => have := @clamp_in i 0 n (by omega); show (clampI i 0 n).toNat ≤ n; omega
theorem hi_in (s e : Option Int) (n : Nat) : loI s n ≤ hiI s e n ∧ hiI s e n ≤ n := by
  have h := lo_le s n
  cases e with
  | none => exact ⟨h, Nat.le_refl _⟩
  | some i => have := @clamp_in i (loI s n) n (by omega); show loI s n ≤ (clampI i (loI s n) n).toNat ∧ (clampI i (loI s n) n).toNat ≤ n; omega
theorem slice_len (l : List V) (s e : Option Int) : (sliceL l s e).length = hiI s e l.length - loI s l.length := by
  have := hi_in s e l.length
  unfold sliceL
  rw [List.length_take, List.length_drop]
  omega
theorem slice_at (l : List V) (s e : Option Int) {i : Nat} (hi : i < (sliceL l s e).length) : (sliceL l s e)[i]? = l[loI s l.length + i]? := by
  rw [slice_len] at hi
  unfold sliceL
  rw [List.getElem?_take_of_lt hi, List.getElem?_drop]
theorem slice_all (l : List V) : sliceL l none none = l := by
  show (l.drop 0).take (l.length - 0) = l
  simp
theorem slice_mem {l : List V} {s e : Option Int} {y : V} (h : y ∈ sliceL l s e) : y ∈ l := List.mem_of_mem_drop (List.mem_of_mem_take h)
/-- An index of the rest. -/
theorem at_rest (l : List V) {f i : Int} (hf : 0 ≤ f) (hi : 0 ≤ i) : ixV (sliceL l (some f) none) i = ixV l (f + i) := by
  have h0 : loI (some f) l.length = min f.toNat l.length := by
    show (clampI f 0 l.length).toNat = _
    unfold clampI
    rw [if_neg (show ¬ f < 0 by omega), if_neg (by omega)]
    split <;> omega
  unfold ixV
  rw [if_neg (show ¬ i < 0 by omega), if_neg (show ¬ i < 0 by omega), if_neg (show ¬ f + i < 0 by omega), if_neg (show ¬ f + i < 0 by omega)]
  have e : sliceL l (some f) none = l.drop (loI (some f) l.length) := by
    show (l.drop (loI (some f) l.length)).take (l.length - loI (some f) l.length) = _
    rw [List.take_of_length_le (by rw [List.length_drop]; omega)]
  rw [e, h0, List.getD_eq_getElem?_getD, List.getD_eq_getElem?_getD, List.getElem?_drop]
  by_cases c : f.toNat ≤ l.length
  · rw [Nat.min_eq_left c]
    congr 2
    omega
  · rw [Nat.min_eq_right (by omega), List.getElem?_eq_none (by omega), List.getElem?_eq_none (by omega)]
/-- A slice of the reversed list. -/
theorem slice_rev (l : List V) {i k : Int} (h0 : 0 ≤ i) (h1 : i ≤ k) (h2 : k ≤ l.length) : sliceL l.reverse (some i) (some k) = (sliceL l (some (l.length - k)) (some (l.length - i))).reverse := by
  have c : ∀ j lo : Int, 0 ≤ j → lo ≤ j → j ≤ l.length → clampI j lo l.length = j := fun j lo a b d => by
    unfold clampI
    rw [if_neg (show ¬ j < 0 by omega), if_neg (by omega)]
    split <;> omega
  have a1 : loI (some i) l.length = i.toNat := by show (clampI i 0 l.length).toNat = _; rw [c i 0 h0 h0 (by omega)]
  have a2 : hiI (some i) (some k) l.length = k.toNat := by show (clampI k (loI (some i) l.length) l.length).toNat = _; rw [a1, c k _ (by omega) (by omega) h2]
  have b1 : loI (some ((l.length : Int) - k)) l.length = ((l.length : Int) - k).toNat := by show (clampI _ 0 l.length).toNat = _; rw [c _ 0 (by omega) (by omega) (by omega)]
  have b2 : hiI (some ((l.length : Int) - k)) (some ((l.length : Int) - i)) l.length = ((l.length : Int) - i).toNat := by show (clampI _ (loI _ l.length) l.length).toNat = _; rw [b1, c _ _ (by omega) (by omega) (by omega)]
  unfold sliceL
  rw [List.length_reverse, a1, a2, b1, b2]
  apply List.ext_getElem?
  intro j
  by_cases hj : j < k.toNat - i.toNat
  · rw [List.getElem?_take_of_lt hj, List.getElem?_drop, List.getElem?_reverse (by omega), List.getElem?_reverse (by rw [List.length_take, List.length_drop]; omega), List.getElem?_take_of_lt (by rw [List.length_take, List.length_drop]; omega), List.getElem?_drop]
    congr 1
    rw [List.length_take, List.length_drop]
    omega
  · rw [List.getElem?_eq_none (by rw [List.length_take]; omega), List.getElem?_eq_none (by rw [List.length_reverse, List.length_take, List.length_drop]; omega)]
end Go.Proofs.YtcoahpcjhhnkkaaGreatDoor.NumA
