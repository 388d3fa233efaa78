/-
Parts of the proof, one behind the other: SubL.
-/
import Derived.Test.YtbnfeicpjmfooaaGreatDoorM1
import Derived.Test.YtbnfeicpjmfooaaGreatDoorMK
import Derived.WalkMore
/-
An array less another one.
-/
set_option linter.unusedSimpArgs false
set_option linter.unusedVariables false
namespace Go.Proofs.YtbnfeicpjmfooaaGreatDoor.NumA
open Go.RowKit Go.Lib Go.Proofs.YtbnfeicpjmfooaaGreatDoor.ValA Go.Proofs.YtbnfeicpjmfooaaGreatDoor.FloH Go.Proofs.YtbnfeicpjmfooaaGreatDoorW.PrintWords Go.Proofs.YtbnfeicpjmfooaaGreatDoorW.PrintLast Go.Proofs.YtbnfeicpjmfooaaGreatDoorW.PrintMore Go.Proofs.YtbnfeicpjmfooaaGreatDoor.PzzFits1
/-- Is a value among some. -/
def amongV (l : List V) (x : V) : Bool := l.any fun y => cmpV x y == 0
/-- What is left. -/
def subL (l l' : List V) : List V := l.filter fun x => !amongV l' x
/-- The values of a list, one by one. -/
def PairsG (p : Nat) (w : World) (fl : List V) (xs : List Value) : Prop := xs.length = fl.length ∧ ∀ (i : Nat) (y : V) (u : Value), fl[i]? = some y → xs[i]? = some u → G p w y u
theorem PairsG.snoc {p : Nat} {w : World} {fl : List V} {xs : List Value} (h : PairsG p w fl xs) {y : V} {u : Value} (hG : G p w y u) : PairsG p w (fl ++ [y]) (xs ++ [u]) := by
  refine ⟨by simp [h.1], fun i z v hz hv => ?_⟩
  by_cases e : i < fl.length
  · rw [List.getElem?_append_left e] at hz
    rw [List.getElem?_append_left (by have := h.1; omega)] at hv
    exact h.2 i z v hz hv
  · have hi : i = fl.length := by have := (List.getElem?_eq_some_iff.1 hz).1; rw [List.length_append, List.length_singleton] at this; omega
    subst hi
    rw [List.getElem?_append_right (Nat.le_refl _), Nat.sub_self] at hz
    rw [List.getElem?_append_right (by have := h.1; omega), show fl.length - xs.length = 0 by have := h.1; omega] at hv
    cases hz
    cases hv
    exact hG
theorem owns_below {w w' : World} {base : Nat} {e : TypeId} {size : Nat} {v : Value} {n : Nat} {xs : List Value} (h : w.ownsRow base e size v n xs) (hb : Below w.heap.size w w') : w'.ownsRow base e size v n xs := by
  obtain ⟨h1, h2⟩ := h
  refine ⟨h1, ?_⟩
  rcases h2 with h2 | ⟨g, cap, cur, hv, hg, hc, rest⟩
  · exact Or.inl h2
  · exact Or.inr ⟨g, cap, cur, hv, hg, (hb.block g (lt_of_heap hc)).trans hc, rest⟩
/-- The head of a round. -/
def RSub (w : World) (p n : Nat) (l l' : List V) (k : Nat) (s i : Value) (wr : World) : Prop :=
  ∃ (j : Nat) (xs : List Value), i = .int .i64 j ∧ k + j = n ∧ Below w.heap.size w wr ∧ wr.ownsRow w.heap.size 20 1 s xs.length xs ∧ PairsG p w (subL (l.take j) l') xs ∧ xs.length ≤ j ∧ s ≠ .slice none 0 0
/-- What is left, as an answer. -/
def SubIs (x : V) (w : World) (e : Ending) (w' : World) : Prop := ∃ r, e = .returned r ∧ Shows x r w' ∧ Below w.heap.size w w'
end Go.Proofs.YtbnfeicpjmfooaaGreatDoor.NumA
