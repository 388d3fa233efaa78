/-
Parts of the proof, one behind the other: SubL.
-/
import Derived.Test.YtbnfeicpjmfooaaGreatDoorM1
import Derived.Test.YtbnfeicpjmfooaaGreatDoorMK
import Derived.WalkMore
/-
An array less another one.
-/
set_option linter.unusedSimpArgs false
set_option linter.unusedVariables false
namespace Go.Proofs.YtbnfeicpjmfooaaGreatDoor.NumA
open Go.RowKit Go.Lib Go.Proofs.YtbnfeicpjmfooaaGreatDoor.ValA Go.Proofs.YtbnfeicpjmfooaaGreatDoor.FloH Go.Proofs.YtbnfeicpjmfooaaGreatDoorW.PrintWords Go.Proofs.YtbnfeicpjmfooaaGreatDoorW.PrintLast Go.Proofs.YtbnfeicpjmfooaaGreatDoorW.PrintMore Go.Proofs.YtbnfeicpjmfooaaGreatDoor.PzzFits1
/-- Is a value among some. -/
def amongV (l : List V) (x : V) : Bool := l.any fun y => cmpV x y == 0
/-- What is left. -/
def subL (l l' : List V) : List V := l.filter fun x => !amongV l' x
/-- The values of a list, one by one. -/
def PairsG (p : Nat) (w : World) (fl : List V) (xs : List Value) : Prop := xs.length = fl.length ∧ ∀ (i : Nat) (y : V) (u : Value), fl[i]? = some y → xs[i]? = some u → G p w y u
/-- The head of a round. -/
def RSub (w : World) (p n : Nat) (l l' : List V) (k : Nat) (s i : Value) (wr : World) : Prop :=
  ∃ (j : Nat) (xs : List Value), i = .int .i64 j ∧ k + j = n ∧ Below w.heap.size w wr ∧ wr.ownsRow w.heap.size 20 1 s xs.length xs ∧ PairsG p w (subL (l.take j) l') xs ∧ xs.length ≤ j ∧ s ≠ .slice none 0 0
/-- What is left, as an answer. -/
def SubIs (x : V) (w : World) (e : Ending) (w' : World) : Prop := ∃ r, e = .returned r ∧ Shows x r w' ∧ Below w.heap.size w w'
end Go.Proofs.YtbnfeicpjmfooaaGreatDoor.NumA
