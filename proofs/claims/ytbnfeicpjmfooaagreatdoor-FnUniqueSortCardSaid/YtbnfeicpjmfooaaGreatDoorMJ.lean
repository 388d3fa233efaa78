/-
Parts of the proof, one behind the other: AddC, CopyV, AddD, AddE, AddF, SumS.
-/
import Derived.Test.YtbnfeicpjmfooaaGreatDoorMI
import Derived.Laws.CopyRow
import Derived.Laws.CopyOwn
import Derived.Laws.Concat
import Derived.Shelf.SlMaps.Copy
import Derived.Test.YtbnfeicpjmfooaaGreatDoorProg
import Derived.Test.YtbnfeicpjmfooaaGreatDoorMH
/-
Sums of two strings, of two arrays.
-/
set_option linter.unusedSimpArgs false
set_option linter.unusedVariables false
namespace Go.Proofs.YtbnfeicpjmfooaaGreatDoor.NumA
open Go.RowKit Go.Lib Go.Proofs.YtbnfeicpjmfooaaGreatDoor.ValA Go.Proofs.YtbnfeicpjmfooaaGreatDoor.FloH Go.Proofs.YtbnfeicpjmfooaaGreatDoorW.PrintWords Go.Proofs.YtbnfeicpjmfooaaGreatDoorW.PrintLast Go.Proofs.YtbnfeicpjmfooaaGreatDoorW.PrintMore Go.Proofs.YtbnfeicpjmfooaaGreatDoor.PzzFits1
theorem G.one {n : Nat} {w : World} {x : V} {g : Value} (h : G n w x g) : g.oneCell' = true := by
  rcases h.shape with rfl | ⟨t, v, rfl⟩ <;> rfl
/-- What a sum of two arrays gives. -/
def AddLs (w : World) (vs us : List Value) (e : Ending) (w' : World) : Prop := e = .returned (.iface 81 (.slice (some ⟨w.heap.size, 0, none⟩) (vs.length + us.length) (vs.length + us.length))) ∧ w'.heap[w.heap.size]? = some (.cells (vs ++ us).toArray 20 (0, 0)) ∧ Below w.heap.size w w'
end Go.Proofs.YtbnfeicpjmfooaaGreatDoor.NumA
/-
maps.Copy's contract at this program (after the print of the kit's lay-plain).
-/
namespace Go.Proofs
open Go.Shelf
def Tryz.copyM_ren : Go.Shelf.Ren := ⟨fun | 5 => 130 | n => n, fun | 23 => 90 | 24 => 90 | 26 => 9 | 27 => 20 | 0 => 0 | 4 => 4 | n => n, fun | n => n⟩
end Go.Proofs
/-
Sums of two maps.
-/
set_option linter.unusedSimpArgs false
set_option linter.unusedVariables false
namespace Go.Proofs.YtbnfeicpjmfooaaGreatDoor.NumA
open Go.RowKit Go.Lib Go.Proofs.YtbnfeicpjmfooaaGreatDoor.ValA Go.Proofs.YtbnfeicpjmfooaaGreatDoor.FloH Go.Proofs.YtbnfeicpjmfooaaGreatDoorW.PrintWords Go.Proofs.YtbnfeicpjmfooaaGreatDoorW.PrintLast Go.Proofs.YtbnfeicpjmfooaaGreatDoorW.PrintMore Go.Proofs.YtbnfeicpjmfooaaGreatDoor.PzzFits1
/-- An element of a map, read as itself. -/
def R1 (v : Value) : Option (DataW Value × List MemPlace) := some (.held v, [])
/-- A map's entries as a datum. -/
def IsV (es : List MapEntry) (D : DataW Value) : Prop := D = .map ((es.map (WideElems.rg Tryz.prog 9 R1)).foldr DataW.insert [])
/-- es holds e1's entries and e2's; where both have a key, e2's element stands. -/
def Merges (es e1 e2 : List MapEntry) : Prop := (∀ s : ByteArray, (∃ e ∈ es, e.key = .string s) ↔ (∃ e ∈ e1, e.key = .string s) ∨ ∃ e ∈ e2, e.key = .string s) ∧
  ∀ e ∈ es, ∀ s : ByteArray, e.key = .string s → (∀ d ∈ e2, d.key = .string s → e.val = d.val) ∧ ((∀ d ∈ e2, d.key ≠ .string s) → ∀ d ∈ e1, d.key = .string s → e.val = d.val)
/-- What a sum of two maps gives. -/
def AddMs (w : World) (e1 e2 : List MapEntry) (e : Ending) (w' : World) : Prop :=
  ∃ (es : List MapEntry) (k : Nat), e = .returned (.iface 90 (.map (some w.heap.size))) ∧ w'.heap[w.heap.size]? = some (.map es.toArray k) ∧ MapKept.Stamped es.toArray k ∧ (∀ e ∈ es, ∃ t : ByteArray, e.key = .string t ∧ t.size ≤ 9223372036854775807) ∧ Merges es e1 e2 ∧ Below w.heap.size w w'
end Go.Proofs.YtbnfeicpjmfooaaGreatDoor.NumA
/-
Sums of values, as plain functions: arrays, texts, objects.
-/
set_option linter.unusedSimpArgs false
set_option linter.unusedVariables false
namespace Go.Proofs.YtbnfeicpjmfooaaGreatDoor.NumA
open Go.RowKit Go.Lib Go.Proofs.YtbnfeicpjmfooaaGreatDoor.ValA Go.Proofs.YtbnfeicpjmfooaaGreatDoor.FloH Go.Proofs.YtbnfeicpjmfooaaGreatDoorW.PrintWords Go.Proofs.YtbnfeicpjmfooaaGreatDoorW.PrintLast Go.Proofs.YtbnfeicpjmfooaaGreatDoorW.PrintMore Go.Proofs.YtbnfeicpjmfooaaGreatDoor.PzzFits1
/-- The order of bytes. -/
def bl (a b : ByteArray) : Bool := Op.bytesLess a.toList b.toList
/-- A key set among others that rise. -/
def insKV : List (ByteArray × V) → ByteArray → V → List (ByteArray × V)
  | [], k, v => [(k, v)]
  | p :: r, k, v => if bl p.1 k = true then p :: insKV r k v else if p.1 = k then (k, v) :: r else (k, v) :: p :: r
def getKV : List (ByteArray × V) → ByteArray → Option V
  | [], _ => none
  | p :: r, k => if p.1 = k then some p.2 else getKV r k
def foldKV (m l : List (ByteArray × V)) : List (ByteArray × V) := l.foldl (fun m p => insKV m p.1 p.2) m
def Rise (l : List (ByteArray × V)) : Prop := l.Pairwise fun p q => bl p.1 q.1 = true
/-- An object's keys and values. -/
def kv (x : V) : List (ByteArray × V) := x.f4.zip x.f5
/-- Two objects' sum; two arrays'; two texts'. -/
def sumM (a b : V) : V := ⟨6, 0, ⟨#[]⟩, [], (foldKV (kv a) (kv b)).map (·.1), (foldKV (kv a) (kv b)).map (·.2)⟩
def catV (a b : V) : V := ⟨5, 0, ⟨#[]⟩, a.f3 ++ b.f3, [], []⟩
def txtV (a b : V) : V := ⟨4, 0, a.f2 ++ b.f2, [], [], []⟩
end Go.Proofs.YtbnfeicpjmfooaaGreatDoor.NumA
/-
gojq's sum at two arrays, two texts, two objects.
-/
set_option linter.unusedSimpArgs false
set_option linter.unusedVariables false
namespace Go.Proofs.YtbnfeicpjmfooaaGreatDoor.NumA
open Go.RowKit Go.Lib Go.Proofs.YtbnfeicpjmfooaaGreatDoor.ValA Go.Proofs.YtbnfeicpjmfooaaGreatDoor.FloH Go.Proofs.YtbnfeicpjmfooaaGreatDoorW.PrintWords Go.Proofs.YtbnfeicpjmfooaaGreatDoorW.PrintLast Go.Proofs.YtbnfeicpjmfooaaGreatDoorW.PrintMore Go.Proofs.YtbnfeicpjmfooaaGreatDoor.PzzFits1
/-- A sum whose Go value is x's. -/
def SumIs (x : V) (w : World) (e : Ending) (w' : World) : Prop := ∃ r k, e = .returned r ∧ G k w' x r ∧ Below w.heap.size w w'
end Go.Proofs.YtbnfeicpjmfooaaGreatDoor.NumA
/-
Sums of two arrays or two texts: results that stand.
-/
set_option linter.unusedSimpArgs false
set_option linter.unusedVariables false
namespace Go.Proofs.YtbnfeicpjmfooaaGreatDoor.ValA
open Go.RowKit Go.Lib Go.Proofs.YtbnfeicpjmfooaaGreatDoorW.PrintWords Go.Proofs.YtbnfeicpjmfooaaGreatDoorW.PrintLast Go.Proofs.YtbnfeicpjmfooaaGreatDoorW.PrintMore Go.Proofs.YtbnfeicpjmfooaaGreatDoor.PzzFits1 Go.Proofs.YtbnfeicpjmfooaaGreatDoor.NumA
/-- The sum of two arrays or two texts. -/
def joinV (a b : V) : V := if a.f0 = 4 then txtV a b else catV a b
end Go.Proofs.YtbnfeicpjmfooaaGreatDoor.ValA
