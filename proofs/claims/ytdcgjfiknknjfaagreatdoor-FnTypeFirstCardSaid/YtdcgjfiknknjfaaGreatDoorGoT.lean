/-
What package impl hands on for a value: the Go value of a tree, in memory.
-/
import Derived.Test.YtdcgjfiknknjfaaGreatDoorLookC
import Derived.Test.YtdcgjfiknknjfaaGreatDoorFlatA
set_option linter.unusedSimpArgs false
set_option linter.unusedVariables false
namespace Go.Proofs.YtdcgjfiknknjfaaGreatDoor.NumA
open Go.RowKit Go.Lib Go.Proofs.YtdcgjfiknknjfaaGreatDoor.ValA Go.Proofs.YtdcgjfiknknjfaaGreatDoor.FloH Go.Proofs.YtdcgjfiknknjfaaGreatDoorW.PrintWords Go.Proofs.YtdcgjfiknknjfaaGreatDoorW.PrintLast Go.Proofs.YtdcgjfiknknjfaaGreatDoorW.PrintMore Go.Proofs.YtdcgjfiknknjfaaGreatDoor.PzzFits1
/-- A flat value's. -/
def fg (k h : Int) (s : ByteArray) : Value := if k = 0 then .nilIface else if k = 1 then .iface 4 (.bool false) else if k = 2 then .iface 4 (.bool true) else if k = 3 then gv h else .iface 9 (.string s)
/-- g is x's value in w; all of its blocks are n or behind. -/
inductive G (n : Nat) (w : World) : V → Value → Prop
  | flat (x : V) (hk : x.f0 ≤ 4) : G n w x (fg x.f0 x.f1 x.f2)
  | list (x : V) (hk : x.f0 = 5) (b : Nat) (l : List Value) (hb : n ≤ b) (hl : l.length = x.f3.length) (hw : w.heap[b]? = some (.cells l.toArray 20 (0, 0)))
      (he : ∀ (i : Nat) (y : V) (v : Value), x.f3[i]? = some y → l[i]? = some v → G n w y v) : G n w x (.iface 62 (.slice (some ⟨b, 0, none⟩) x.f3.length x.f3.length))
  | map (x : V) (hk : x.f0 = 6) (b : Nat) (es : List MapEntry) (c : Nat) (hb : n ≤ b) (hl : es.length = x.f4.length) (hw : w.heap[b]? = some (.map es.toArray c))
      (hkey : ∀ (i : Nat) (s : ByteArray) (e : MapEntry), x.f4[i]? = some s → es[i]? = some e → e.key = .string s) (he : ∀ (i : Nat) (y : V) (e : MapEntry), x.f5[i]? = some y → es[i]? = some e → G n w y e.val) : G n w x (.iface 65 (.map (some b)))
theorem G.mono {n m : Nat} {w : World} {x : V} {g : Value} (h : G n w x g) (hm : m ≤ n) : G m w x g := by
  induction h with
  | flat x hk => exact .flat x hk
  | list x hk b l hb hl hw he ih => exact .list x hk b l (by omega) hl hw ih
  | map x hk b es c hb hl hw hkey he ih => exact .map x hk b es c (by omega) hl hw hkey ih
theorem G.keep {n : Nat} {w w' : World} {x : V} {g : Value} (h : G n w x g) (hk : ∀ b, n ≤ b → ∀ o, w.heap[b]? = some o → w'.heap[b]? = some o) : G n w' x g := by
  induction h with
  | flat x h1 => exact .flat x h1
  | list x h1 b l hb hl hw he ih => exact .list x h1 b l hb hl (hk b hb _ hw) ih
  | map x h1 b es c hb hl hw hkey he ih => exact .map x h1 b es c hb hl (hk b hb _ hw) hkey ih
theorem G.keepB {n : Nat} {w w' : World} {x : V} {g : Value} (h : G n w x g) (hb : Below w.heap.size w w') : G n w' x g :=
  h.keep fun b _ o ho => (hb.block b (lt_of_heap ho)).trans ho
theorem G.grown {n k : Nat} {w w' : World} {x : V} {g : Value} (h : G n w x g) (hg : w.grownBy w' (some k)) (hk : k < n) : G n w' x g :=
  h.keep fun b hb o ho => (hg.block b (lt_of_heap ho) (fun e => by cases e; omega)).trans ho
/-- toGo at a value. -/
def ToGo (w0 : World) (x : V) (cs : List Value) : Prop := ∀ w, Below w0.heap.size w0 w →
  Calls Tryz.prog 41 #[.agg cs.toArray] w fun e w' => ∃ g, e = .returned (.tuple #[g, .bool true]) ∧ G w.heap.size w' x g ∧ Below w.heap.size w w'
theorem info_any : (Tryz.prog.info? 20).map (fun i => (i.zero, i.size, i.bytes)) = some (some .nilIface, 1, 16) := by kernel_rfl
theorem made_nil (n : Nat) : madeCells (Value.cells .nilIface) (n * 1) = (List.replicate n Value.nilIface).toArray := by
  have e : Value.cells .nilIface = #[Value.nilIface] := rfl
  rw [e, Nat.mul_one]
  unfold madeCells
  apply Array.ext
  · simp
  · intro i h1 h2
    simp [Nat.mod_one]
theorem runMake (n : Nat) (hn : n ≤ 400) (w : World) : (Instr.makeSlice 62 (.int .i64 n) (.int .i64 n)).run Tryz.prog w = .ok (.slice (some ⟨w.heap.size, 0, none⟩) n n) (w.alloc (.cells (List.replicate n Value.nilIface).toArray 20)) := by
  have hi := info_any
  cases h : Tryz.prog.info? 20 with
  | none => rw [h] at hi; cases hi
  | some i =>
    rw [h] at hi
    have hi := Option.some.inj hi
    simp only [Prod.mk.injEq] at hi
    obtain ⟨h1, h2, h3⟩ := hi
    have := run_makeSlice (P := Tryz.prog) w 62 20 i .nilIface Tryz.underlying62 h h1 .i64 .i64 (n : Int) (n : Int) (by omega) (by omega) (by rw [h2]; omega) (by rw [h3]; omega) (by omega)
    rw [this, Int.toNat_natCast, h2, made_nil]
end Go.Proofs.YtdcgjfiknknjfaaGreatDoor.NumA
