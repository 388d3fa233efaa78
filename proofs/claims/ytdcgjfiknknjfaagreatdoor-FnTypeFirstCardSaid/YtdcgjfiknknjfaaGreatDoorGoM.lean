/-
impl.mapToGo.
-/
import Derived.Test.YtdcgjfiknknjfaaGreatDoorGoL
import Derived.Maps.Keyed
import Derived.Sort.Walk0
set_option linter.unusedSimpArgs false
set_option linter.unusedVariables false
namespace Go.Proofs.YtdcgjfiknknjfaaGreatDoor.NumA
open Go.RowKit Go.Lib Go.Proofs.YtdcgjfiknknjfaaGreatDoor.ValA Go.Proofs.YtdcgjfiknknjfaaGreatDoor.FloH Go.Proofs.YtdcgjfiknknjfaaGreatDoorW.PrintWords Go.Proofs.YtdcgjfiknknjfaaGreatDoorW.PrintLast Go.Proofs.YtdcgjfiknknjfaaGreatDoorW.PrintMore Go.Proofs.YtdcgjfiknknjfaaGreatDoor.PzzFits1
theorem runMakeMap (n : Int) (w : World) : (Instr.makeMap 65 (some (.int .i64 n))).run Tryz.prog w = .ok (.map (some w.heap.size)) (w.alloc (.map #[] 0)) := by
  simp [Instr.makeMap, run_underlying Tryz.underlying65, asInt, asIntOf, Result.andThen]
theorem key_lit (s : ByteArray) (hs : s.size ≤ 9223372036854775807) : keyOf Tryz.prog 9 (.string s) = some (.string s.data.toList) := WideMaps.keyOf_string_mk Tryz.underlying9 hs
theorem run_put {w : World} {b c : Nat} {es : List MapEntry} (hb : w.heap[b]? = some (.map es.toArray c)) (s : ByteArray) (g : Value) (hs : s.size ≤ 9223372036854775807) (hk : ∀ e ∈ es, ∃ t : ByteArray, e.key = .string t ∧ t.size ≤ 9223372036854775807 ∧ t ≠ s) :
    (Instr.mapUpdate 65 (.map (some b)) (.string s) g).run Tryz.prog w = .ok () (ChangeMaps.setBlock w b (.map (es ++ [({ key := .string s, val := g, born := c } : MapEntry)]).toArray (c + 1))) := by
  have K := Maps.string_keyed Tryz.underlying9
  have hkey := key_lit s hs
  have h1 : (Instr.findKey 9 (.string s) es.toArray.toList).run Tryz.prog w = .ok none w := by
    rcases K.find w hkey es (fun e he => by obtain ⟨t, e1, e2, _⟩ := hk e he; exact ⟨_, by rw [e1]; exact key_lit t e2⟩) with ⟨h, _⟩ | ⟨j, e, _, h2, h3⟩
    · exact h
    · obtain ⟨t, e1, _, e3⟩ := hk e (List.mem_of_getElem? h2)
      rw [e1] at h3
      exact absurd (by cases h3; rfl) e3
  simp [Instr.mapUpdate, run_underlying Tryz.underlying65, MapKept.run_getObj_map hb, K.check w false hkey, h1, MapKept.run_setObj_map _ hb, Result.andThen, ChangeMaps.setBlock]
theorem bless_trans {a b c : List UInt8} (h1 : Op.bytesLess a b = true) (h2 : Op.bytesLess b c = true) : Op.bytesLess a c = true := by
  rw [bytesLess_eq, decide_eq_true_eq] at *
  exact List.lt_trans h1 h2
theorem bless_ne {a : List UInt8} (h : Op.bytesLess a a = true) : False := by
  rw [bytesLess_eq, decide_eq_true_eq] at h
  exact List.lt_irrefl _ h
/-- Keys rise. -/
theorem keys_rise {l : List ByteArray} (h : ∀ i : Nat, 0 < i → i < l.length → Op.bytesLess (rdOf ByteArray.empty l (i - 1 : Nat)).toList (rdOf ByteArray.empty l i).toList = true) : ∀ d i : Nat, i + d + 1 < l.length → Op.bytesLess (rdOf ByteArray.empty l i).toList (rdOf ByteArray.empty l (i + d + 1 : Nat)).toList = true
  | 0, i, hl => h (i + 1) (by omega) hl
  | d + 1, i, hl => bless_trans (keys_rise h d i (by omega)) (h (i + (d + 1) + 1) (by omega) hl)
theorem keys_ne {l : List ByteArray} (h : ∀ i : Nat, 0 < i → i < l.length → Op.bytesLess (rdOf ByteArray.empty l (i - 1 : Nat)).toList (rdOf ByteArray.empty l i).toList = true) (i j : Nat) (hij : i < j) (hj : j < l.length) : rdOf ByteArray.empty l i ≠ rdOf ByteArray.empty l j := by
  intro e
  have h2 := keys_rise h (j - i - 1) i (by omega)
  rw [show i + (j - i - 1) + 1 = j by omega, e] at h2
  exact bless_ne h2
theorem key_rd (l : List ByteArray) (j : Nat) (hj : j < l.length) : l[j]? = some (rdOf ByteArray.empty l j) := by
  unfold rdOf
  rw [Int.toNat_natCast, List.getD_eq_getElem?_getD, List.getElem?_eq_getElem hj, Option.getD_some]
def MapGo (w : World) (l4 : List ByteArray) (l5 : List V) (e : Ending) (w' : World) : Prop :=
  ∃ (b : Nat) (es : List MapEntry) (c : Nat), e = .returned (.tuple #[.map (some b), .bool true]) ∧ w.heap.size ≤ b ∧ es.length = l4.length ∧ w'.heap[b]? = some (.map es.toArray c) ∧ (∀ (i : Nat) (s : ByteArray) (e : MapEntry), l4[i]? = some s → es[i]? = some e → e.key = .string s) ∧ (∀ (i : Nat) (y : V) (e : MapEntry), l5[i]? = some y → es[i]? = some e → G w.heap.size w' y e.val) ∧ Below w.heap.size w w'
/-- What stands at the head of mapToGo's round j. -/
def SM (w : World) (cs : Array Value) (l4 : List ByteArray) (l5 : List V) (j : Nat) (es : List MapEntry) (c : Nat) (wr : World) : Prop :=
  Below w.heap.size w wr ∧ wr.heap[w.heap.size]? = some (.cells cs 26 (0, 0)) ∧ es.length = j ∧ wr.heap[w.heap.size + 1]? = some (.map es.toArray c) ∧ (∀ (i : Nat) (s : ByteArray) (e : MapEntry), l4[i]? = some s → es[i]? = some e → e.key = .string s) ∧ ∀ (i : Nat) (y : V) (e : MapEntry), l5[i]? = some y → es[i]? = some e → G (w.heap.size + 2) wr y e.val
def RM (w : World) (cs : Array Value) (l4 : List ByteArray) (l5 : List V) (k : Nat) (i : Value) (wr : World) : Prop :=
  ∃ (j : Nat) (es : List MapEntry) (c : Nat), i = .int .i64 j ∧ k + j = l4.length ∧ SM w cs l4 l5 j es c wr
theorem SM.step {w wr w4 : World} {cs : Array Value} {l4 : List ByteArray} {l5 : List V} {j : Nat} {es : List MapEntry} {c : Nat} (h : SM w cs l4 l5 j es c wr) (hb6 : Below wr.heap.size wr w4) : SM w cs l4 l5 j es c w4 :=
  ⟨h.1.trans (hb6.mono h.1.size), (hb6.block _ (lt_of_heap h.2.1)).trans h.2.1, h.2.2.1, (hb6.block _ (lt_of_heap h.2.2.2.1)).trans h.2.2.2.1, h.2.2.2.2.1, fun i y e hy he => (h.2.2.2.2.2 i y e hy he).keepB hb6⟩
theorem SM.put {w w4 : World} {cs : Array Value} {l4 : List ByteArray} {l5 : List V} {j : Nat} {es : List MapEntry} {c : Nat} (h : SM w cs l4 l5 j es c w4) (h4 : j < l4.length) (h5 : j < l5.length) (hle : w.heap.size + 1 < w4.heap.size) (g : Value) (hg : G (w.heap.size + 2) w4 (rd_T26 l5 j) g) :
    SM w cs l4 l5 (j + 1) (es ++ [({ key := .string (rdOf ByteArray.empty l4 j), val := g, born := c } : MapEntry)]) (c + 1) (ChangeMaps.setBlock w4 (w.heap.size + 1) (.map (es ++ [({ key := .string (rdOf ByteArray.empty l4 j), val := g, born := c } : MapEntry)]).toArray (c + 1))) := by
  have hgr : w4.grownBy (ChangeMaps.setBlock w4 (w.heap.size + 1) (.map (es ++ [({ key := .string (rdOf ByteArray.empty l4 j), val := g, born := c } : MapEntry)]).toArray (c + 1))) (some (w.heap.size + 1)) :=
    ⟨rfl, rfl, rfl, by simp [ChangeMaps.setBlock], fun i _ hi => ChangeMaps.heap_setBlock_other h.2.2.2.1 _ (fun e => hi (by rw [e]))⟩
  refine ⟨h.1.grown hgr h.1.size (fun k hk => by cases hk; omega), (hgr.block _ (lt_of_heap h.2.1) (fun e => by simp at e)).trans h.2.1, by simp [h.2.2.1], ChangeMaps.heap_setBlock_same h.2.2.2.1 _, ?_, ?_⟩
  · intro i s e hs he
    by_cases c1 : i < es.length
    · rw [List.getElem?_append_left c1] at he
      exact h.2.2.2.2.1 i s e hs he
    · rw [List.getElem?_append_right (by omega)] at he
      have h0 : i = j := by
        have := (List.getElem?_eq_some_iff.1 he).1
        have := h.2.2.1
        simp at *
        omega
      subst h0
      rw [key_rd l4 i h4] at hs
      obtain rfl := Option.some.inj hs
      rw [h.2.2.1, Nat.sub_self] at he
      obtain rfl := Option.some.inj he
      rfl
  · intro i y e hy he
    by_cases c1 : i < es.length
    · rw [List.getElem?_append_left c1] at he
      exact (h.2.2.2.2.2 i y e hy he).grown hgr (by omega)
    · rw [List.getElem?_append_right (by omega)] at he
      have h0 : i = j := by
        have := (List.getElem?_eq_some_iff.1 he).1
        have := h.2.2.1
        simp at *
        omega
      subst h0
      rw [rd_at l5 i h5] at hy
      obtain rfl := Option.some.inj hy
      rw [h.2.2.1, Nat.sub_self] at he
      obtain rfl := Option.some.inj he
      exact hg.grown hgr (by omega)
end Go.Proofs.YtdcgjfiknknjfaaGreatDoor.NumA
