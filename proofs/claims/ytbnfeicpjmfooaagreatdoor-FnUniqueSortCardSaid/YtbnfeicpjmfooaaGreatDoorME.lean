/-
Parts of the proof, one behind the other: GoT, GoL, GoM, GoN, GoV, KeyA.
-/
import Derived.Test.YtbnfeicpjmfooaaGreatDoorMB
import Derived.Test.YtbnfeicpjmfooaaGreatDoorMC
import Derived.Maps.Keyed
import Derived.Sort.Walk0
import Derived.Sort.KeysCollected
import Derived.Sort.OwnSorted
import Derived.Maps.RangeWalk
/-
What package impl hands on for a value: the Go value of a tree, in memory.
-/
set_option linter.unusedSimpArgs false
set_option linter.unusedVariables false
namespace Go.Proofs.YtbnfeicpjmfooaaGreatDoor.NumA
open Go.RowKit Go.Lib Go.Proofs.YtbnfeicpjmfooaaGreatDoor.ValA Go.Proofs.YtbnfeicpjmfooaaGreatDoor.FloH Go.Proofs.YtbnfeicpjmfooaaGreatDoorW.PrintWords Go.Proofs.YtbnfeicpjmfooaaGreatDoorW.PrintLast Go.Proofs.YtbnfeicpjmfooaaGreatDoorW.PrintMore Go.Proofs.YtbnfeicpjmfooaaGreatDoor.PzzFits1
/-- A value of JSON, of whatever size that fits. -/
inductive WL : V → Prop where
  | mk (x : V) (h1 : c1B x.f0 x.f1 x.f2 x.f3.length x.f4.length x.f5.length = true) (h2 : c2B x.f1 = true) (n3 : x.f3.length ≤ 1000000) (n4 : x.f4.length ≤ 1000000)
      (hk : ∀ i : Nat, 0 < i → i < x.f4.length → Op.bytesLess (rdOf ByteArray.empty x.f4 (i - 1 : Nat)).toList (rdOf ByteArray.empty x.f4 i).toList = true) (h3 : ∀ y ∈ x.f3, WL y) (h5 : ∀ y ∈ x.f5, WL y) : WL x
theorem loose {x : V} (h : WF x) : WL x := by
  induction h with
  | mk x h1 h2 n3 n4 hk h3 h5 ih3 ih5 => exact .mk x h1 h2 (by omega) (by omega) hk ih3 ih5
/-- A flat value's. -/
def fg (k h : Int) (s : ByteArray) : Value := if k = 0 then .nilIface else if k = 1 then .iface 4 (.bool false) else if k = 2 then .iface 4 (.bool true) else if k = 3 then gv h else .iface 9 (.string s)
/-- g is x's value in w; all of its blocks are n or behind. -/
inductive G (n : Nat) (w : World) : V → Value → Prop
  | flat (x : V) (hk : x.f0 ≤ 4) : G n w x (fg x.f0 x.f1 x.f2)
  | list (x : V) (hk : x.f0 = 5) (b : Nat) (l : List Value) (hb : n ≤ b) (hl : l.length = x.f3.length) (hw : w.heap[b]? = some (.cells l.toArray 20 (0, 0)))
      (he : ∀ (i : Nat) (y : V) (v : Value), x.f3[i]? = some y → l[i]? = some v → G n w y v) : G n w x (.iface 81 (.slice (some ⟨b, 0, none⟩) x.f3.length x.f3.length))
  | map (x : V) (hk : x.f0 = 6) (b : Nat) (es : List MapEntry) (c : Nat) (hb : n ≤ b) (hl : es.length = x.f4.length) (hw : w.heap[b]? = some (.map es.toArray c)) (hst : MapKept.Stamped es.toArray c)
      (hkey : (es.map (·.key)).Perm (x.f4.map Value.string)) (he : ∀ (i : Nat) (s : ByteArray) (y : V) (e : MapEntry), x.f4[i]? = some s → x.f5[i]? = some y → e ∈ es → e.key = .string s → G n w y e.val) : G n w x (.iface 90 (.map (some b)))
theorem G.mono {n m : Nat} {w : World} {x : V} {g : Value} (h : G n w x g) (hm : m ≤ n) : G m w x g := by
  induction h with
  | flat x hk => exact .flat x hk
  | list x hk b l hb hl hw he ih => exact .list x hk b l (by omega) hl hw ih
  | map x hk b es c hb hl hw hst hkey he ih => exact .map x hk b es c (by omega) hl hw hst hkey ih
theorem G.keep {n : Nat} {w w' : World} {x : V} {g : Value} (h : G n w x g) (hk : ∀ b, n ≤ b → ∀ o, w.heap[b]? = some o → w'.heap[b]? = some o) : G n w' x g := by
  induction h with
  | flat x h1 => exact .flat x h1
  | list x h1 b l hb hl hw he ih => exact .list x h1 b l hb hl (hk b hb _ hw) ih
  | map x h1 b es c hb hl hw hst hkey he ih => exact .map x h1 b es c hb hl (hk b hb _ hw) hst hkey ih
theorem G.keepB {n : Nat} {w w' : World} {x : V} {g : Value} (h : G n w x g) (hb : Below w.heap.size w w') : G n w' x g :=
  h.keep fun b _ o ho => (hb.block b (lt_of_heap ho)).trans ho
theorem G.grown {n k : Nat} {w w' : World} {x : V} {g : Value} (h : G n w x g) (hg : w.grownBy w' (some k)) (hk : k < n) : G n w' x g :=
  h.keep fun b hb o ho => (hg.block b (lt_of_heap ho) (fun e => by cases e; omega)).trans ho
/-- toGo at a value. -/
def ToGo (w0 : World) (x : V) (cs : List Value) : Prop := ∀ w, Below w0.heap.size w0 w →
  Calls Tryz.prog 49 #[.agg cs.toArray] w fun e w' => ∃ g, e = .returned (.tuple #[g, .bool true]) ∧ G w.heap.size w' x g ∧ Below w.heap.size w w'
theorem info_any : (Tryz.prog.info? 20).map (fun i => (i.zero, i.size, i.bytes)) = some (some .nilIface, 1, 16) := by kernel_rfl
theorem made_nil (n : Nat) : madeCells (Value.cells .nilIface) (n * 1) = (List.replicate n Value.nilIface).toArray := by
  have e : Value.cells .nilIface = #[Value.nilIface] := rfl
  rw [e, Nat.mul_one]
  unfold madeCells
  apply Array.ext
  · simp
  · intro i h1 h2
    simp [Nat.mod_one]
theorem runMake (n : Nat) (hn : n ≤ 1000000) (w : World) : (Instr.makeSlice 81 (.int .i64 n) (.int .i64 n)).run Tryz.prog w = .ok (.slice (some ⟨w.heap.size, 0, none⟩) n n) (w.alloc (.cells (List.replicate n Value.nilIface).toArray 20)) := by
  have hi := info_any
  cases h : Tryz.prog.info? 20 with
  | none => rw [h] at hi; cases hi
  | some i =>
    rw [h] at hi
    have hi := Option.some.inj hi
    simp only [Prod.mk.injEq] at hi
    obtain ⟨h1, h2, h3⟩ := hi
    have := run_makeSlice (P := Tryz.prog) w 81 20 i .nilIface Tryz.underlying81 h h1 .i64 .i64 (n : Int) (n : Int) (by omega) (by omega) (by rw [h2]; omega) (by rw [h3]; omega) (by omega)
    rw [this, Int.toNat_natCast, h2, made_nil]
end Go.Proofs.YtbnfeicpjmfooaaGreatDoor.NumA
/-
impl.listToGo.
-/
set_option linter.unusedSimpArgs false
set_option linter.unusedVariables false
namespace Go.Proofs.YtbnfeicpjmfooaaGreatDoor.NumA
open Go.RowKit Go.Lib Go.Proofs.YtbnfeicpjmfooaaGreatDoor.ValA Go.Proofs.YtbnfeicpjmfooaaGreatDoor.FloH Go.Proofs.YtbnfeicpjmfooaaGreatDoorW.PrintWords Go.Proofs.YtbnfeicpjmfooaaGreatDoorW.PrintLast Go.Proofs.YtbnfeicpjmfooaaGreatDoorW.PrintMore Go.Proofs.YtbnfeicpjmfooaaGreatDoor.PzzFits1
/-- What listToGo gives. -/
def ListGo (w : World) (l : List V) (n : Nat) (e : Ending) (w' : World) : Prop :=
  ∃ (b : Nat) (vs : List Value), e = .returned (.tuple #[.slice (some ⟨b, 0, none⟩) n n, .bool true]) ∧ w.heap.size ≤ b ∧ vs.length = n ∧ w'.heap[b]? = some (.cells vs.toArray 20 (0, 0)) ∧ (∀ (i : Nat) (y : V) (v : Value), l[i]? = some y → vs[i]? = some v → G w.heap.size w' y v) ∧ Below w.heap.size w w'
def RL (w : World) (l : List V) (n k : Nat) (i : Value) (wr : World) : Prop :=
  ∃ (j : Nat) (vs : List Value), i = .int .i64 j ∧ k + j = n ∧ Below w.heap.size w wr ∧ vs.length = n ∧ wr.heap[w.heap.size]? = some (.cells vs.toArray 20 (0, 0)) ∧ ∀ (i : Nat) (y : V) (v : Value), i < j → l[i]? = some y → vs[i]? = some v → G (w.heap.size + 1) wr y v
theorem G.shape {n : Nat} {w : World} {x : V} {g : Value} (h : G n w x g) : g = .nilIface ∨ ∃ t v, g = .iface t v := by
  cases h with
  | flat x hk =>
    unfold fg
    split
    · exact .inl rfl
    · right
      split
      · exact ⟨_, _, rfl⟩
      · split
        · exact ⟨_, _, rfl⟩
        · split
          · unfold gv; split <;> exact ⟨_, _, rfl⟩
          · exact ⟨_, _, rfl⟩
  | list x hk b l hb hl hw he => exact .inr ⟨_, _, rfl⟩
  | map x hk b es c hb hl hw hst hkey he => exact .inr ⟨_, _, rfl⟩
theorem list_cell {w : World} {b j : Nat} {vs : List Value} {t : TypeId} (h : w.heap[b]? = some (.cells vs.toArray t (0, 0))) (hj : j < vs.length) : w.cell? ⟨b, j, none⟩ = some vs[j] ∧ w.frozen? ⟨b, j, none⟩ = false := by
  simp [World.cell?, World.frozen?, h, hj]
theorem rd_at (l : List V) (j : Nat) (hj : j < l.length) : l[j]? = some (rd_T26 l j) := by
  unfold rd_T26
  rw [Int.toNat_natCast, List.getD_eq_getElem?_getD, List.getElem?_eq_getElem hj, Option.getD_some]
/-- A round of listToGo. -/
theorem rl_step {w wr w4 : World} {l : List V} {n j : Nat} {vs : List Value} (g : Value) (hb5 : Below w.heap.size w w4) (hb6 : Below wr.heap.size wr w4) (hvs : vs.length = n) (hbl : w4.heap[w.heap.size]? = some (.cells vs.toArray 20 (0, 0))) (hl : l.length = n) (hlt : j < n)
    (hG : ∀ (i : Nat) (y : V) (v : Value), i < j → l[i]? = some y → vs[i]? = some v → G (w.heap.size + 1) wr y v) (hg : G (w.heap.size + 1) w4 (rd_T26 l j) g) : ∀ k, k + j = n → RL w l n (k - 1) (.int .i64 ((j + 1 : Nat) : Int)) (w4.setCell ⟨w.heap.size, j, none⟩ g) := by
  intro k hk
  have hgr : w4.grownBy (w4.setCell ⟨w.heap.size, j, none⟩ g) (some w.heap.size) := grown_set (World.grownBy.refl w4 _) j g
  refine ⟨j + 1, vs.set j g, rfl, by omega, hb5.grown hgr hb5.size (fun k hk => by cases hk; exact Nat.le_refl _), by simp [hvs], ?_, ?_⟩
  · rw [heap_set hbl j g]
    simp
  · intro i y v hi hy hv
    by_cases e : i = j
    · subst e
      rw [rd_at l i (by omega)] at hy
      obtain rfl := Option.some.inj hy
      have : v = g := by
        rw [List.getElem?_set] at hv
        simp [hvs, hlt] at hv
        exact hv.symm
      subst this
      exact hg.grown hgr (Nat.lt_succ_self _)
    · rw [List.getElem?_set_ne (Ne.symm e)] at hv
      exact ((hG i y v (by omega) hy hv).keepB hb6).grown hgr (Nat.lt_succ_self _)
set_option maxHeartbeats 4000000 in
theorem listToGo_any (w0 : World) (A : Option Addr) (n c : Nat) (l : List V) (hC : Kd.C k26 w0 A n l) (hl : l.length = n) (hn : n ≤ 1000000) (ih : ∀ y ∈ l, ∀ cs, k26.K w0 y cs → ToGo w0 y cs) (w : World) (hb : Below w0.heap.size w0 w) :
    Calls Tryz.prog 77 #[.slice A n c] w (ListGo w l n) := by
  have hmk := fun w => runMake n hn w
  have HC := Lib.hid hC
  have HI := Lib.hid (fun y hy cs hc => ih y hy cs hc)
  have HB := Lib.hid hb
  have HN := Lib.hid (And.intro hn hl)
  clear hC ih hb hl
  go_enter Tryz.func77, Tryz.ntmps77
  go_wp2_with fail
  obtain ⟨W1, hW1⟩ : ∃ W1, W1 = w.alloc (.cells (Array.replicate n Value.nilIface) 20) := ⟨_, rfl⟩
  have H1 := Lib.hid (show Below w.heap.size w W1 ∧ W1.heap[w.heap.size]? = some (.cells (List.replicate n Value.nilIface).toArray 20 (0, 0)) by rw [hW1, List.toArray_replicate]; exact ⟨(Below.refl _ w).alloc (Nat.le_refl _) _, heap_alloc_new w _⟩)
  rw [← hW1]
  clear hW1 hmk
  go_loopg [14] n (fun k i wr => RL w l n k i wr)
  case atStart => exact ⟨0, List.replicate n Value.nilIface, rfl, by omega, H1.out.1, by simp, H1.out.2, by omega⟩
  case round =>
    clear H1
    obtain ⟨j, vs, rfl, hkj, hbr, hvs, hbl, hG⟩ := hrel
    have HR := Lib.hid (And.intro hbr (And.intro hvs (And.intro hbl hG)))
    have HK := Lib.hid hkj
    by_cases hlt : j < n
    · obtain ⟨ad, B3, e3, B4, e4, B5, e5, rfl, x0, x1, x2, x3, x4, x5, hK⟩ := elem_at HC.out (HB.out.trans (hbr.mono HB.out.size)) j hlt
      have HL := Lib.hid (HI.out _ (rd_mem l j (by have := HN.out.2; omega)) _ hK)
      have hlt2 : (j : Int) < (n : Int) := by omega
      clear hbr hvs hbl hG hK hkj hn
      go_wp2_with fail
      refine (HL.out _ ?_).mono ?_
      · exact (HB.out.trans (HR.out.1.mono HB.out.size)).alloc (Nat.le_trans HB.out.size HR.out.1.size) _
      rintro e w4 ⟨g, rfl, hG, hb4⟩
      have hs := hG.shape
      have hb5 : Below w.heap.size w w4 := (HR.out.1.alloc HR.out.1.size _).trans (hb4.mono (Nat.le_trans HR.out.1.size (by rw [World.size_alloc]; omega)))
      have hb6 : Below wr.heap.size wr w4 := ((Below.refl _ wr).alloc (Nat.le_refl _) _).trans (hb4.mono (by rw [World.size_alloc]; omega))
      have hbl := (hb6.block _ (lt_of_heap HR.out.2.2.1)).trans HR.out.2.2.1
      have H4 := Lib.hid (rl_step g hb5 hb6 HR.out.2.1 hbl HN.out.2 hlt HR.out.2.2.2 (hG.mono (show w.heap.size + 1 ≤ _ by have := lt_of_heap HR.out.2.2.1; rw [World.size_alloc]; omega)))
      obtain ⟨q0, q1⟩ := list_cell hbl (by have := HR.out.2.1; omega : j < vs.length)
      clear x0 x1 x2 x3 x4 x5 hG hb4 hb5 hb6 hbl
      rcases hs with rfl | ⟨tt, gg, rfl⟩
      · have H5 := H4
        go_wp2_with fail
        go_roundg (gk - 1)
        case measure => have := HK.out; omega
        case rel =>
          have hw : wrap64 ((j : Int) + 1) = ((j + 1 : Nat) : Int) := by have := HN.out.1; have := HK.out; unfold wrap64; omega
          rw [hw]
          exact H5.out gk HK.out
      · have H5 := H4
        go_wp2_with fail
        go_roundg (gk - 1)
        case measure => have := HK.out; omega
        case rel =>
          have hw : wrap64 ((j : Int) + 1) = ((j + 1 : Nat) : Int) := by have := HN.out.1; have := HK.out; unfold wrap64; omega
          rw [hw]
          exact H5.out gk HK.out
    · have hlt2 : ¬ (j : Int) < (n : Int) := by omega
      have hlt3 : decide ((j : Int) < (n : Int)) = false := decide_eq_false hlt2
      have hlt4 : decide (j < n) = false := decide_eq_false hlt
      have HNL := Lib.hid hlt
      clear hbr hvs hbl hG hkj hn hlt hlt2
      go_wp2_with fail
      go_ret2
      refine ⟨w.heap.size, vs, rfl, Nat.le_refl _, HR.out.2.1, HR.out.2.2.1, fun i y v hy hv => ?_, HR.out.1⟩
      have hi := (List.getElem?_eq_some_iff.1 hy).1
      exact (HR.out.2.2.2 i y v (by have := HN.out.2; have := HNL.out; omega) hy hv).mono (Nat.le_succ _)
end Go.Proofs.YtbnfeicpjmfooaaGreatDoor.NumA
/-
impl.mapToGo.
-/
set_option linter.unusedSimpArgs false
set_option linter.unusedVariables false
namespace Go.Proofs.YtbnfeicpjmfooaaGreatDoor.NumA
open Go.RowKit Go.Lib Go.Proofs.YtbnfeicpjmfooaaGreatDoor.ValA Go.Proofs.YtbnfeicpjmfooaaGreatDoor.FloH Go.Proofs.YtbnfeicpjmfooaaGreatDoorW.PrintWords Go.Proofs.YtbnfeicpjmfooaaGreatDoorW.PrintLast Go.Proofs.YtbnfeicpjmfooaaGreatDoorW.PrintMore Go.Proofs.YtbnfeicpjmfooaaGreatDoor.PzzFits1
theorem runMakeMap (n : Int) (w : World) : (Instr.makeMap 90 (some (.int .i64 n))).run Tryz.prog w = .ok (.map (some w.heap.size)) (w.alloc (.map #[] 0)) := by
  simp [Instr.makeMap, run_underlying Tryz.underlying90, asInt, asIntOf, Result.andThen]
theorem key_lit (s : ByteArray) (hs : s.size ≤ 9223372036854775807) : keyOf Tryz.prog 9 (.string s) = some (.string s.data.toList) := WideMaps.keyOf_string_mk Tryz.underlying9 hs
theorem run_put {w : World} {b c : Nat} {es : List MapEntry} (hb : w.heap[b]? = some (.map es.toArray c)) (s : ByteArray) (g : Value) (hs : s.size ≤ 9223372036854775807) (hk : ∀ e ∈ es, ∃ t : ByteArray, e.key = .string t ∧ t.size ≤ 9223372036854775807 ∧ t ≠ s) :
    (Instr.mapUpdate 90 (.map (some b)) (.string s) g).run Tryz.prog w = .ok () (ChangeMaps.setBlock w b (.map (es ++ [({ key := .string s, val := g, born := c } : MapEntry)]).toArray (c + 1))) := by
  have K := Maps.string_keyed Tryz.underlying9
  have hkey := key_lit s hs
  have h1 : (Instr.findKey 9 (.string s) es.toArray.toList).run Tryz.prog w = .ok none w := by
    rcases K.find w hkey es (fun e he => by obtain ⟨t, e1, e2, _⟩ := hk e he; exact ⟨_, by rw [e1]; exact key_lit t e2⟩) with ⟨h, _⟩ | ⟨j, e, _, h2, h3⟩
    · exact h
    · obtain ⟨t, e1, _, e3⟩ := hk e (List.mem_of_getElem? h2)
      rw [e1] at h3
      exact absurd (by cases h3; rfl) e3
  simp [Instr.mapUpdate, run_underlying Tryz.underlying90, MapKept.run_getObj_map hb, K.check w false hkey, h1, MapKept.run_setObj_map _ hb, Result.andThen, ChangeMaps.setBlock]
theorem bless_trans {a b c : List UInt8} (h1 : Op.bytesLess a b = true) (h2 : Op.bytesLess b c = true) : Op.bytesLess a c = true := by
  rw [bytesLess_eq, decide_eq_true_eq] at *
  exact List.lt_trans h1 h2
theorem bless_ne {a : List UInt8} (h : Op.bytesLess a a = true) : False := by
  rw [bytesLess_eq, decide_eq_true_eq] at h
  exact List.lt_irrefl _ h
/-- Keys rise. -/
theorem keys_rise {l : List ByteArray} (h : ∀ i : Nat, 0 < i → i < l.length → Op.bytesLess (rdOf ByteArray.empty l (i - 1 : Nat)).toList (rdOf ByteArray.empty l i).toList = true) : ∀ d i : Nat, i + d + 1 < l.length → Op.bytesLess (rdOf ByteArray.empty l i).toList (rdOf ByteArray.empty l (i + d + 1 : Nat)).toList = true
  | 0, i, hl => h (i + 1) (by omega) hl
  | d + 1, i, hl => bless_trans (keys_rise h d i (by omega)) (h (i + (d + 1) + 1) (by omega) hl)
theorem keys_ne {l : List ByteArray} (h : ∀ i : Nat, 0 < i → i < l.length → Op.bytesLess (rdOf ByteArray.empty l (i - 1 : Nat)).toList (rdOf ByteArray.empty l i).toList = true) (i j : Nat) (hij : i < j) (hj : j < l.length) : rdOf ByteArray.empty l i ≠ rdOf ByteArray.empty l j := by
  intro e
  have h2 := keys_rise h (j - i - 1) i (by omega)
  rw [show i + (j - i - 1) + 1 = j by omega, e] at h2
  exact bless_ne h2
theorem key_rd (l : List ByteArray) (j : Nat) (hj : j < l.length) : l[j]? = some (rdOf ByteArray.empty l j) := by
  unfold rdOf
  rw [Int.toNat_natCast, List.getD_eq_getElem?_getD, List.getElem?_eq_getElem hj, Option.getD_some]
def MapGo (w : World) (l4 : List ByteArray) (l5 : List V) (e : Ending) (w' : World) : Prop :=
  ∃ (b : Nat) (es : List MapEntry) (c : Nat), e = .returned (.tuple #[.map (some b), .bool true]) ∧ w.heap.size ≤ b ∧ es.length = l4.length ∧ w'.heap[b]? = some (.map es.toArray c) ∧ MapKept.Stamped es.toArray c ∧ (∀ (i : Nat) (s : ByteArray) (e : MapEntry), l4[i]? = some s → es[i]? = some e → e.key = .string s) ∧ (∀ (i : Nat) (y : V) (e : MapEntry), l5[i]? = some y → es[i]? = some e → G w.heap.size w' y e.val) ∧ Below w.heap.size w w'
/-- What stands at the head of mapToGo's round j. -/
def SM (w : World) (cs : Array Value) (l4 : List ByteArray) (l5 : List V) (j : Nat) (es : List MapEntry) (c : Nat) (wr : World) : Prop :=
  Below w.heap.size w wr ∧ wr.heap[w.heap.size]? = some (.cells cs 26 (0, 0)) ∧ es.length = j ∧ wr.heap[w.heap.size + 1]? = some (.map es.toArray c) ∧ MapKept.Stamped es.toArray c ∧ (∀ (i : Nat) (s : ByteArray) (e : MapEntry), l4[i]? = some s → es[i]? = some e → e.key = .string s) ∧ ∀ (i : Nat) (y : V) (e : MapEntry), l5[i]? = some y → es[i]? = some e → G (w.heap.size + 2) wr y e.val
def RM (w : World) (cs : Array Value) (l4 : List ByteArray) (l5 : List V) (k : Nat) (i : Value) (wr : World) : Prop :=
  ∃ (j : Nat) (es : List MapEntry) (c : Nat), i = .int .i64 j ∧ k + j = l4.length ∧ SM w cs l4 l5 j es c wr
theorem SM.step {w wr w4 : World} {cs : Array Value} {l4 : List ByteArray} {l5 : List V} {j : Nat} {es : List MapEntry} {c : Nat} (h : SM w cs l4 l5 j es c wr) (hb6 : Below wr.heap.size wr w4) : SM w cs l4 l5 j es c w4 :=
  ⟨h.1.trans (hb6.mono h.1.size), (hb6.block _ (lt_of_heap h.2.1)).trans h.2.1, h.2.2.1, (hb6.block _ (lt_of_heap h.2.2.2.1)).trans h.2.2.2.1, h.2.2.2.2.1, h.2.2.2.2.2.1, fun i y e hy he => (h.2.2.2.2.2.2 i y e hy he).keepB hb6⟩
theorem SM.put {w w4 : World} {cs : Array Value} {l4 : List ByteArray} {l5 : List V} {j : Nat} {es : List MapEntry} {c : Nat} (h : SM w cs l4 l5 j es c w4) (h4 : j < l4.length) (h5 : j < l5.length) (hle : w.heap.size + 1 < w4.heap.size) (hne : ∀ e ∈ es, e.key ≠ .string (rdOf ByteArray.empty l4 j)) (g : Value) (hg : G (w.heap.size + 2) w4 (rd_T26 l5 j) g) :
    SM w cs l4 l5 (j + 1) (es ++ [({ key := .string (rdOf ByteArray.empty l4 j), val := g, born := c } : MapEntry)]) (c + 1) (ChangeMaps.setBlock w4 (w.heap.size + 1) (.map (es ++ [({ key := .string (rdOf ByteArray.empty l4 j), val := g, born := c } : MapEntry)]).toArray (c + 1))) := by
  have hgr : w4.grownBy (ChangeMaps.setBlock w4 (w.heap.size + 1) (.map (es ++ [({ key := .string (rdOf ByteArray.empty l4 j), val := g, born := c } : MapEntry)]).toArray (c + 1))) (some (w.heap.size + 1)) :=
    ⟨rfl, rfl, rfl, by simp [ChangeMaps.setBlock], fun i _ hi => ChangeMaps.heap_setBlock_other h.2.2.2.1 _ (fun e => hi (by rw [e]))⟩
  refine ⟨h.1.grown hgr h.1.size (fun k hk => by cases hk; omega), (hgr.block _ (lt_of_heap h.2.1) (fun e => by simp at e)).trans h.2.1, by simp [h.2.2.1], ChangeMaps.heap_setBlock_same h.2.2.2.1 _, by
    have := MapKept.stamped_push (val := g) h.2.2.2.2.1 (key := .string (rdOf ByteArray.empty l4 j)) (fun x hx => hne x (by simpa using hx))
    simpa using this, ?_, ?_⟩
  · intro i s e hs he
    by_cases c1 : i < es.length
    · rw [List.getElem?_append_left c1] at he
      exact h.2.2.2.2.2.1 i s e hs he
    · rw [List.getElem?_append_right (by omega)] at he
      have h0 : i = j := by
        have := (List.getElem?_eq_some_iff.1 he).1
        have := h.2.2.1
        simp at *
        omega
      subst h0
      rw [key_rd l4 i h4] at hs
      obtain rfl := Option.some.inj hs
      rw [h.2.2.1, Nat.sub_self] at he
      obtain rfl := Option.some.inj he
      rfl
  · intro i y e hy he
    by_cases c1 : i < es.length
    · rw [List.getElem?_append_left c1] at he
      exact (h.2.2.2.2.2.2 i y e hy he).grown hgr (by omega)
    · rw [List.getElem?_append_right (by omega)] at he
      have h0 : i = j := by
        have := (List.getElem?_eq_some_iff.1 he).1
        have := h.2.2.1
        simp at *
        omega
      subst h0
      rw [rd_at l5 i h5] at hy
      obtain rfl := Option.some.inj hy
      rw [h.2.2.1, Nat.sub_self] at he
      obtain rfl := Option.some.inj he
      exact hg.grown hgr (by omega)
end Go.Proofs.YtbnfeicpjmfooaaGreatDoor.NumA
/-
impl.mapToGo, walked.
-/
set_option linter.unusedSimpArgs false
set_option linter.unusedVariables false
namespace Go.Proofs.YtbnfeicpjmfooaaGreatDoor.NumA
open Go.RowKit Go.Lib Go.Proofs.YtbnfeicpjmfooaaGreatDoor.ValA Go.Proofs.YtbnfeicpjmfooaaGreatDoor.FloH Go.Proofs.YtbnfeicpjmfooaaGreatDoorW.PrintWords Go.Proofs.YtbnfeicpjmfooaaGreatDoorW.PrintLast Go.Proofs.YtbnfeicpjmfooaaGreatDoorW.PrintMore Go.Proofs.YtbnfeicpjmfooaaGreatDoor.PzzFits1
theorem SM.next {w wr w4 : World} {cs : Array Value} {l4 : List ByteArray} {l5 : List V} {j : Nat} {es : List MapEntry} {c : Nat} (h : SM w cs l4 l5 j es c wr) (hb4 : Below wr.heap.size wr w4) {g : Value} (hG : G wr.heap.size w4 (rd_T26 l5 j) g) (h4 : j < l4.length) (h5 : j < l5.length) (hs4 : ∀ s ∈ l4, s.size ≤ 9223372036854775807)
    (hk : ∀ i : Nat, 0 < i → i < l4.length → Op.bytesLess (rdOf ByteArray.empty l4 (i - 1 : Nat)).toList (rdOf ByteArray.empty l4 i).toList = true) :
    ∃ W es' c', (Instr.mapUpdate 90 (.map (some (w.heap.size + 1))) (.string (rdOf ByteArray.empty l4 j)) g).run Tryz.prog w4 = .ok () W ∧ SM w cs l4 l5 (j + 1) es' c' W := by
  have h1 := h.step hb4
  have hlt := lt_of_heap h.2.2.2.1
  have hks : ∀ e ∈ es, ∃ t : ByteArray, e.key = .string t ∧ t.size ≤ 9223372036854775807 ∧ t ≠ rdOf ByteArray.empty l4 j := by
    intro e he
    obtain ⟨i, hi⟩ := List.getElem?_of_mem he
    have hij : i < j := by
      have := (List.getElem?_eq_some_iff.1 hi).1
      have := h.2.2.1
      omega
    exact ⟨_, h.2.2.2.2.2.1 i _ e (key_rd l4 i (by omega)) hi, hs4 _ (key_mem l4 i (by omega)), keys_ne hk i j hij h4⟩
  refine ⟨_, _, _, run_put h1.2.2.2.1 _ g (hs4 _ (key_mem l4 j h4)) hks, h1.put h4 h5 (Nat.lt_of_lt_of_le hlt hb4.size) ?_ g (hG.mono hlt)⟩
  intro e he h
  obtain ⟨t, e1, _, e3⟩ := hks e he
  rw [e1] at h
  exact e3 (by cases h; rfl)
set_option maxHeartbeats 8000000 in
theorem mapToGo_any (w0 : World) (K H : Int) (s : ByteArray) (A3 A4 A5 : Option Addr) (n3 c3 n4 c4 c5 : Nat) (l4 : List ByteArray) (l5 : List V) (hC4 : Kd.C Kd.string w0 A4 n4 l4) (hC5 : Kd.C k26 w0 A5 n4 l5) (h4 : l4.length = n4) (h5 : l5.length = n4) (hn : n4 ≤ 1000000) (hs4 : ∀ s ∈ l4, s.size ≤ 9223372036854775807)
    (hk : ∀ i : Nat, 0 < i → i < l4.length → Op.bytesLess (rdOf ByteArray.empty l4 (i - 1 : Nat)).toList (rdOf ByteArray.empty l4 i).toList = true) (ih : ∀ y ∈ l5, ∀ cs, k26.K w0 y cs → ToGo w0 y cs) (w : World) (hb : Below w0.heap.size w0 w) :
    Calls Tryz.prog 87 #[.agg #[.int .i64 K, .int .i64 H, .string s, .slice A3 n3 c3, .slice A4 n4 c4, .slice A5 n4 c5]] w (MapGo w l4 l5) := by
  have hmk := fun w => runMakeMap (n4 : Int) w
  have HC := Lib.hid (And.intro hC4 hC5)
  have HI := Lib.hid (fun y hy cs hc => ih y hy cs hc)
  have HB := Lib.hid hb
  have HN := Lib.hid (And.intro hn (And.intro h4 h5))
  have HK := Lib.hid hk
  have HS := Lib.hid hs4
  clear hC4 hC5 ih hb h4 h5 hk hs4
  go_enter Tryz.func87, Tryz.ntmps87
  go_wp2_with fail
  obtain ⟨W1, hW1⟩ : ∃ W1, W1 = (w.alloc (.cells #[.int .i64 K, .int .i64 H, .string s, .slice A3 n3 c3, .slice A4 n4 c4, .slice A5 n4 c5] 26)).alloc (.map #[] 0) := ⟨_, rfl⟩
  have H1 := Lib.hid (show SM w #[.int .i64 K, .int .i64 H, .string s, .slice A3 n3 c3, .slice A4 n4 c4, .slice A5 n4 c5] l4 l5 0 [] 0 W1 by
    rw [hW1]
    have h1 := heap_alloc_new w (.cells #[.int .i64 K, .int .i64 H, .string s, .slice A3 n3 c3, .slice A4 n4 c4, .slice A5 n4 c5] 26)
    have h2 := heap_alloc_new (w.alloc (.cells #[.int .i64 K, .int .i64 H, .string s, .slice A3 n3 c3, .slice A4 n4 c4, .slice A5 n4 c5] 26)) (.map #[] 0)
    rw [World.size_alloc] at h2
    exact ⟨((Below.refl _ w).alloc (Nat.le_refl _) _).alloc (by rw [World.size_alloc]; omega) _, ((World.grownBy_alloc _ (.map #[] 0) none).block _ (lt_of_heap h1) (by simp)).trans h1, rfl, h2, MapKept.stamped_empty 0, fun i s e _ h => by simp at h, fun i y e _ h => by simp at h⟩)
  rw [← hW1]
  clear hW1 hmk
  go_loopg [23] n4 (fun k i wr => RM w #[.int .i64 K, .int .i64 H, .string s, .slice A3 n3 c3, .slice A4 n4 c4, .slice A5 n4 c5] l4 l5 k i wr)
  case atStart => exact ⟨0, [], 0, rfl, by have := HN.out.2.1; omega, H1.out⟩
  case round =>
    clear H1
    obtain ⟨j, es, c, rfl, hkj, hS⟩ := hrel
    have HR := Lib.hid hS
    have HJ := Lib.hid hkj
    have y := six_cells hS.2.1
    by_cases hlt : j < n4
    · obtain ⟨ak, rfl, xk⟩ := key_at HC.out.1 (HB.out.trans (hS.1.mono HB.out.size)) j hlt
      obtain ⟨ad, B3, e3, B4, e4, B5, e5, rfl, x0, x1, x2, x3, x4, x5, hK⟩ := elem_at HC.out.2 (HB.out.trans (hS.1.mono HB.out.size)) j hlt
      have HL := Lib.hid (HI.out _ (rd_mem l5 j (by have := HN.out.2.2; omega)) _ hK)
      have hlt2 : (j : Int) < (n4 : Int) := by omega
      have HLT := Lib.hid hlt
      clear hK hkj hn
      by_cases hj0 : j = 0
      · have e0 : decide (0 < (j : Int)) = false := decide_eq_false (by omega)
        have e1 : decide (0 < j) = false := decide_eq_false (by omega)
        clear hS hj0
        go_wp2_with fail
        refine (HL.out wr (HB.out.trans (HR.out.1.mono HB.out.size))).mono ?_
        rintro e w4 ⟨g, rfl, hG, hb4⟩
        obtain ⟨W5, es', c', hput, hS5⟩ := HR.out.next hb4 hG (by have := HN.out.2.1; have := HLT.out; omega) (by have := HN.out.2.2; have := HLT.out; omega) HS.out HK.out
        have H5 := Lib.hid hS5
        clear hG hb4 hS5 y x0 x1 x2 x3 x4 x5
        go_wp2_with fail
        go_roundg (gk - 1)
        case measure => have := HJ.out; have := HN.out.2.1; have := HLT.out; omega
        case rel =>
          have hw : wrap64 ((j : Int) + 1) = ((j + 1 : Nat) : Int) := by have := HN.out.1; have := HLT.out; unfold wrap64; omega
          rw [hw]
          exact ⟨j + 1, es', c', rfl, by have := HJ.out; have := HN.out.2.1; have := HLT.out; omega, H5.out⟩
      · obtain ⟨m, hm⟩ : ∃ m, m + 1 = j := ⟨j - 1, by omega⟩
        have e0 : decide (0 < (j : Int)) = true := decide_eq_true (by omega)
        have e1 : decide (0 < j) = true := decide_eq_true (by omega)
        obtain ⟨ak', eak', xm⟩ := key_at HC.out.1 (HB.out.trans (hS.1.mono HB.out.size)) m (by omega)
        obtain rfl : ak' = ak := (Option.some.inj eak').symm
        have e2 : wrap64 ((j : Int) - 1) = (m : Int) := by have := HN.out.1; unfold wrap64; omega
        have e3 : (m : Int) < (n4 : Int) := by omega
        have e4b : Op.bytesLess (rdOf ByteArray.empty l4 m).toList (rdOf ByteArray.empty l4 j).toList = true := by
          have h := HK.out j (by omega) (by have := HN.out.2.1; omega)
          rwa [show j - 1 = m by omega] at h
        clear hS hj0 eak' hm
        go_wp2_with fail
        clear xm e2 e3 e4b
        refine (HL.out wr (HB.out.trans (HR.out.1.mono HB.out.size))).mono ?_
        rintro e w4 ⟨g, rfl, hG, hb4⟩
        obtain ⟨W5, es', c', hput, hS5⟩ := HR.out.next hb4 hG (by have := HN.out.2.1; have := HLT.out; omega) (by have := HN.out.2.2; have := HLT.out; omega) HS.out HK.out
        have H5 := Lib.hid hS5
        clear hG hb4 hS5 y x0 x1 x2 x3 x4 x5
        go_wp2_with fail
        go_roundg (gk - 1)
        case measure => have := HJ.out; have := HN.out.2.1; have := HLT.out; omega
        case rel =>
          have hw : wrap64 ((j : Int) + 1) = ((j + 1 : Nat) : Int) := by have := HN.out.1; have := HLT.out; unfold wrap64; omega
          rw [hw]
          exact ⟨j + 1, es', c', rfl, by have := HJ.out; have := HN.out.2.1; have := HLT.out; omega, H5.out⟩
    · have hlt2 : ¬ (j : Int) < (n4 : Int) := by omega
      have hlt3 : decide ((j : Int) < (n4 : Int)) = false := decide_eq_false hlt2
      have hlt4 : decide (j < n4) = false := decide_eq_false hlt
      have HNL := Lib.hid hlt
      clear hS hkj hn hlt hlt2
      go_wp2_with fail
      go_ret2
      have hj : j = l4.length := by have := HJ.out; have := HN.out.2.1; have := HNL.out; omega
      exact ⟨w.heap.size + 1, es, c, rfl, Nat.le_succ _, by rw [HR.out.2.2.1, hj], HR.out.2.2.2.1, HR.out.2.2.2.2.1, HR.out.2.2.2.2.2.1, fun i y e hy he => (HR.out.2.2.2.2.2.2 i y e hy he).mono (by omega), HR.out.1⟩
end Go.Proofs.YtbnfeicpjmfooaaGreatDoor.NumA
/-
impl.toGo at any value of JSON.
-/
set_option linter.unusedSimpArgs false
set_option linter.unusedVariables false
namespace Go.Proofs.YtbnfeicpjmfooaaGreatDoor.NumA
open Go.RowKit Go.Lib Go.Proofs.YtbnfeicpjmfooaaGreatDoor.ValA Go.Proofs.YtbnfeicpjmfooaaGreatDoor.FloH Go.Proofs.YtbnfeicpjmfooaaGreatDoorW.PrintWords Go.Proofs.YtbnfeicpjmfooaaGreatDoorW.PrintLast Go.Proofs.YtbnfeicpjmfooaaGreatDoorW.PrintMore Go.Proofs.YtbnfeicpjmfooaaGreatDoor.PzzFits1
theorem wf_facts {x : V} (h : WL x) : 0 ≤ x.f0 ∧ x.f0 ≤ 6 ∧ JN x.f1 ∧ x.f4.length = x.f5.length := by
  obtain ⟨_, h1, h2, _⟩ := h
  unfold c1B at h1
  unfold c2B at h2
  simp only [Bool.and_eq_true, Bool.or_eq_true, decide_eq_true_eq, beq_iff_eq] at h1 h2
  refine ⟨h1.1.1.1.1.1.1, h1.1.1.1.1.1.2, ⟨h2.1, ?_⟩, h1.2⟩
  rcases h2.2 with e | e
  · left
    exact Int.emod_eq_zero_of_dvd (Int.dvd_of_tmod_eq_zero e)
  · exact .inr e
/-- Two entries of a map with one key are one. -/
theorem one_entry : ∀ {l : List MapEntry}, l.Pairwise (fun x y => x.key ≠ y.key) → ∀ {x y : MapEntry}, x ∈ l → y ∈ l → x.key = y.key → x = y
  | [], _, _, _, hx, _, _ => by simp at hx
  | a :: r, hp, x, y, hx, hy, h => by
    obtain ⟨h1, h2⟩ := List.pairwise_cons.1 hp
    rcases List.mem_cons.1 hx with ex | hx'
    · rcases List.mem_cons.1 hy with ey | hy'
      · rw [ex, ey]
      · exact absurd (ex ▸ h) (h1 y hy')
    · rcases List.mem_cons.1 hy with ey | hy'
      · exact absurd (ey ▸ h).symm (h1 x hx')
      · exact one_entry h2 hx' hy' h
theorem ordered_keys {es : List MapEntry} {l : List ByteArray} (hl : es.length = l.length) (hkey : ∀ (i : Nat) (s : ByteArray) (e : MapEntry), l[i]? = some s → es[i]? = some e → e.key = .string s) : (es.map (·.key)).Perm (l.map Value.string) := by
  refine List.Perm.of_eq (List.ext_getElem (by simp [hl]) fun i h1 h2 => ?_)
  simp only [List.getElem_map]
  exact hkey i _ _ (List.getElem?_eq_getElem (by simpa using h2)) (List.getElem?_eq_getElem (by simpa using h1))
theorem ordered_val {es : List MapEntry} {c : Nat} {l : List ByteArray} {f5 : List V} {n : Nat} {w : World} (hst : MapKept.Stamped es.toArray c) (hl : es.length = l.length) (hkey : ∀ (i : Nat) (s : ByteArray) (e : MapEntry), l[i]? = some s → es[i]? = some e → e.key = .string s) (hG : ∀ (i : Nat) (y : V) (e : MapEntry), f5[i]? = some y → es[i]? = some e → G n w y e.val)
    {i : Nat} {s : ByteArray} {y : V} {e : MapEntry} (hs : l[i]? = some s) (hy : f5[i]? = some y) (he : e ∈ es) (hk : e.key = .string s) : G n w y e.val := by
  have hi : i < es.length := by have := (List.getElem?_eq_some_iff.1 hs).1; omega
  have h1 := hkey i s _ hs (List.getElem?_eq_getElem hi)
  have hp := ((MapKept.stamped_iff es.toArray c).1 hst).2.2
  have e1 : e = es[i] := one_entry hp (by simpa using he) (by simp) (by rw [hk, h1])
  rw [e1]
  exact hG i y _ hy (List.getElem?_eq_getElem hi)
set_option maxRecDepth 100000 in
theorem toGo_list (w0 : World) (x : V) (hk : x.f0 = 5) (A3 A4 A5 : Option Addr) (c3 c4 c5 : Nat) (H : ∀ w, Below w0.heap.size w0 w → Calls Tryz.prog 77 #[.slice A3 x.f3.length c3] w (ListGo w x.f3 x.f3.length)) :
    ToGo w0 x [.int .i64 x.f0, .int .i64 x.f1, .string x.f2, .slice A3 x.f3.length c3, .slice A4 x.f4.length c4, .slice A5 x.f5.length c5] := by
  intro w hb
  have HH := Lib.hid (H _ (hb.trans (((Below.refl _ w).alloc (Nat.le_refl _) (.cells #[.int .i64 x.f0, .int .i64 x.f1, .string x.f2, .slice A3 x.f3.length c3, .slice A4 x.f4.length c4, .slice A5 x.f5.length c5] 26)).mono hb.size)))
  have HX := Lib.hid hk
  clear H hb hk
  obtain ⟨k, hkk⟩ : ∃ k, k = x.f0 := ⟨_, rfl⟩
  have hk5 : k = 5 := by rw [hkk]; exact HX.out
  show Calls Tryz.prog 49 #[.agg #[.int .i64 x.f0, .int .i64 x.f1, .string x.f2, .slice A3 x.f3.length c3, .slice A4 x.f4.length c4, .slice A5 x.f5.length c5]] w _
  rw [← hkk] at HH ⊢
  subst hk5
  clear hkk
  go_enter Tryz.func49, Tryz.ntmps49
  go_wp2_with fail
  refine HH.out.mono ?_
  rintro e w1 ⟨b, vs, rfl, hle, hvl, hbl, hG, hbb⟩
  have F := Lib.hid (show G w.heap.size w1 x (.iface 81 (.slice (some ⟨b, 0, none⟩) x.f3.length x.f3.length)) ∧ Below w.heap.size w w1 from
    ⟨.list x HX.out b vs (by rw [World.size_alloc] at hle; omega) hvl hbl (fun i y v hy hv => (hG i y v hy hv).mono (by rw [World.size_alloc]; omega)), ((Below.refl _ w).alloc (Nat.le_refl _) _).trans (hbb.mono (by rw [World.size_alloc]; omega))⟩)
  clear hle hvl hbl hG hbb
  go_wp2_with fail
  go_ret2
  exact ⟨_, rfl, F.out⟩
set_option maxRecDepth 100000 in
theorem toGo_map (w0 : World) (x : V) (hk : x.f0 = 6) (A3 A4 A5 : Option Addr) (c3 c4 c5 : Nat) (H : ∀ w, Below w0.heap.size w0 w → Calls Tryz.prog 87 #[.agg #[.int .i64 x.f0, .int .i64 x.f1, .string x.f2, .slice A3 x.f3.length c3, .slice A4 x.f4.length c4, .slice A5 x.f5.length c5]] w (MapGo w x.f4 x.f5)) :
    ToGo w0 x [.int .i64 x.f0, .int .i64 x.f1, .string x.f2, .slice A3 x.f3.length c3, .slice A4 x.f4.length c4, .slice A5 x.f5.length c5] := by
  intro w hb
  have HH := Lib.hid (H _ (hb.trans (((Below.refl _ w).alloc (Nat.le_refl _) (.cells #[.int .i64 x.f0, .int .i64 x.f1, .string x.f2, .slice A3 x.f3.length c3, .slice A4 x.f4.length c4, .slice A5 x.f5.length c5] 26)).mono hb.size)))
  have HX := Lib.hid hk
  clear H hb hk
  obtain ⟨k, hkk⟩ : ∃ k, k = x.f0 := ⟨_, rfl⟩
  have hk5 : k = 6 := by rw [hkk]; exact HX.out
  show Calls Tryz.prog 49 #[.agg #[.int .i64 x.f0, .int .i64 x.f1, .string x.f2, .slice A3 x.f3.length c3, .slice A4 x.f4.length c4, .slice A5 x.f5.length c5]] w _
  rw [← hkk] at HH ⊢
  subst hk5
  clear hkk
  go_enter Tryz.func49, Tryz.ntmps49
  go_wp2_with fail
  refine HH.out.mono ?_
  rintro e w1 ⟨b, es, c, rfl, hle, hvl, hbl, hst, hkey, hG, hbb⟩
  have F := Lib.hid (show G w.heap.size w1 x (.iface 90 (.map (some b))) ∧ Below w.heap.size w w1 from
    ⟨.map x HX.out b es c (by rw [World.size_alloc] at hle; omega) hvl hbl hst (ordered_keys hvl hkey) (fun i s y v hs hy hv hk => (ordered_val hst hvl hkey hG hs hy hv hk).mono (by rw [World.size_alloc]; omega)), ((Below.refl _ w).alloc (Nat.le_refl _) _).trans (hbb.mono (by rw [World.size_alloc]; omega))⟩)
  clear hle hvl hbl hG hbb hkey hst
  go_wp2_with fail
  go_ret2
  exact ⟨_, rfl, F.out⟩
theorem toGo_flat (w0 : World) (x : V) (h0 : 0 ≤ x.f0) (hk : x.f0 ≤ 4) (hj : JN x.f1) (A3 A4 A5 : Option Addr) (c3 c4 c5 : Nat) :
    ToGo w0 x [.int .i64 x.f0, .int .i64 x.f1, .string x.f2, .slice A3 x.f3.length c3, .slice A4 x.f4.length c4, .slice A5 x.f5.length c5] := by
  intro w hb
  have r : ∃ r : Rest, r = ⟨x.f2, A3, x.f3.length, c3, A4, x.f4.length, c4, A5, x.f5.length, c5⟩ := ⟨_, rfl⟩
  obtain ⟨r, hr⟩ := r
  have hs : r.s = x.f2 := by rw [hr]
  have e : (Value.agg (List.toArray [.int .i64 x.f0, .int .i64 x.f1, .string x.f2, .slice A3 x.f3.length c3, .slice A4 x.f4.length c4, .slice A5 x.f5.length c5])) = vl x.f0 x.f1 r := by rw [hr]; rfl
  rw [e]
  have hG : G w.heap.size w x (fg x.f0 x.f1 x.f2) := .flat x hk
  have key : Calls Tryz.prog 49 #[vl x.f0 x.f1 r] w fun e w' => e = .returned (.tuple #[fg x.f0 x.f1 x.f2, .bool true]) ∧ Below w.heap.size w w' := by
    have hc : x.f0 = 0 ∨ x.f0 = 1 ∨ x.f0 = 2 ∨ x.f0 = 3 ∨ x.f0 = 4 := by omega
    rcases hc with c | c | c | c | c <;> rw [c]
    · exact toGo_null _ r w
    · exact toGo_no _ r w
    · exact toGo_yes _ r w
    · exact toGo_jn _ r hj w
    · rw [← hs]; exact toGo_text _ r w
  refine key.mono ?_
  rintro e w1 ⟨rfl, hbb⟩
  exact ⟨_, rfl, hG.keepB hbb, hbb⟩
theorem toGo_any (w0 : World) : ∀ (N : Nat) (x : V), SizeOf.sizeOf x < N → Sz x → WL x → ∀ cs, k26.K w0 x cs → ToGo w0 x cs
  | 0, _, h, _, _, _, _ => absurd h (Nat.not_lt_zero _)
  | N + 1, x, hN, hz, hw, cs, hK => by
    obtain ⟨A3, c3, A4, c4, A5, c5, rfl, l3, g3, l4, g4, l5, g5⟩ := k26_open hK
    obtain ⟨f0, f6, fj, f45⟩ := wf_facts hw
    obtain ⟨_, z2, z4, z3, z5⟩ := hz
    obtain ⟨_, _, _, n3, n4, hk, w3, w5⟩ := hw
    have ih3 : ∀ y ∈ x.f3, ∀ cs, k26.K w0 y cs → ToGo w0 y cs := fun y hy cs hc => toGo_any w0 N y (by
      have h1 := List.sizeOf_lt_of_mem hy
      have h2 : SizeOf.sizeOf x.f3 < SizeOf.sizeOf x := by cases x; simp; omega
      omega) (z3 y hy) (w3 y hy) cs hc
    have ih5 : ∀ y ∈ x.f5, ∀ cs, k26.K w0 y cs → ToGo w0 y cs := fun y hy cs hc => toGo_any w0 N y (by
      have h1 := List.sizeOf_lt_of_mem hy
      have h2 : SizeOf.sizeOf x.f5 < SizeOf.sizeOf x := by cases x; simp; omega
      omega) (z5 y hy) (w5 y hy) cs hc
    have hc : x.f0 ≤ 4 ∨ x.f0 = 5 ∨ x.f0 = 6 := by omega
    rcases hc with c | c | c
    · exact toGo_flat w0 x f0 c fj A3 A4 A5 c3 c4 c5
    · exact toGo_list w0 x c A3 A4 A5 c3 c4 c5 fun w hb => listToGo_any w0 A3 x.f3.length c3 x.f3 g3 rfl n3 ih3 w hb
    · refine toGo_map w0 x c A3 A4 A5 c3 c4 c5 fun w hb => ?_
      rw [← f45] at g5 ⊢
      exact mapToGo_any w0 x.f0 x.f1 x.f2 A3 A4 A5 x.f3.length c3 x.f4.length c4 c5 x.f4 x.f5 g4 g5 rfl f45.symm n4 z4 hk ih5 w hb
theorem G.flat_inv {n : Nat} {w : World} {x : V} {g : Value} (h : G n w x g) (hx : x.f0 ≤ 4) : g = fg x.f0 x.f1 x.f2 := by
  cases h with
  | flat x hk => rfl
  | list x hk b l hb hl hw he => omega
  | map x hk b es c hb hl hw hst hkey he => omega
theorem G.list_inv {n : Nat} {w : World} {x : V} {g : Value} (h : G n w x g) (hx : x.f0 = 5) : ∃ (b : Nat) (l : List Value), g = .iface 81 (.slice (some ⟨b, 0, none⟩) x.f3.length x.f3.length) ∧ n ≤ b ∧ l.length = x.f3.length ∧ w.heap[b]? = some (.cells l.toArray 20 (0, 0)) ∧
    ∀ (i : Nat) (y : V) (v : Value), x.f3[i]? = some y → l[i]? = some v → G n w y v := by
  cases h with
  | flat x hk => omega
  | list x hk b l hb hl hw he => exact ⟨b, l, rfl, hb, hl, hw, he⟩
  | map x hk b es c hb hl hw hst hkey he => omega
theorem G.map_inv {n : Nat} {w : World} {x : V} {g : Value} (h : G n w x g) (hx : x.f0 = 6) : ∃ (b : Nat) (es : List MapEntry) (c : Nat), g = .iface 90 (.map (some b)) ∧ n ≤ b ∧ es.length = x.f4.length ∧ w.heap[b]? = some (.map es.toArray c) ∧ MapKept.Stamped es.toArray c ∧
    (es.map (·.key)).Perm (x.f4.map Value.string) ∧ ∀ (i : Nat) (s : ByteArray) (y : V) (e : MapEntry), x.f4[i]? = some s → x.f5[i]? = some y → e ∈ es → e.key = .string s → G n w y e.val := by
  cases h with
  | flat x hk => omega
  | list x hk b l hb hl hw he => omega
  | map x hk b es c hb hl hw hst hkey he => exact ⟨b, es, c, rfl, hb, hl, hw, hst, hkey, he⟩
end Go.Proofs.YtbnfeicpjmfooaaGreatDoor.NumA
/-
Maps whose keys are strings: what a range collects, what a lookup finds.
-/
set_option linter.unusedSimpArgs false
set_option linter.unusedVariables false
namespace Go.Proofs.YtbnfeicpjmfooaaGreatDoor.NumA
open Go.RowKit Go.Lib Go.Proofs.YtbnfeicpjmfooaaGreatDoor.ValA Go.Proofs.YtbnfeicpjmfooaaGreatDoor.FloH Go.Proofs.YtbnfeicpjmfooaaGreatDoorW.PrintWords Go.Proofs.YtbnfeicpjmfooaaGreatDoorW.PrintLast Go.Proofs.YtbnfeicpjmfooaaGreatDoorW.PrintMore Go.Proofs.YtbnfeicpjmfooaaGreatDoor.PzzFits1
/-- An element of a map, read as nothing. -/
def R0 (_ : Value) : Option (DataW Unit × List MemPlace) := some (.nil, [])
/-- A map's keys as a datum. -/
def IsD (es : List MapEntry) (D : DataW Unit) : Prop := D = .map ((es.map (WideElems.rg Tryz.prog 9 R0)).foldr DataW.insert [])
theorem keyedS : Maps.Keyed Tryz.prog 9 := Maps.string_keyed Tryz.underlying9
/-- The keys of es are l. -/
def KeysAre (es : List MapEntry) (l : List ByteArray) : Prop := es.length = l.length ∧ (es.map (·.key)).Perm (l.map Value.string) ∧ ∀ s ∈ l, s.size ≤ 9223372036854775807
theorem KeysAre.all {es : List MapEntry} {l : List ByteArray} (h : KeysAre es l) : ∀ e ∈ es, ∃ t : ByteArray, e.key = .string t ∧ t.size ≤ 9223372036854775807 := by
  intro e he
  have h1 := h.2.1.subset (List.mem_map.2 ⟨e, he, rfl⟩)
  obtain ⟨s, hs, e1⟩ := List.mem_map.1 h1
  exact ⟨s, e1.symm, h.2.2 s hs⟩
/-- An entry stands at each key. -/
theorem KeysAre.at_ {es : List MapEntry} {l : List ByteArray} (h : KeysAre es l) {s : ByteArray} (hs : s ∈ l) : ∃ e ∈ es, e.key = .string s := by
  have h1 := h.2.1.symm.subset (List.mem_map.2 ⟨s, hs, rfl⟩)
  obtain ⟨e, he, e1⟩ := List.mem_map.1 h1
  exact ⟨e, he, e1⟩
/-- A key's bytes. -/
def kbytes : Value → List UInt8
  | .string s => s.data.toList
  | _ => []
theorem owns_of {w : World} {b c : Nat} {es : List MapEntry} {l : List ByteArray} (hb : w.heap[b]? = some (.map es.toArray c)) (hst : MapKept.Stamped es.toArray c) (hn : es.length ≤ 1000000) (hk : KeysAre es l) {D : DataW Unit} (hD : IsD es D) : w.ownsMap Tryz.prog 9 R0 b es.length D := by
  unfold IsD at hD
  subst hD
  refine ⟨es.toArray, c, hb, ⟨by unfold maxLen; simp; omega, hst, fun x hx => ?_⟩, by simp, by simp⟩
  obtain ⟨t, e1, e2⟩ := hk.all x (by simpa using hx)
  refine ⟨(.string t.data.toList, .nil), ?_⟩
  unfold WideElems.rd
  rw [e1, key_lit t e2]
  rfl
theorem keys_perm {es : List MapEntry} {l : List ByteArray} (hk : KeysAre es l) {D : DataW Unit} (hD : IsD es D) : (strKeys D).Perm (l.map fun s => s.data.toList) := by
  unfold IsD at hD
  subst hD
  have e : (es.map (WideElems.rg Tryz.prog 9 R0)).map (fun p => strOf p.1) = (es.map (·.key)).map kbytes := by
    rw [List.map_map, List.map_map]
    apply List.map_congr_left
    intro x hx
    obtain ⟨t, e1, e2⟩ := hk.all x hx
    have r : WideElems.rg Tryz.prog 9 R0 x = (.string t.data.toList, .nil) := by
      apply WideElems.rg_of
      unfold WideElems.rd
      rw [e1, key_lit _ e2]
      rfl
    simp only [Function.comp, r, e1]
    rfl
  have e2 : (l.map Value.string).map kbytes = l.map fun s => s.data.toList := by
    rw [List.map_map]
    rfl
  have h2 := hk.2.1.map kbytes
  rw [e2, ← e] at h2
  exact ((WideShapes.sorted_perm _).map _).trans h2
theorem sort_keys {l : List ByteArray} (h : ∀ i : Nat, 0 < i → i < l.length → Op.bytesLess (rdOf ByteArray.empty l (i - 1 : Nat)).toList (rdOf ByteArray.empty l i).toList = true) {ss : List (List UInt8)} (hp : ss.Perm (l.map fun s => s.data.toList)) : ss.mergeSort (fun x y => decide (x ≤ y)) = l.map fun s => s.data.toList := by
  have tr : ∀ a b c : List UInt8, leB a b = true → leB b c = true → leB a c = true := fun a b c h1 h2 => by simp only [leB, decide_eq_true_eq] at *; exact List.le_trans h1 h2
  have tot : ∀ a b : List UInt8, (leB a b || leB b a) = true := fun a b => by simp only [leB, Bool.or_eq_true, decide_eq_true_eq]; exact List.le_total a b
  refine List.Perm.eq_of_pairwise (le := fun a b => leB a b = true) (fun a b _ _ h1 h2 => ?_) (List.pairwise_mergeSort tr tot ss) ?_ ((List.mergeSort_perm ss leB).trans hp)
  · simp only [leB, decide_eq_true_eq] at h1 h2
    exact List.le_antisymm h1 h2
  · rw [List.pairwise_iff_getElem]
    intro i j hi hj hij
    have hi' : i < l.length := by simpa using hi
    have hj' : j < l.length := by simpa using hj
    have h2 := keys_rise h (j - i - 1) i (by omega)
    rw [show i + (j - i - 1) + 1 = j by omega, bytesLess_eq, decide_eq_true_eq] at h2
    have e1 := key_rd l i hi'
    have e2 := key_rd l j hj'
    rw [List.getElem?_eq_getElem hi'] at e1
    rw [List.getElem?_eq_getElem hj'] at e2
    rw [← Option.some.inj e1, ← Option.some.inj e2, Lib.toList_data, Lib.toList_data] at h2
    simp only [List.getElem_map, leB, decide_eq_true_eq]
    exact List.le_of_lt h2
theorem run_look {w : World} {b c : Nat} {es : List MapEntry} {l : List ByteArray} (hb : w.heap[b]? = some (.map es.toArray c)) (hst : MapKept.Stamped es.toArray c) (hk : KeysAre es l) {s : ByteArray} (hs : s ∈ l) {e0 : MapEntry} (he0 : e0 ∈ es) (hk0 : e0.key = .string s) :
    (Instr.lookup 90 (.map (some b)) (.string s) false).run Tryz.prog w = .ok e0.val w := by
  have hkey := key_lit s (hk.2.2 _ hs)
  have hp := ((MapKept.stamped_iff es.toArray c).1 hst).2.2
  have K := keyedS
  rcases K.find w hkey es (fun e he => by obtain ⟨t, e1, e2⟩ := hk.all e he; exact ⟨_, by rw [e1]; exact key_lit t e2⟩) with ⟨_, h2⟩ | ⟨i, e, h1, h2, h3⟩
  · exact absurd hk0 (h2 _ he0)
  · have e1 : e = e0 := one_entry hp (by simpa using List.mem_of_getElem? h2) (by simpa using he0) (by rw [h3, hk0])
    rw [← e1]
    simp [Instr.lookup, run_underlying Tryz.underlying90, MapKept.run_getObj_map hb, K.check w _ hkey, h1, Result.andThen]
/-- A map's entry at its j-th key. -/
theorem entry_at {es : List MapEntry} {l : List ByteArray} {b c : Nat} {w : World} (hb : w.heap[b]? = some (.map es.toArray c)) (hst : MapKept.Stamped es.toArray c) (hk : KeysAre es l) (j : Nat) (hj : j < l.length) :
    ∃ e, e ∈ es ∧ e.key = .string (rdOf ByteArray.empty l j) ∧ ∀ w', Below w.heap.size w w' → (Instr.lookup 90 (.map (some b)) (.string (rdOf ByteArray.empty l j)) false).run Tryz.prog w' = .ok e.val w' := by
  have hm := List.mem_of_getElem? (key_rd l j hj)
  obtain ⟨e, he, e1⟩ := hk.at_ hm
  exact ⟨e, he, e1, fun w' hw => run_look ((hw.block _ (lt_of_heap hb)).trans hb) hst hk hm he e1⟩
theorem size_D {es : List MapEntry} {D : DataW Unit} (hD : IsD es D) : Maps.size D = es.length := by
  unfold IsD at hD
  subst hD
  simp [Maps.size, length_sorted]

end Go.Proofs.YtbnfeicpjmfooaaGreatDoor.NumA
