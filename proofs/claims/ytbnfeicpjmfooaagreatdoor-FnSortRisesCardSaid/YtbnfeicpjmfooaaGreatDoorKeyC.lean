/-
gojq.funcKeys at a map: the list of its keys.
-/
import Derived.Test.YtbnfeicpjmfooaaGreatDoorKeyB
import Derived.Test.YtbnfeicpjmfooaaGreatDoorCmpE
set_option linter.unusedSimpArgs false
set_option linter.unusedVariables false
namespace Go.Proofs.YtbnfeicpjmfooaaGreatDoor.NumA
open Go.RowKit Go.Lib Go.Proofs.YtbnfeicpjmfooaaGreatDoor.ValA Go.Proofs.YtbnfeicpjmfooaaGreatDoor.FloH Go.Proofs.YtbnfeicpjmfooaaGreatDoorW.PrintWords Go.Proofs.YtbnfeicpjmfooaaGreatDoorW.PrintLast Go.Proofs.YtbnfeicpjmfooaaGreatDoorW.PrintMore Go.Proofs.YtbnfeicpjmfooaaGreatDoor.PzzFits1
/-- A key as an any. -/
def skey (s : ByteArray) : Value := .iface 9 (.string s)
/-- What funcKeys gives. -/
def KeysAny (w : World) (l : List ByteArray) (e : Ending) (w' : World) : Prop :=
  e = .returned (.iface 81 (.slice (some ⟨w.heap.size, 0, none⟩) l.length l.length)) ∧ w'.heap[w.heap.size]? = some (.cells (l.map skey).toArray 20 (0, 0)) ∧ Below w.heap.size w w'
/-- The head of funcKeys' round. -/
def RKf (w : World) (n : Nat) (l : List ByteArray) (k : Nat) (i : Value) (wr : World) : Prop :=
  ∃ (j : Nat) (vs : List Value), i = .int .i64 j ∧ k + j = n ∧ Below w.heap.size w wr ∧ wr.heap[w.heap.size]? = some (.cells vs.toArray 20 (0, 0)) ∧ vs.length = n ∧
    (∀ (i : Nat) (s : ByteArray), i < j → l[i]? = some s → vs[i]? = some (skey s)) ∧ wr.heap[w.heap.size + 1]? = some (.cells (l.map Value.string).toArray 9 (0, 0))
theorem rkf_step {w wr : World} {n : Nat} {l : List ByteArray} {j : Nat} {vs : List Value} (hl : l.length = n) (hlt : j < n) (hb : Below w.heap.size w wr) (hbl : wr.heap[w.heap.size]? = some (.cells vs.toArray 20 (0, 0))) (hvs : vs.length = n)
    (hG : ∀ (i : Nat) (s : ByteArray), i < j → l[i]? = some s → vs[i]? = some (skey s)) (hbk : wr.heap[w.heap.size + 1]? = some (.cells (l.map Value.string).toArray 9 (0, 0))) (k : Nat) (hk : k + j = n) :
    RKf w n l (k - 1) (.int .i64 ((j + 1 : Nat) : Int)) (wr.setCell ⟨w.heap.size, j, none⟩ (skey (rdOf ByteArray.empty l j))) := by
  have hgr : wr.grownBy (wr.setCell ⟨w.heap.size, j, none⟩ (skey (rdOf ByteArray.empty l j))) (some w.heap.size) := grown_set (World.grownBy.refl wr _) j _
  refine ⟨j + 1, vs.set j (skey (rdOf ByteArray.empty l j)), rfl, by omega, hb.grown hgr hb.size (fun k hk => by cases hk; exact Nat.le_refl _), ?_, by simp [hvs], ?_, (hgr.block _ (lt_of_heap hbk) (by simp)).trans hbk⟩
  · rw [heap_set hbl j _]
    simp
  · intro i s hi hs
    by_cases e : i = j
    · subst e
      rw [key_rd l i (by omega)] at hs
      obtain rfl := Option.some.inj hs
      rw [List.getElem?_set]
      simp [hvs, hlt]
    · rw [List.getElem?_set_ne (Ne.symm e)]
      exact hG i s (by omega) hs
set_option maxRecDepth 100000 in
set_option maxHeartbeats 4000000 in
theorem funcKeys_map (w : World) (b c n : Nat) (es : List MapEntry) (l : List ByteArray) (hln : l.length = n) (hb : w.heap[b]? = some (.map es.toArray c)) (hst : MapKept.Stamped es.toArray c) (hn : n ≤ 1000000) (hk : KeysAre es l)
    (hrise : ∀ i : Nat, 0 < i → i < l.length → Op.bytesLess (rdOf ByteArray.empty l (i - 1 : Nat)).toList (rdOf ByteArray.empty l i).toList = true) :
    Calls Tryz.prog 200 #[.iface 90 (.map (some b))] w (KeysAny w l) := by
  obtain ⟨D, hD⟩ : ∃ D, IsD es D := ⟨_, rfl⟩
  have hown := owns_of hb hst (by have := hk.1; omega) hk hD
  have hlen : ∀ ty, (Builtin.len_ #[90] ty #[.map (some b)]).run Tryz.prog w = .ok (.int .i64 (n : Int)) w := fun ty => by
    have := hown.len Tryz.underlying90 ty
    rwa [size_D hD, hk.1, hln] at this
  have hmk := fun w => runMake n hn w
  have fL := fun w => qML (.map (some b)) w
  have gM := fun w => qM (.map (some b)) w
  obtain ⟨W1, hW1⟩ : ∃ W1, W1 = w.alloc (.cells (Array.replicate n Value.nilIface) 20) := ⟨_, rfl⟩
  have hw1 : W1 = w.alloc (.cells (List.replicate n Value.nilIface).toArray 20) := by rw [hW1, List.toArray_replicate]
  have H1 := Lib.hid (show Below w.heap.size w W1 ∧ W1.heap[w.heap.size]? = some (.cells (List.replicate n Value.nilIface).toArray 20 (0, 0)) ∧ W1.heap.size = w.heap.size + 1 by rw [hw1]; exact ⟨(Below.refl _ w).alloc (Nat.le_refl _) _, heap_alloc_new w _, by rw [World.size_alloc]⟩)
  have HKS := Lib.hid (gojq_keys W1 b c es l ((H1.out.1.block _ (lt_of_heap hb)).trans hb) hst (by have := hk.1; omega) hk hrise)
  have HN := Lib.hid (And.intro hn hln)
  clear hb hst hn hk hrise hown hln hw1 hD
  go_enter Tryz.func200, Tryz.ntmps200
  go_wp2_with fail
  rw [← hW1]
  clear hW1 hmk hlen fL gM
  refine HKS.out.mono ?_
  rintro e w1 ⟨rfl, hbl, hbb⟩
  rw [H1.out.2.2, HN.out.2]
  have H2 := Lib.hid (show RKf w n l n (.int .i64 ((0 : Nat) : Int)) w1 from
    ⟨0, List.replicate n Value.nilIface, rfl, by omega, H1.out.1.trans (hbb.mono (by have := H1.out.2.2; omega)), (hbb.block _ (lt_of_heap H1.out.2.1)).trans H1.out.2.1, by simp, fun i s hi => by omega, by rw [H1.out.2.2] at hbl; exact hbl⟩)
  clear hbl hbb H1 HKS
  go_wp2_with fail
  go_loopg [44] n (fun k i wr => RKf w n l k i wr)
  case atStart => exact H2.out
  case round =>
    clear H2
    obtain ⟨j, vs, rfl, hkj, hbr, hbl, hvs, hG, hbk⟩ := hrel
    have HR := Lib.hid (And.intro hbr (And.intro hbl (And.intro hvs (And.intro hG hbk))))
    have HK := Lib.hid hkj
    by_cases hlt : j < n
    · have x0 : wr.cell? ⟨w.heap.size + 1, j, none⟩ = some (.string (rdOf ByteArray.empty l j)) := by
        have h := list_cell hbk (by simp; have := HN.out.2; omega : j < (l.map Value.string).length)
        rw [h.1]
        have e := key_rd l j (by have := HN.out.2; omega)
        rw [List.getElem?_eq_getElem (by have := HN.out.2; omega)] at e
        rw [List.getElem_map, Option.some.inj e]
      have HLT := Lib.hid hlt
      obtain ⟨q0, q1⟩ := list_cell hbl (Nat.lt_of_lt_of_eq HLT.out HR.out.2.2.1.symm)
      have H4 := Lib.hid (rkf_step HN.out.2 hlt hbr hbl hvs hG hbk)
      have hlt2 : (j : Int) < (n : Int) := by omega
      clear hbr hbl hvs hG hbk hkj
      go_wp2_with fail
      go_roundg (gk - 1)
      case measure => have := HK.out; omega
      case rel =>
        have hw : wrap64 ((j : Int) + 1) = ((j + 1 : Nat) : Int) := by have := HN.out.1; have := HK.out; unfold wrap64; omega
        rw [hw]
        exact H4.out gk HK.out
    · have hlt2 : ¬ (j : Int) < (n : Int) := by omega
      have hlt3 : decide ((j : Int) < (n : Int)) = false := decide_eq_false hlt2
      have hlt4 : decide (j < n) = false := decide_eq_false hlt
      have HNL := Lib.hid hlt
      clear hbr hbl hvs hG hbk hkj hlt hlt2
      go_wp2_with fail
      go_ret
      refine ⟨by rw [HN.out.2]; rfl, ?_, HR.out.1⟩
      rw [HR.out.2.1]
      congr 2
      congr 1
      apply List.ext_getElem? 
      intro i
      by_cases hi : i < l.length
      · rw [HR.out.2.2.2.1 i l[i] (by have := HK.out; have := HNL.out; have := HN.out.2; omega) (List.getElem?_eq_getElem hi)]
        simp [hi]
      · rw [List.getElem?_eq_none (by have := HR.out.2.2.1; have := HN.out.2; omega), List.getElem?_eq_none (by simp; omega)]
end Go.Proofs.YtbnfeicpjmfooaaGreatDoor.NumA
