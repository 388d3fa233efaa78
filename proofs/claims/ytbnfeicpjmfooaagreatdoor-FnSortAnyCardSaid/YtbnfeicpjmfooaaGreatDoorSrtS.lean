/-
Two elements of a row of values change places.
-/
import Derived.Test.YtbnfeicpjmfooaaGreatDoorMY
import Derived.Test.YtbnfeicpjmfooaaGreatDoorML
set_option linter.unusedSimpArgs false
set_option linter.unusedVariables false
namespace Go.Proofs.YtbnfeicpjmfooaaGreatDoor.NumA
open Go.RowKit Go.Lib Go.Proofs.YtbnfeicpjmfooaaGreatDoor.ValA Go.Proofs.YtbnfeicpjmfooaaGreatDoor.FloH Go.Proofs.YtbnfeicpjmfooaaGreatDoorW.PrintWords Go.Proofs.YtbnfeicpjmfooaaGreatDoorW.PrintLast Go.Proofs.YtbnfeicpjmfooaaGreatDoorW.PrintMore Go.Proofs.YtbnfeicpjmfooaaGreatDoor.PzzFits1
/-- Six cells from q * 6 on. -/
def put6L (L : List Value) (q : Nat) (c0 c1 c2 c3 c4 c5 : Value) : List Value := (((((L.set (q * 6) c0).set (q * 6 + 1) c1).set (q * 6 + 2) c2).set (q * 6 + 3) c3).set (q * 6 + 4) c4).set (q * 6 + 5) c5
theorem put6L_len (L : List Value) (q : Nat) (c0 c1 c2 c3 c4 c5 : Value) : (put6L L q c0 c1 c2 c3 c4 c5).length = L.length := by simp [put6L]
theorem put6L_same {L : List Value} {q t : Nat} {c0 c1 c2 c3 c4 c5 : Value} (hq : q * 6 + 5 < L.length) (ht : t < 6) : (put6L L q c0 c1 c2 c3 c4 c5)[q * 6 + t]? = [c0, c1, c2, c3, c4, c5][t]? := by
  unfold put6L
  rcases (show t = 0 ∨ t = 1 ∨ t = 2 ∨ t = 3 ∨ t = 4 ∨ t = 5 by omega) with rfl | rfl | rfl | rfl | rfl | rfl <;> simp [List.getElem?_set] <;> omega
theorem put6L_other {L : List Value} {q k t : Nat} {c0 c1 c2 c3 c4 c5 : Value} (hk : k ≠ q) (ht : t < 6) : (put6L L q c0 c1 c2 c3 c4 c5)[k * 6 + t]? = L[k * 6 + t]? := by
  unfold put6L
  rw [List.getElem?_set_ne (by omega), List.getElem?_set_ne (by omega), List.getElem?_set_ne (by omega), List.getElem?_set_ne (by omega), List.getElem?_set_ne (by omega), List.getElem?_set_ne (by omega)]
def swpV (l : List V) (i j : Nat) : List V := (l.set i (rd_T26 l j)).set j (rd_T26 l i)
theorem swpV_len (l : List V) (i j : Nat) : (swpV l i j).length = l.length := by simp [swpV]
theorem swpV_perm {l : List V} {i j : Nat} (hi : i < l.length) (hj : j < l.length) : (swpV l i j).Perm l := by
  have e1 := rd_at l i hi
  have e2 := rd_at l j hj
  rw [List.getElem?_eq_getElem hi] at e1
  rw [List.getElem?_eq_getElem hj] at e2
  unfold swpV
  rw [← Option.some.inj e1, ← Option.some.inj e2]
  have h := Array.swap_perm (xs := l.toArray) (i := i) (j := j) (by simpa using hi) (by simpa using hj)
  have h2 := Array.perm_iff_toList_perm.1 h
  simpa [Array.swap] using h2
theorem swap_reads {W0 W W1 : World} {g n i j : Nat} {l : List V} {cur cur1 : Array Value} {a0 a1 a2 a3 a4 a5 b0 b1 b2 b3 b4 b5 : Value} (hR : ReadsRow (k26.K W0) 6 W (some ⟨g, 0, none⟩) n l) (hi : i < n) (hj : j < n) (hsz : n * 6 ≤ cur.size)
    (hW : W.heap[g]? = some (.cells cur 26 (0, 0))) (hW1 : W1.heap[g]? = some (.cells cur1 26 (0, 0))) (hc : cur1.toList = put6L (put6L cur.toList i b0 b1 b2 b3 b4 b5) j a0 a1 a2 a3 a4 a5)
    (hA : k26.K W0 (rd_T26 l i) [a0, a1, a2, a3, a4, a5]) (hB : k26.K W0 (rd_T26 l j) [b0, b1, b2, b3, b4, b5]) : ReadsRow (k26.K W0) 6 W1 (some ⟨g, 0, none⟩) n (swpV l i j) := by
  have hl := hR.1
  have hadd : ∀ q t : Nat, (⟨g, 0, none⟩ : Addr).add (q * 6 + t) = ⟨g, q * 6 + t, none⟩ := fun q t => by
    simp [Addr.add]
    try (intro h1 h2; omega)
  have hcell : ∀ (p t : Nat) (u : Value), (put6L (put6L cur.toList i b0 b1 b2 b3 b4 b5) j a0 a1 a2 a3 a4 a5)[p * 6 + t]? = some u → W1.cell? ⟨g, p * 6 + t, none⟩ = some u := fun p t u h => by
    rw [← hc] at h
    simp only [World.cell?, hW1]
    simpa using h
  refine ⟨by rw [swpV_len]; exact hl, hR.2.1, fun _ => ⟨_, rfl, fun p x hp => ?_⟩⟩
  have hpn : p < n := by have := (List.getElem?_eq_some_iff.1 hp).1; rw [swpV_len] at this; omega
  have hlen : (put6L cur.toList i b0 b1 b2 b3 b4 b5).length = cur.size := by rw [put6L_len]; simp
  unfold swpV at hp
  by_cases c : p = j
  · subst c
    rw [List.getElem?_set_self (by rw [List.length_set]; omega)] at hp
    obtain rfl := Option.some.inj hp
    refine ⟨_, rfl, hA, fun t u hu => ?_⟩
    have ht : t < 6 := by have := (List.getElem?_eq_some_iff.1 hu).1; simpa using this
    rw [hadd]
    exact hcell p t u (by rw [put6L_same (by rw [hlen]; omega) ht]; exact hu)
  · rw [List.getElem?_set_ne (by omega)] at hp
    by_cases d : p = i
    · subst d
      rw [List.getElem?_set_self (by omega)] at hp
      obtain rfl := Option.some.inj hp
      refine ⟨_, rfl, hB, fun t u hu => ?_⟩
      have ht : t < 6 := by have := (List.getElem?_eq_some_iff.1 hu).1; simpa using this
      rw [hadd]
      exact hcell p t u (by rw [put6L_other c ht, put6L_same (by simp; omega) ht]; exact hu)
    · rw [List.getElem?_set_ne (by omega)] at hp
      obtain ⟨ad, e, hh⟩ := hR.2.2 (by omega)
      obtain rfl : (⟨g, 0, none⟩ : Addr) = ad := Option.some.inj e
      obtain ⟨cs, h6, hK, hu⟩ := hh p x hp
      refine ⟨cs, h6, hK, fun t u ht => ?_⟩
      have ht6 : t < 6 := by have := (List.getElem?_eq_some_iff.1 ht).1; omega
      have h1 := hu t u ht
      rw [hadd] at h1 ⊢
      refine hcell p t u ?_
      rw [put6L_other c ht6, put6L_other d ht6]
      simp only [World.cell?, hW] at h1
      simpa using h1
theorem set6_heap {w : World} {g q : Nat} {cur : Array Value} {t : TypeId} (h : w.heap[g]? = some (.cells cur t (0, 0))) (v0 v1 v2 v3 v4 v5 : Value) :
    ∃ cur1 : Array Value, ((((((w.setCell ⟨g, q * 6, none⟩ v0).setCell ⟨g, q * 6 + 1, none⟩ v1).setCell ⟨g, q * 6 + 2, none⟩ v2).setCell ⟨g, q * 6 + 3, none⟩ v3).setCell ⟨g, q * 6 + 4, none⟩ v4).setCell ⟨g, q * 6 + 5, none⟩ v5).heap[g]? = some (.cells cur1 t (0, 0)) ∧ cur1.toList = put6L cur.toList q v0 v1 v2 v3 v4 v5 := by
  refine ⟨_, heap_set (heap_set (heap_set (heap_set (heap_set (heap_set h _ _) _ _) _ _) _ _) _ _) _ _, ?_⟩
  simp [put6L]
section
variable {P : Program} {ops : Array Oper} {Q : Exit → Act → World → Prop}
/-- A value is stored into a row. -/
theorem put6R_ {oi : Oper} {a : Act} {w W0 : World} {K : Act → World → Prop} {g q : Nat} {cur : Array Value} {t : TypeId} {v0 v1 v2 v3 v4 v5 : Value} (hb : Below W0.heap.size W0 w) (hg0 : W0.heap.size ≤ g) (hg : w.heap[g]? = some (.cells cur t (0, 0))) (hw : Region.wanted oi (yielded ops a.tmps) = true) (hN : oi.dst = none)
    (hrun : (execOp a.eval oi).run P w = .ok .skip ((((((w.setCell ⟨g, q * 6, none⟩ v0).setCell ⟨g, q * 6 + 1, none⟩ v1).setCell ⟨g, q * 6 + 2, none⟩ v2).setCell ⟨g, q * 6 + 3, none⟩ v3).setCell ⟨g, q * 6 + 4, none⟩ v4).setCell ⟨g, q * 6 + 5, none⟩ v5)) (h : ∀ (w1 : World) (cur1 : Array Value), Below W0.heap.size W0 w1 → w1.heap[g]? = some (.cells cur1 t (0, 0)) → cur1.toList = put6L cur.toList q v0 v1 v2 v3 v4 v5 → K a w1) :
    if Region.wanted oi (yielded ops a.tmps) = true then Oper.wp P oi a w K Q else K (a.put none undef) w := by
  obtain ⟨cur1, h1, h2⟩ := set6_heap (q := q) hg v0 v1 v2 v3 v4 v5
  exact skip_ hw hN hrun (h _ cur1 (hb.grown (grown_set (grown_set (grown_set (grown_set (grown_set (grown_set (World.grownBy.refl w _) _ _) _ _) _ _) _ _) _ _) _ _) hb.size (fun k hk => by cases hk; exact hg0)) h1 h2)
end
theorem row_cell {w : World} {g q n : Nat} {cur : Array Value} {t : TypeId} (h : w.heap[g]? = some (.cells cur t (0, 0))) (hq : q < n) (hsz : n * 6 ≤ cur.size) (s : Nat) (hs : s < 6) : (∃ v, w.cell? ⟨g, q * 6 + s, none⟩ = some v) ∧ w.frozen? ⟨g, q * 6 + s, none⟩ = false := by
  have e : cur = cur.toList.toArray := by simp
  rw [e] at h
  have hc := list_cell (j := q * 6 + s) h (by simp; omega)
  exact ⟨⟨_, hc.1⟩, hc.2⟩
end Go.Proofs.YtbnfeicpjmfooaaGreatDoor.NumA
