/-
Parts of the proof, one behind the other: SpnY.
-/
import Derived.Test.YtbnfeicpjmfooaaGreatDoorMY
/-
Blocks of six cells that are written; null in memory.
-/
set_option linter.unusedSimpArgs false
set_option linter.unusedVariables false
namespace Go.Proofs.YtbnfeicpjmfooaaGreatDoor.ValA
open Go.RowKit Go.Lib Go.Proofs.YtbnfeicpjmfooaaGreatDoorW.PrintWords Go.Proofs.YtbnfeicpjmfooaaGreatDoorW.PrintLast Go.Proofs.YtbnfeicpjmfooaaGreatDoorW.PrintMore Go.Proofs.YtbnfeicpjmfooaaGreatDoor.PzzFits1 Go.Proofs.YtbnfeicpjmfooaaGreatDoor.NumA
theorem SPN.put6 {w w1 : World} {L : List (Nat × Array Value × TypeId)} (h : SPN w L w1) (i : Nat) {R : Nat} {c0 c1 c2 c3 c4 c5 : Value} {t : TypeId} (hi : L[i]? = some (R, #[c0, c1, c2, c3, c4, c5], t)) (v0 v1 v2 v3 v4 v5 : Value) :
    SPN w (L.set i (R, #[v0, v1, v2, v3, v4, v5], t)) ((((((w1.setCell ⟨R, 0, none⟩ v0).setCell ⟨R, 1, none⟩ v1).setCell ⟨R, 2, none⟩ v2).setCell ⟨R, 3, none⟩ v3).setCell ⟨R, 4, none⟩ v4).setCell ⟨R, 5, none⟩ v5) := by
  have hm := List.mem_of_getElem? hi
  have hR := h.2.2 _ hm
  have hset := six_set (h.1.2 _ hm) v0 v1 v2 v3 v4 v5
  have hgr := six_grown w1 R v0 v1 v2 v3 v4 v5
  have hil : i < L.length := (List.getElem?_eq_some_iff.1 hi).1
  have hmap : (L.set i (R, #[v0, v1, v2, v3, v4, v5], t)).map (·.1) = L.map (·.1) := by
    rw [List.map_set]
    apply List.ext_getElem?
    intro j
    rw [List.getElem?_set]
    split
    · rename_i he
      subst he
      rw [List.getElem?_map, hi]
      simp [hil]
    · rfl
  refine ⟨⟨h.1.1.grown hgr h.1.1.size (fun k hk => by cases hk; exact hR), ?_⟩, by rw [hmap]; exact h.2.1, ?_⟩
  · intro p hp
    obtain ⟨j, hj⟩ := List.getElem?_of_mem hp
    rw [List.getElem?_set] at hj
    split at hj
    · rename_i he
      simp [hil] at hj
      obtain rfl := hj
      exact hset
    · rename_i hne
      have hpL := List.mem_of_getElem? hj
      have hd : p.1 ≠ R := fun e => by
        have hl := (List.getElem?_eq_some_iff.1 hj).1
        have h1 : (L.map (·.1))[i]? = some R := by rw [List.getElem?_map, hi]; rfl
        have h2 : (L.map (·.1))[j]? = some R := by rw [List.getElem?_map, hj]; simp [e]
        exact hne ((List.getElem?_inj (by simpa using hil) h.2.1).1 (h1.trans h2.symm))
      exact (hgr.block _ (lt_of_heap (h.1.2 p hpL)) (fun e => hd (by cases e; rfl))).trans (h.1.2 p hpL)
  · intro p hp
    have : p.1 ∈ L.map (·.1) := by rw [← hmap]; exact List.mem_map_of_mem hp
    obtain ⟨q, hq, e⟩ := List.mem_map.1 this
    rw [← e]; exact h.2.2 q hq
section
variable {P : Program} {ops : Array Oper} {Q : Exit → Act → World → Prop}
/-- A value is stored. -/
theorem put6_ {oi : Oper} {a : Act} {w w0 : World} {K : Act → World → Prop} {L : List (Nat × Array Value × TypeId)} {R : Nat} {c0 c1 c2 c3 c4 c5 v0 v1 v2 v3 v4 v5 : Value} {t : TypeId} (hL : SPN w0 L w) (i : Nat) (hi : L[i]? = some (R, #[c0, c1, c2, c3, c4, c5], t)) (hw : Region.wanted oi (yielded ops a.tmps) = true) (hN : oi.dst = none)
    (hrun : (execOp a.eval oi).run P w = .ok .skip ((((((w.setCell ⟨R, 0, none⟩ v0).setCell ⟨R, 1, none⟩ v1).setCell ⟨R, 2, none⟩ v2).setCell ⟨R, 3, none⟩ v3).setCell ⟨R, 4, none⟩ v4).setCell ⟨R, 5, none⟩ v5)) (h : ∀ w1, SPN w0 (L.set i (R, #[v0, v1, v2, v3, v4, v5], t)) w1 → K a w1) :
    if Region.wanted oi (yielded ops a.tmps) = true then Oper.wp P oi a w K Q else K (a.put none undef) w := skip_ hw hN hrun (h _ (hL.put6 i hi v0 v1 v2 v3 v4 v5))
end
theorem K_null (w : World) : k26.K w nullV [.int .i64 0, .int .i64 0, .string ⟨#[]⟩, .slice none 0 0, .slice none 0 0, .slice none 0 0] :=
  k26_mk w nullV (Nat.le_refl _) (Kd.C_nil _ _) (Nat.le_refl _) (Kd.C_nil _ _) (Nat.le_refl _) (Kd.C_nil _ _)
end Go.Proofs.YtbnfeicpjmfooaaGreatDoor.ValA
