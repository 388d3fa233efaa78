/-
Parts of the proof, one behind the other: ConS.
-/
import Derived.Test.YtcoahpcjhhnkkaaGreatDoorMO
import Derived.Test.YtcoahpcjhhnkkaaGreatDoorML
/-
A value contains itself; an array, a text, contains its parts.
-/
set_option linter.unusedSimpArgs false
set_option linter.unusedVariables false
namespace Go.Proofs.YtcoahpcjhhnkkaaGreatDoor.NumA
open Go.RowKit Go.Lib Go.Proofs.YtcoahpcjhhnkkaaGreatDoor.ValA Go.Proofs.YtcoahpcjhhnkkaaGreatDoor.FloH Go.Proofs.YtcoahpcjhhnkkaaGreatDoor.PzzContains Go.Proofs.YtcoahpcjhhnkkaaGreatDoorW.PrintWords Go.Proofs.YtcoahpcjhhnkkaaGreatDoorW.PrintLast Go.Proofs.YtcoahpcjhhnkkaaGreatDoorW.PrintMore Go.Proofs.YtcoahpcjhhnkkaaGreatDoor.PzzFits1 Go.Proofs.YtcoahpcjhhnkkaaGreatDoor.TxtA
theorem rise_nodup {l : List ByteArray} (h : ∀ i : Nat, 0 < i → i < l.length → Op.bytesLess (rdOf ByteArray.empty l (i - 1 : Nat)).toList (rdOf ByteArray.empty l i).toList = true) : l.Nodup := by
  refine List.pairwise_iff_getElem.2 fun i j hi hj hij e => ?_
  have h1 := keys_ne h i j hij hj
  have e1 := key_rd l i hi
  have e2 := key_rd l j hj
  rw [List.getElem?_eq_getElem hi] at e1
  rw [List.getElem?_eq_getElem hj] at e2
  exact h1 (by rw [← Option.some.inj e1, ← Option.some.inj e2]; exact e)
theorem idx_found (s t : ByteArray) (p : Nat) (hs : s.size ≤ 140737488355328) (ht : t.size ≤ 140737488355328) (hp : p + t.size ≤ s.size) (he : (s.extract p (p + t.size)).toList = t.toList) : ∀ (d j : Nat), d + j = s.size + 1 → j ≤ p → ∃ r, gojq_zzIndex.l0 (d + 1) s t j = some r ∧ 0 ≤ r
  | d, j, hd, hj => by
    rw [gojq_zzIndex.l0]
    have hw : wrap64 ((j : Int) + (t.size : Int)) = (j : Int) + t.size := by unfold wrap64; omega
    rw [hw, if_pos (by omega), if_pos (by omega), if_pos (by omega)]
    by_cases e : (s.extract (j : Int).toNat ((j : Int) + t.size).toNat).toList = t.toList
    · rw [if_pos e]
      exact ⟨j, rfl, by omega⟩
    · rw [if_neg e]
      have hne : j ≠ p := fun h => by
        subst h
        exact e (by rw [Int.toNat_natCast, show ((j : Int) + (t.size : Int)).toNat = j + t.size by omega]; exact he)
      match d, hd with
      | 0, hd => omega
      | d + 1, hd =>
        have hw2 : wrap64 ((j : Int) + 1) = ((j + 1 : Nat) : Int) := by unfold wrap64; omega
        rw [hw2]
        exact idx_found s t p hs ht hp he d (j + 1) (by omega) (by omega)
theorem conB_sub (s : ByteArray) (p q : Nat) (hs : s.size ≤ 140737488355328) (hpq : p ≤ q) (hq : q ≤ s.size) : conB s (s.extract p q) = true := by
  have hz : (s.extract p q).size = q - p := cut_size s hq
  obtain ⟨r, h1, h2⟩ := idx_found s (s.extract p q) p hs (by omega) (by omega) (by rw [hz, show p + (q - p) = q by omega]) (s.size + 1) 0 (by omega) (by omega)
  unfold conB gojq_zzContains.f gojq_zzIndex.f
  rw [show ((0 : Nat) : Int) = 0 from rfl] at h1
  rw [h1]
  simp [h2]
theorem con_self : ∀ (N : Nat) (x : V), SizeOf.sizeOf x < N → WL x → Tz x → con x x = some true
  | 0, _, h, _, _ => absurd h (Nat.not_lt_zero _)
  | N + 1, x, hN, hx, tx => by
    obtain ⟨f0, f6, fj, f45⟩ := wf_facts hx
    obtain ⟨_, _, _, n3, n4, hk, w3, w5⟩ := hx
    obtain ⟨_, t2, t3, t5⟩ := tx
    rw [con_eq, if_neg (by simp)]
    split
    · simp
    split
    · rw [(con_ev2 x.f2 x.f2 t2 t2).2.2 rfl]
    split
    · rw [List.all_eq_true.2 fun r hr => (conA_iff r x.f3).2 ⟨r, hr, con_self N r (by
        have h1 := List.sizeOf_lt_of_mem hr
        have h2 := size3c x
        omega) (w3 r hr) (t3 r hr)⟩]
    split
    · rw [decide_eq_true (Nat.le_refl _), Bool.true_and, zip_all f45.symm (f := fun s r => conK x.f4 x.f5 s r) (fun j s hj => by
        have hj5 : j < x.f5.length := by have := (List.getElem?_eq_some_iff.1 hj).1; omega
        have hr := rd_mem x.f5 j hj5
        show conK _ _ _ _ = _
        rw [conK_at s _ x.f4 x.f5 (rise_nodup hk) j _ hj (rd_at x.f5 j hj5), con_self N _ (by
          have h1 := List.sizeOf_lt_of_mem hr
          have h2 := size5c x
          omega) (w5 _ hr) (t5 _ hr)]
        rfl)]
    rfl
theorem con_part {x : V} (hx : WL x) (tx : Tz x) (hk : x.f0 = 4 ∨ x.f0 = 5) (a b : Nat) (hab : a ≤ b) : con x (partV x a b) = some true := by
  have h0 := part_f0 hk a b
  rw [con_eq, if_neg (by rw [h0]; simp)]
  unfold partV
  obtain ⟨_, t2, t3, t5⟩ := tx
  rcases hk with h | h
  · rw [if_neg (by omega), if_pos h, if_pos h]
    show some (conB x.f2 (cut x.f2 a b)) = _
    unfold cut
    rw [conB_sub x.f2 _ _ t2 (off_mono _ hab) (off_le _ _)]
  · rw [if_neg (by omega), if_neg (by omega), if_pos h, if_neg (by omega)]
    show some (((x.f3.drop a).take (b - a)).all fun r => conA x.f3 r) = _
    rw [List.all_eq_true.2 fun r hr => (conA_iff r x.f3).2 ⟨r, List.mem_of_mem_drop (List.mem_of_mem_take hr), ?_⟩]
    have hm := List.mem_of_mem_drop (List.mem_of_mem_take hr)
    exact con_self _ r (Nat.lt_succ_self _) (hx.h3 r hm) (t3 r hm)
theorem part_tz {x : V} (tx : Tz x) (a b : Nat) : Tz (partV x a b) := by
  obtain ⟨_, t2, t3, t5⟩ := tx
  unfold partV
  split
  · exact .mk _ (Nat.le_trans (cut_le _ _ _) t2) (fun y hy => by cases hy) (fun y hy => by cases hy)
  · exact lc_tz (fun y hy => t3 y (List.mem_of_mem_drop (List.mem_of_mem_take hy)))
end Go.Proofs.YtcoahpcjhhnkkaaGreatDoor.NumA
