/-
Parts of the proof, one behind the other: ConK.
-/
import Derived.Test.YtcoahpcjhhnkkaaGreatDoorMO
import Derived.Test.YtcoahpcjhhnkkaaGreatDoorMN
/-
contains at two objects: key by key.
-/
set_option linter.unusedSimpArgs false
set_option linter.unusedVariables false
namespace Go.Proofs.YtcoahpcjhhnkkaaGreatDoor.NumA
open Go.RowKit Go.Lib Go.Proofs.YtcoahpcjhhnkkaaGreatDoor.ValA Go.Proofs.YtcoahpcjhhnkkaaGreatDoor.FloH Go.Proofs.YtcoahpcjhhnkkaaGreatDoorW.PrintWords Go.Proofs.YtcoahpcjhhnkkaaGreatDoorW.PrintLast Go.Proofs.YtcoahpcjhhnkkaaGreatDoorW.PrintMore Go.Proofs.YtcoahpcjhhnkkaaGreatDoor.PzzFits1
theorem rise_nd {l : List ByteArray} (h : ∀ i : Nat, 0 < i → i < l.length → Op.bytesLess (rdOf ByteArray.empty l (i - 1 : Nat)).toList (rdOf ByteArray.empty l i).toList = true) : l.Nodup := by
  refine List.pairwise_iff_getElem.2 fun i j hi hj hij e => ?_
  have h1 := keys_ne h i j hij hj
  have e1 := key_rd l i hi
  have e2 := key_rd l j hj
  rw [List.getElem?_eq_getElem hi] at e1
  rw [List.getElem?_eq_getElem hj] at e2
  exact h1 (by rw [← Option.some.inj e1, ← Option.some.inj e2]; exact e)
theorem wl_rise {x : V} (hx : WL x) : x.f4.Nodup := by
  obtain ⟨_, _, _, _, _, hk, _, _⟩ := hx
  exact rise_nd hk
theorem get_in {x : V} (hx : WL x) {k : ByteArray} (hk : k ∈ x.f4) : ∃ i : Nat, x.f4[i]? = some k ∧ x.f5[i]? = some (getV x k) := by
  have hf := (wf_facts hx).2.2.2
  obtain ⟨i, hi⟩ := List.getElem?_of_mem hk
  have hi5 : i < x.f5.length := by have := (List.getElem?_eq_some_iff.1 hi).1; omega
  have hm : (k, rd_T26 x.f5 i) ∈ kv x := zip_at hf.symm hi
  refine ⟨i, hi, ?_⟩
  unfold getV
  rw [mem_get (kv_rise hx) hm]
  exact rd_at x.f5 i hi5
theorem conK_get {x : V} (hx : WL x) {k : ByteArray} (hk : k ∈ x.f4) (r : V) : conK x.f4 x.f5 k r = (con (getV x k) r == some true) := by
  obtain ⟨i, h4, h5⟩ := get_in hx hk
  exact conK_at k r x.f4 x.f5 (wl_rise hx) i _ h4 h5
theorem len_sub : ∀ (l l' : List ByteArray), l.Nodup → (∀ s ∈ l, s ∈ l') → l.length ≤ l'.length
  | [], _, _, _ => Nat.zero_le _
  | a :: t, l', hn, h => by
    obtain ⟨p, q, rfl⟩ := List.append_of_mem (h a List.mem_cons_self)
    have ha := (List.nodup_cons.1 hn).1
    have h2 := len_sub t (p ++ q) (List.nodup_cons.1 hn).2 (fun s hs => by
      have h3 := h s (List.mem_cons_of_mem _ hs)
      rw [List.mem_append, List.mem_cons] at h3
      rcases h3 with h3 | h3 | h3
      · exact List.mem_append_left _ h3
      · rw [h3] at hs; exact absurd hs ha
      · exact List.mem_append_right _ h3)
    rw [List.length_append] at h2
    rw [List.length_append, List.length_cons, List.length_cons]
    omega
theorem con_maps {a b : V} (ha : WL a) (hb : WL b) (ka : a.f0 = 6) (kb : b.f0 = 6) : con a b = some ((b.f4.zip b.f5).all fun p => conK a.f4 a.f5 p.1 p.2) := by
  rw [con_eq, if_neg (by rw [ka, kb]; simp), if_neg (by omega), if_neg (by omega), if_neg (by omega), if_pos ka]
  cases h : (b.f4.zip b.f5).all fun p => conK a.f4 a.f5 p.1 p.2 with
  | false => rw [Bool.and_false]
  | true =>
    have hf := (wf_facts hb).2.2.2
    rw [decide_eq_true (len_sub b.f4 a.f4 (wl_rise hb) (fun s hs => by
      obtain ⟨j, hj⟩ := List.getElem?_of_mem hs
      have h1 := List.all_eq_true.1 h _ (zip_at hf.symm hj)
      rcases Classical.em (s ∈ a.f4) with hn | hn
      · exact hn
      exfalso
      have h2 := conK_none s (rd_T26 b.f5 j) a.f4 a.f5 hn
      simp only at h1
      rw [h1] at h2
      cases h2))]
    rfl
theorem zip_step {b : V} (hf : b.f4.length = b.f5.length) (f : ByteArray → V → Bool) {j : Nat} {k : ByteArray} (hk : b.f4[j]? = some k) : (((b.f4.zip b.f5).take (j + 1)).all fun p => f p.1 p.2) = ((((b.f4.zip b.f5).take j).all fun p => f p.1 p.2) && f k (rd_T26 b.f5 j)) := by
  have hj : j < b.f5.length := by have := (List.getElem?_eq_some_iff.1 hk).1; omega
  have hz : (b.f4.zip b.f5)[j]? = some (k, rd_T26 b.f5 j) := List.getElem?_zip_eq_some.2 ⟨hk, rd_at b.f5 j hj⟩
  rw [List.take_add_one, hz, List.all_append]
  simp
theorem zip_full {b : V} (hf : b.f4.length = b.f5.length) {j : Nat} (hj : b.f4.length ≤ j) : (b.f4.zip b.f5).take j = b.f4.zip b.f5 := List.take_of_length_le (by rw [List.length_zip]; omega)
end Go.Proofs.YtcoahpcjhhnkkaaGreatDoor.NumA
