/-
impl.fromGo, impl.result at any value of JSON.
-/
import Derived.Test.YtdcgjfiknknjfaaGreatDoorFrD
import Derived.Test.YtdcgjfiknknjfaaGreatDoorIterV
import Derived.Test.YtdcgjfiknknjfaaGreatDoorMH
set_option linter.unusedSimpArgs false
set_option linter.unusedVariables false
namespace Go.Proofs.YtdcgjfiknknjfaaGreatDoor.NumA
open Go.RowKit Go.Lib Go.Proofs.YtdcgjfiknknjfaaGreatDoor.ValA Go.Proofs.YtdcgjfiknknjfaaGreatDoor.FloH Go.Proofs.YtdcgjfiknknjfaaGreatDoorW.PrintWords Go.Proofs.YtdcgjfiknknjfaaGreatDoorW.PrintLast Go.Proofs.YtdcgjfiknknjfaaGreatDoorW.PrintMore Go.Proofs.YtdcgjfiknknjfaaGreatDoor.PzzFits1
theorem keys_sorted (w : World) (b c : Nat) (es : List MapEntry) (l : List ByteArray) (hb : w.heap[b]? = some (.map es.toArray c)) (hst : MapKept.Stamped es.toArray c) (hn : es.length ≤ 400) (hk : KeysAre es l)
    (hrise : ∀ i : Nat, 0 < i → i < l.length → Op.bytesLess (rdOf ByteArray.empty l (i - 1 : Nat)).toList (rdOf ByteArray.empty l i).toList = true) : KeysSorted b l w := by
  obtain ⟨D, hD⟩ : ∃ D, IsD es D := ⟨_, rfl⟩
  have hown := owns_of hb hst hn hk hD
  have hsz := size_D hD
  unfold KeysSorted
  refine (callsIn_wide.1 (Tryz.maps_Keys_132 (some b) w)).mono ?_
  rintro e w1 ⟨rfl, rfl⟩
  refine ⟨_, rfl, (callsIn_wide.1 (Tryz.slices_Sorted_keys_131_132 b es.length D R0 w hown (by unfold maxLen; omega) (by omega))).mono ?_⟩
  rintro e w2 ⟨v, ss, rfl, hS, hrow, hnil, hb2⟩
  have hp := hS.trans (keys_perm hk hD)
  have hlen : ss.length = l.length := by have := hp.length_eq; rwa [List.length_map] at this
  rw [sort_keys hrise hp] at hrow
  have hb3 : Below w.heap.size w w2 := ((Below.refl _ w).alloc (Nat.le_refl _) _).trans (hb2.mono (by rw [World.size_alloc]; omega))
  rcases hrow.2 with ⟨rfl, h0⟩ | ⟨g, cap, cur, rfl, hbase, hh, h1, h2, h3, h4⟩
  · have hl0 : l = [] := List.eq_nil_of_length_eq_zero (by rw [← hlen]; exact h0)
    exact ⟨none, 0, by rw [hl0]; rfl, .inl hl0, hb3⟩
  · refine ⟨some ⟨g, 0, none⟩, cap, by rw [hlen], .inr ⟨g, cur, rfl, by rw [World.size_alloc] at hbase; omega, hh, fun j s hj => ?_⟩, hb3⟩
    have hjl := (List.getElem?_eq_some_iff.1 hj).1
    have e : (cur.toList.take (ss.length * 1))[j]? = some (.string s) := by
      rw [h4, List.getElem?_map, List.getElem?_map, hj]
      simp [Go.Proofs.encStr]
    rw [List.getElem?_take_of_lt (by omega), Array.getElem?_toList] at e
    exact e
theorem fromGo_any : ∀ (N : Nat) (x : V), SizeOf.sizeOf x < N → WF x → Sz x → ∀ (g : Value) (n : Nat) (w : World), G n w x g → FromGo x g w
  | 0, _, h, _, _, _, _, _, _ => absurd h (Nat.not_lt_zero _)
  | N + 1, x, hN, hx, zx, g, m, w, hg => by
    obtain ⟨s1, s2, s3, s4⟩ := wf_shape hx
    obtain ⟨f0, f6, fj, f45⟩ := wf_facts hx
    have hx0 := hx
    obtain ⟨_, _, _, n3, n4, hk, w3, w5⟩ := hx
    obtain ⟨_, _, z4, z3, z5⟩ := zx
    have hc : x.f0 ≤ 4 ∨ x.f0 = 5 ∨ x.f0 = 6 := by omega
    rcases hc with c | c | c
    · rw [hg.flat_inv c]
      exact fromGo_flat x hx0 c w
    · have ex : x = ⟨5, 0, ⟨#[]⟩, x.f3, [], []⟩ := by
        have a1 := s1 (by omega)
        have a2 := s2 (by omega)
        have a4 := s4 (by omega)
        obtain ⟨k0, k1, k2, k3, k4, k5⟩ := x
        simp only at a1 a2 a4 c ⊢
        rw [a1, a2, a4.1, a4.2, c]
      obtain ⟨b, l, rfl, _, hl, hw, he⟩ := hg.list_inv c
      rw [ex]
      refine fromGo_of_list w _ b _ fun w1 hb1 => ?_
      refine listFromGo_any w1 b x.f3.length x.f3 l rfl n3 hl ((hb1.block _ (lt_of_heap hw)).trans hw) fun j v hv w' hb => ?_
      have hj : j < x.f3.length := by have := (List.getElem?_eq_some_iff.1 hv).1; omega
      have hm := rd_mem x.f3 j hj
      exact fromGo_any N _ (by
        have h1 := List.sizeOf_lt_of_mem hm
        have h2 := size3 x
        omega) (w3 _ hm) (z3 _ hm) v m w' ((he j _ v (rd_at x.f3 j hj) hv).keepB (hb1.trans (hb.mono hb1.size)))
    · have ex : x = ⟨6, 0, ⟨#[]⟩, [], x.f4, x.f5⟩ := by
        have a1 := s1 (by omega)
        have a2 := s2 (by omega)
        have a3 := s3 (by omega)
        obtain ⟨k0, k1, k2, k3, k4, k5⟩ := x
        simp only at a1 a2 a3 c ⊢
        rw [a1, a2, a3, c]
      obtain ⟨b, es, cb, rfl, _, hl, hw, hst, hkey, he⟩ := hg.map_inv c
      rw [ex]
      refine fromGo_of_map w _ b fun w1 hb1 => ?_
      have hka : KeysAre es x.f4 := ⟨hl, hkey, z4⟩
      have hw1 := (hb1.block _ (lt_of_heap hw)).trans hw
      refine mapFromGo_any w1 b cb x.f4.length es x.f4 x.f5 rfl f45.symm n4 hw1 hst hka (fun w' hb => keys_sorted w' b cb es x.f4 ((hb.block _ (lt_of_heap hw1)).trans hw1) hst (by omega) hka hk) fun j e hv w' hb => ?_
      have hj : j < x.f5.length := by have := (List.getElem?_eq_some_iff.1 hv).1; omega
      have hm := rd_mem x.f5 j hj
      exact fromGo_any N _ (by
        have h1 := List.sizeOf_lt_of_mem hm
        have h2 := size5 x
        omega) (w5 _ hm) (z5 _ hm) e.val m w' ((he j _ e (rd_at x.f5 j hj) hv).keepB (hb1.trans (hb.mono hb1.size)))
theorem noErrN (w : World) : (Instr.typeAssert .nilIface 20 69 true).run Tryz.prog w = .ok (.tuple #[.nilIface, .bool false]) w := by kernel_rfl
theorem noErrS (v : Value) (w : World) : (Instr.typeAssert (.iface 9 v) 20 69 true).run Tryz.prog w = .ok (.tuple #[.nilIface, .bool false]) w := run_typeAssert_lacksB Tryz.underlying69 (by kernel_rfl) (by kernel_rfl) _ _ _
theorem noErrL (v : Value) (w : World) : (Instr.typeAssert (.iface 62 v) 20 69 true).run Tryz.prog w = .ok (.tuple #[.nilIface, .bool false]) w := run_typeAssert_lacksB Tryz.underlying69 (by kernel_rfl) (by kernel_rfl) _ _ _
theorem noErrM (v : Value) (w : World) : (Instr.typeAssert (.iface 65 v) 20 69 true).run Tryz.prog w = .ok (.tuple #[.nilIface, .bool false]) w := run_typeAssert_lacksB Tryz.underlying69 (by kernel_rfl) (by kernel_rfl) _ _ _
theorem Cl.noErr {k : Int} {g : Value} (h : Cl k g) (w : World) : (Instr.typeAssert g 20 69 true).run Tryz.prog w = .ok (.tuple #[.nilIface, .bool false]) w := by
  cases h with
  | nil => exact noErrN w
  | no => exact noErrT _ w
  | yes => exact noErrT _ w
  | int n => exact noErr3 _ w
  | flt n => exact noErr6 _ w
  | str s => exact noErrS _ w
  | list A n => exact noErrL _ w
  | map b => exact noErrM _ w
end Go.Proofs.YtdcgjfiknknjfaaGreatDoor.NumA
