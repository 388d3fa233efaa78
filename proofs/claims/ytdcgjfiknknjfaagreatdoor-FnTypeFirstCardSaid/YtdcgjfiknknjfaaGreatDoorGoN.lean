/-
impl.mapToGo, walked.
-/
import Derived.Test.YtdcgjfiknknjfaaGreatDoorGoM
set_option linter.unusedSimpArgs false
set_option linter.unusedVariables false
namespace Go.Proofs.YtdcgjfiknknjfaaGreatDoor.NumA
open Go.RowKit Go.Lib Go.Proofs.YtdcgjfiknknjfaaGreatDoor.ValA Go.Proofs.YtdcgjfiknknjfaaGreatDoor.FloH Go.Proofs.YtdcgjfiknknjfaaGreatDoorW.PrintWords Go.Proofs.YtdcgjfiknknjfaaGreatDoorW.PrintLast Go.Proofs.YtdcgjfiknknjfaaGreatDoorW.PrintMore Go.Proofs.YtdcgjfiknknjfaaGreatDoor.PzzFits1
theorem SM.next {w wr w4 : World} {cs : Array Value} {l4 : List ByteArray} {l5 : List V} {j : Nat} {es : List MapEntry} {c : Nat} (h : SM w cs l4 l5 j es c wr) (hb4 : Below wr.heap.size wr w4) {g : Value} (hG : G wr.heap.size w4 (rd_T26 l5 j) g) (h4 : j < l4.length) (h5 : j < l5.length) (hs4 : ∀ s ∈ l4, s.size ≤ 9223372036854775807)
    (hk : ∀ i : Nat, 0 < i → i < l4.length → Op.bytesLess (rdOf ByteArray.empty l4 (i - 1 : Nat)).toList (rdOf ByteArray.empty l4 i).toList = true) :
    ∃ W es' c', (Instr.mapUpdate 65 (.map (some (w.heap.size + 1))) (.string (rdOf ByteArray.empty l4 j)) g).run Tryz.prog w4 = .ok () W ∧ SM w cs l4 l5 (j + 1) es' c' W := by
  have h1 := h.step hb4
  have hlt := lt_of_heap h.2.2.2.1
  refine ⟨_, _, _, run_put h1.2.2.2.1 _ g (hs4 _ (key_mem l4 j h4)) ?_, h1.put h4 h5 (Nat.lt_of_lt_of_le hlt hb4.size) g (hG.mono hlt)⟩
  intro e he
  obtain ⟨i, hi⟩ := List.getElem?_of_mem he
  have hij : i < j := by
    have := (List.getElem?_eq_some_iff.1 hi).1
    have := h.2.2.1
    omega
  exact ⟨_, h.2.2.2.2.1 i _ e (key_rd l4 i (by omega)) hi, hs4 _ (key_mem l4 i (by omega)), keys_ne hk i j hij h4⟩
set_option maxHeartbeats 8000000 in
theorem mapToGo_any (w0 : World) (K H : Int) (s : ByteArray) (A3 A4 A5 : Option Addr) (n3 c3 n4 c4 c5 : Nat) (l4 : List ByteArray) (l5 : List V) (hC4 : Kd.C Kd.string w0 A4 n4 l4) (hC5 : Kd.C k26 w0 A5 n4 l5) (h4 : l4.length = n4) (h5 : l5.length = n4) (hn : n4 ≤ 400) (hs4 : ∀ s ∈ l4, s.size ≤ 9223372036854775807)
    (hk : ∀ i : Nat, 0 < i → i < l4.length → Op.bytesLess (rdOf ByteArray.empty l4 (i - 1 : Nat)).toList (rdOf ByteArray.empty l4 i).toList = true) (ih : ∀ y ∈ l5, ∀ cs, k26.K w0 y cs → ToGo w0 y cs) (w : World) (hb : Below w0.heap.size w0 w) :
    Calls Tryz.prog 62 #[.agg #[.int .i64 K, .int .i64 H, .string s, .slice A3 n3 c3, .slice A4 n4 c4, .slice A5 n4 c5]] w (MapGo w l4 l5) := by
  have hmk := fun w => runMakeMap (n4 : Int) w
  have HC := Lib.hid (And.intro hC4 hC5)
  have HI := Lib.hid (fun y hy cs hc => ih y hy cs hc)
  have HB := Lib.hid hb
  have HN := Lib.hid (And.intro hn (And.intro h4 h5))
  have HK := Lib.hid hk
  have HS := Lib.hid hs4
  clear hC4 hC5 ih hb h4 h5 hk hs4
  go_enter Tryz.func62, Tryz.ntmps62
  go_wp2_with fail
  obtain ⟨W1, hW1⟩ : ∃ W1, W1 = (w.alloc (.cells #[.int .i64 K, .int .i64 H, .string s, .slice A3 n3 c3, .slice A4 n4 c4, .slice A5 n4 c5] 26)).alloc (.map #[] 0) := ⟨_, rfl⟩
  have H1 := Lib.hid (show SM w #[.int .i64 K, .int .i64 H, .string s, .slice A3 n3 c3, .slice A4 n4 c4, .slice A5 n4 c5] l4 l5 0 [] 0 W1 by
    rw [hW1]
    have h1 := heap_alloc_new w (.cells #[.int .i64 K, .int .i64 H, .string s, .slice A3 n3 c3, .slice A4 n4 c4, .slice A5 n4 c5] 26)
    have h2 := heap_alloc_new (w.alloc (.cells #[.int .i64 K, .int .i64 H, .string s, .slice A3 n3 c3, .slice A4 n4 c4, .slice A5 n4 c5] 26)) (.map #[] 0)
    rw [World.size_alloc] at h2
    exact ⟨((Below.refl _ w).alloc (Nat.le_refl _) _).alloc (by rw [World.size_alloc]; omega) _, ((World.grownBy_alloc _ (.map #[] 0) none).block _ (lt_of_heap h1) (by simp)).trans h1, rfl, h2, fun i s e _ h => by simp at h, fun i y e _ h => by simp at h⟩)
  rw [← hW1]
  clear hW1 hmk
  go_loopg [23] n4 (fun k i wr => RM w #[.int .i64 K, .int .i64 H, .string s, .slice A3 n3 c3, .slice A4 n4 c4, .slice A5 n4 c5] l4 l5 k i wr)
  case atStart => exact ⟨0, [], 0, rfl, by have := HN.out.2.1; omega, H1.out⟩
  case round =>
    clear H1
    obtain ⟨j, es, c, rfl, hkj, hS⟩ := hrel
    have HR := Lib.hid hS
    have HJ := Lib.hid hkj
    have y := six_cells hS.2.1
    by_cases hlt : j < n4
    · obtain ⟨ak, rfl, xk⟩ := key_at HC.out.1 (HB.out.trans (hS.1.mono HB.out.size)) j hlt
      obtain ⟨ad, B3, e3, B4, e4, B5, e5, rfl, x0, x1, x2, x3, x4, x5, hK⟩ := elem_at HC.out.2 (HB.out.trans (hS.1.mono HB.out.size)) j hlt
      have HL := Lib.hid (HI.out _ (rd_mem l5 j (by have := HN.out.2.2; omega)) _ hK)
      have hlt2 : (j : Int) < (n4 : Int) := by omega
      have HLT := Lib.hid hlt
      clear hK hkj hn
      by_cases hj0 : j = 0
      · have e0 : decide (0 < (j : Int)) = false := decide_eq_false (by omega)
        have e1 : decide (0 < j) = false := decide_eq_false (by omega)
        clear hS hj0
        go_wp2_with fail
        refine (HL.out wr (HB.out.trans (HR.out.1.mono HB.out.size))).mono ?_
        rintro e w4 ⟨g, rfl, hG, hb4⟩
        obtain ⟨W5, es', c', hput, hS5⟩ := HR.out.next hb4 hG (by have := HN.out.2.1; have := HLT.out; omega) (by have := HN.out.2.2; have := HLT.out; omega) HS.out HK.out
        have H5 := Lib.hid hS5
        clear hG hb4 hS5 y x0 x1 x2 x3 x4 x5
        go_wp2_with fail
        go_roundg (gk - 1)
        case measure => have := HJ.out; have := HN.out.2.1; have := HLT.out; omega
        case rel =>
          have hw : wrap64 ((j : Int) + 1) = ((j + 1 : Nat) : Int) := by have := HN.out.1; have := HLT.out; unfold wrap64; omega
          rw [hw]
          exact ⟨j + 1, es', c', rfl, by have := HJ.out; have := HN.out.2.1; have := HLT.out; omega, H5.out⟩
      · obtain ⟨m, hm⟩ : ∃ m, m + 1 = j := ⟨j - 1, by omega⟩
        have e0 : decide (0 < (j : Int)) = true := decide_eq_true (by omega)
        have e1 : decide (0 < j) = true := decide_eq_true (by omega)
        obtain ⟨ak', eak', xm⟩ := key_at HC.out.1 (HB.out.trans (hS.1.mono HB.out.size)) m (by omega)
        obtain rfl : ak' = ak := (Option.some.inj eak').symm
        have e2 : wrap64 ((j : Int) - 1) = (m : Int) := by have := HN.out.1; unfold wrap64; omega
        have e3 : (m : Int) < (n4 : Int) := by omega
        have e4b : Op.bytesLess (rdOf ByteArray.empty l4 m).toList (rdOf ByteArray.empty l4 j).toList = true := by
          have h := HK.out j (by omega) (by have := HN.out.2.1; omega)
          rwa [show j - 1 = m by omega] at h
        clear hS hj0 eak' hm
        go_wp2_with fail
        clear xm e2 e3 e4b
        refine (HL.out wr (HB.out.trans (HR.out.1.mono HB.out.size))).mono ?_
        rintro e w4 ⟨g, rfl, hG, hb4⟩
        obtain ⟨W5, es', c', hput, hS5⟩ := HR.out.next hb4 hG (by have := HN.out.2.1; have := HLT.out; omega) (by have := HN.out.2.2; have := HLT.out; omega) HS.out HK.out
        have H5 := Lib.hid hS5
        clear hG hb4 hS5 y x0 x1 x2 x3 x4 x5
        go_wp2_with fail
        go_roundg (gk - 1)
        case measure => have := HJ.out; have := HN.out.2.1; have := HLT.out; omega
        case rel =>
          have hw : wrap64 ((j : Int) + 1) = ((j + 1 : Nat) : Int) := by have := HN.out.1; have := HLT.out; unfold wrap64; omega
          rw [hw]
          exact ⟨j + 1, es', c', rfl, by have := HJ.out; have := HN.out.2.1; have := HLT.out; omega, H5.out⟩
    · have hlt2 : ¬ (j : Int) < (n4 : Int) := by omega
      have hlt3 : decide ((j : Int) < (n4 : Int)) = false := decide_eq_false hlt2
      have hlt4 : decide (j < n4) = false := decide_eq_false hlt
      have HNL := Lib.hid hlt
      clear hS hkj hn hlt hlt2
      go_wp2_with fail
      go_ret2
      have hj : j = l4.length := by have := HJ.out; have := HN.out.2.1; have := HNL.out; omega
      exact ⟨w.heap.size + 1, es, c, rfl, Nat.le_succ _, by rw [HR.out.2.2.1, hj], HR.out.2.2.2.1, HR.out.2.2.2.2.1, fun i y e hy he => (HR.out.2.2.2.2.2 i y e hy he).mono (by omega), HR.out.1⟩
end Go.Proofs.YtdcgjfiknknjfaaGreatDoor.NumA
