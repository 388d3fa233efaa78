/-
Contains at two strings; the order of flat values; the law's yes and no.
-/
import Derived.Test.YtdcgjfiknknjfaaGreatDoorFlatA
import Derived.Sort.Walk0
namespace Go.Proofs.YtdcgjfiknknjfaaGreatDoor.NumA
open Go.RowKit Go.Lib Go.Proofs.YtdcgjfiknknjfaaGreatDoor.ValA Go.Proofs.YtdcgjfiknknjfaaGreatDoor.FloH Go.Proofs.YtdcgjfiknknjfaaGreatDoor.PzzContains Go.Proofs.YtdcgjfiknknjfaaGreatDoorW.PrintWords Go.Proofs.YtdcgjfiknknjfaaGreatDoorW.PrintLast Go.Proofs.YtdcgjfiknknjfaaGreatDoorW.PrintMore
theorem ext_all (s : ByteArray) : s.extract 0 s.size = s := by
  apply Go.WideShapes.bytes_inj
  simp
theorem idx_ev (s t : ByteArray) (hs : s.size ≤ 2147483647) (ht : t.size ≤ 2147483647) : ∀ (d j : Nat), d + j = s.size + 1 → ∃ r, gojq_zzIndex.l0 (d + 1) s t j = some r ∧ (0 ≤ r → (j : Int) ≤ r ∧ r + t.size ≤ s.size ∧ (s.extract r.toNat (r + t.size).toNat).toList = t.toList) ∧ (s = t → j = 0 → r = 0)
  | d, j, hd => by
    rw [gojq_zzIndex.l0]
    have hw : wrap64 ((j : Int) + (t.size : Int)) = (j : Int) + t.size := by unfold wrap64; omega
    rw [hw]
    by_cases c : (j : Int) + t.size ≤ s.size
    · rw [if_pos c, if_pos (by omega), if_pos (by omega)]
      by_cases e : (s.extract (j : Int).toNat ((j : Int) + t.size).toNat).toList = t.toList
      · rw [if_pos e]
        exact ⟨j, rfl, fun _ => ⟨by omega, c, e⟩, fun _ h => by omega⟩
      · rw [if_neg e]
        match d, hd with
        | 0, hd => omega
        | d + 1, hd =>
          have hw2 : wrap64 ((j : Int) + 1) = ((j + 1 : Nat) : Int) := by unfold wrap64; omega
          rw [hw2]
          obtain ⟨r, h1, h2, h3⟩ := idx_ev s t hs ht d (j + 1) (by omega)
          refine ⟨r, h1, fun h => ⟨by have := (h2 h).1; omega, (h2 h).2⟩, fun e1 e2 => ?_⟩
          subst e1 e2
          exact absurd (by simp) e
    · rw [if_neg c]
      exact ⟨-1, rfl, fun h => by omega, fun e1 e2 => by subst e1 e2; omega⟩
/-- Does a string contain another one. -/
def conB (s t : ByteArray) : Bool := gojq_zzContains.f (s.size + 2) s t == some true
theorem con_ev (s t : ByteArray) (hs : s.size ≤ 2147483647) (ht : t.size ≤ 2147483647) : gojq_zzContains.f (s.size + 2) s t = some (conB s t) ∧ (conB s t = true → t.size ≤ s.size ∧ (t.size = s.size → s = t)) ∧ (s = t → conB s t = true) := by
  obtain ⟨r, h1, h2, h3⟩ := idx_ev s t hs ht (s.size + 1) 0 (by omega)
  have hf : gojq_zzContains.f (s.size + 2) s t = some (decide (r ≥ 0)) := by
    unfold gojq_zzContains.f gojq_zzIndex.f
    rw [show ((0 : Nat) : Int) = 0 from rfl] at h1
    rw [h1]; rfl
  have hc : conB s t = decide (r ≥ 0) := by unfold conB; rw [hf]; cases decide (r ≥ 0) <;> rfl
  rw [hc]
  refine ⟨hf, fun h => ?_, fun e => ?_⟩
  · obtain ⟨a, b, c⟩ := h2 (of_decide_eq_true h)
    refine ⟨by omega, fun e => ?_⟩
    obtain rfl : r = 0 := by omega
    rw [show (0 : Int).toNat = 0 from rfl, show (0 + (t.size : Int)).toNat = s.size by omega, ext_all, Lib.toList_data, Lib.toList_data] at c
    exact Go.WideShapes.bytes_inj c
  · rw [h3 e rfl]; rfl
theorem con_text (s t : ByteArray) (hs : s.size ≤ 2147483647) (ht : t.size ≤ 2147483647) (w : World) : Calls Tryz.prog 117 #[.string s, .string t] w (Gives (fun v => v = .iface 4 (.bool (conB s t))) w) := by
  have HC := Lib.hid (fun w => gojq_zzContains.calls _ s t _ w (con_ev s t hs ht).1)
  generalize conB s t = b at HC ⊢
  clear hs ht
  go_enter Tryz.func117, Tryz.ntmps117
  go_wp2_with fail
  refine (HC.out _).mono ?_
  rintro e w1 ⟨rfl, hd⟩
  have HD := Lib.hid hd.below; clear hd
  go_wp2_with fail
  go_ret
  exact ⟨_, rfl, rfl, HD.out⟩
end Go.Proofs.YtdcgjfiknknjfaaGreatDoor.NumA
