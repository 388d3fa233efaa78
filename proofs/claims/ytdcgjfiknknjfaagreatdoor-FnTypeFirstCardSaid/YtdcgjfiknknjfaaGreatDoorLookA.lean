/-
The looks of package spec at a string.
-/
import Derived.Test.YtdcgjfiknknjfaaGreatDoorValA
import Derived.Test.YtdcgjfiknknjfaaGreatDoorShelfV
namespace Go.Proofs.YtdcgjfiknknjfaaGreatDoor.ValA
open Go.RowKit Go.Lib
/-- The tables of package utf8. -/
def Env (w : World) : Prop := Lib.Utf8Tabs 1 2 w
theorem Env.below {w w' : World} (h : Env w) (hb : Below w.heap.size w w') : Env w' := Utf8Tabs_below h hb
theorem valid_any (s : ByteArray) (w : World) (hs : s.size ≤ 9223372036854775807) (hE : Env w) :
    Calls Tryz.prog 129 #[.string s] w fun e w' => e = .returned (.bool (Lib.validD s.data.toList)) ∧ Below w.heap.size w w' := Any.utf8_ValidString Tryz.laysValid s w hs hE
theorem str_any (w0 : World) (hE : Env w0) (g : Nat) (hg0 : w0.heap.size ≤ g) (p q : Int) (b : Bool) (s : ByteArray) (hs : s.size ≤ 9223372036854775807) (w : World) (hb0 : Below w0.heap.size w0 w) (h : Lk w g p q b) :
    Calls Tryz.prog 81 #[.pointer (some ⟨g, 0, none⟩), .string s] w fun e w' => ∃ c, (c = false → b = false ∧ wrap64 (q + s.size) ≤ 2000) ∧ e = .returned (.tuple #[]) ∧ Lk w' g p (wrap64 (q + s.size)) c ∧ w.grownBy w' (some g) := by
  obtain ⟨c0, c1, c2, f0, f1, f2⟩ := h.cells
  obtain ⟨q', hq⟩ : ∃ q', wrap64 (q + s.size) = q' := ⟨_, rfl⟩
  rw [hq]
  obtain ⟨W1, hW⟩ : ∃ W1, W1 = w.setCell ⟨g, 1, none⟩ (.int .i64 q') := ⟨_, rfl⟩
  have h1 : Lk W1 g p q' b := by rw [hW]; exact h.set1 _
  have hg1 : w.grownBy W1 (some g) := by rw [hW]; exact grown_set (World.grownBy.refl w _) 1 _
  have hb1 : Below w0.heap.size w0 W1 := hb0.grown hg1 hb0.size (fun k hk => by cases hk; exact hg0)
  have HL := Lib.hid (And.intro h1 (And.intro hg1 hb1))
  have HW := Lib.hid (fun c w h => want_any g p q' b c w h)
  by_cases h2 : q' ≤ 2000
  · have e1 : decide (q' ≤ 2000) = true := decide_eq_true h2
    have HV := Lib.hid (valid_any s W1 hs (hE.below hb1))
    have H2 := Lib.hid h2
    generalize Lib.validD s.data.toList = v at HV
    obtain ⟨y0, y1, y2, k0, k1, k2⟩ := h1.cells
    rw [hW] at y0 y1 y2 k0 k1 k2
    clear h h1 hg1 hb1 hb0 hE hs h2
    go_enter Tryz.func81, Tryz.ntmps81
    go_wp2_with fail
    rw [← hW]
    clear y0 y1 y2 k0 k1 k2 hW
    refine HV.out.mono ?_
    rintro e w2 ⟨rfl, hb⟩
    have HL2 := Lib.hid (show Lk w2 g p q' b ∧ w.grownBy w2 (some g) from ⟨by unfold Lk; rw [hb.block g (lt_of_heap HL.out.1)]; exact HL.out.1, HL.out.2.1.trans ⟨hb.os, hb.tape, hb.output, hb.size, fun i hi _ => hb.block i hi⟩⟩)
    clear hb
    go_wp2_with fail
    refine (HW.out v _ HL2.out.1).mono ?_
    rintro e w3 ⟨rfl, hl, hg⟩
    have F := Lib.hid (And.intro hl (HL2.out.2.trans hg))
    clear hl hg
    go_wp2_with fail
    go_end0
    exact ⟨_, fun e => by cases b <;> simp_all [H2.out], rfl, F.out⟩
  · have e1 : decide (q' ≤ 2000) = false := decide_eq_false h2
    obtain ⟨y0, y1, y2, k0, k1, k2⟩ := h1.cells
    rw [hW] at y0 y1 y2 k0 k1 k2
    clear h h1 hg1 hb1 hb0 hE hs h2
    go_enter Tryz.func81, Tryz.ntmps81
    go_wp2_with fail
    rw [← hW]
    clear y0 y1 y2 k0 k1 k2 hW
    refine (HW.out false _ HL.out.1).mono ?_
    rintro e w3 ⟨rfl, hl, hg⟩
    have F := Lib.hid (And.intro hl (HL.out.2.1.trans hg))
    clear hl hg
    go_wp2_with fail
    go_end0
    exact ⟨_, fun e => by cases b <;> simp at e, rfl, F.out⟩
theorem part_r (g : Nat) (p q d : Int) (b : Bool) (w : World) (h : Lk w g p q b) :
    Calls Tryz.prog 79 #[.pointer (some ⟨g, 0, none⟩), .int .i64 d] w fun e w' => ∃ r, (r = true → b = false ∧ wrap64 (p + 1) ≤ 400) ∧ e = .returned (.bool r) ∧ Lk w' g (wrap64 (p + 1)) q (!r) ∧ w.grownBy w' (some g) :=
  (part_any g p q d b w h).mono fun e w' ⟨c, hc, he, hl, hg⟩ => ⟨!c, fun hr => by
    have : c = false := by cases c <;> simp_all
    subst this
    have hc' := hc.symm
    simp only [Bool.or_eq_false_iff, Bool.not_eq_false', Bool.and_eq_true, decide_eq_true_eq] at hc'
    exact ⟨hc'.1, hc'.2.1⟩, he, by rw [Bool.not_not]; exact hl, hg⟩
end Go.Proofs.YtdcgjfiknknjfaaGreatDoor.ValA
