/-
The looks of package spec at a value: want, part, str; sign, texts. Each by its walk.
-/
import Derived.Test.YtdcgjfiknknjfaaGreatDoorProg
import Derived.WalkKit
import Derived.WalkSpells
import Derived.WalkLawsBesides
import Derived.Below
import Derived.Outline
import Derived.Lib.Hide
import Derived.Laws.FloatArith
namespace Go.Proofs.YtdcgjfiknknjfaaGreatDoor.ValA
open Go.RowKit Go.Lib
theorem heap_set {w : World} {g : Nat} {c : Array Value} {e : TypeId} {fz : Nat × Nat} (h : w.heap[g]? = some (.cells c e fz)) (j : Nat) (v : Value) : (w.setCell ⟨g, j, none⟩ v).heap[g]? = some (.cells (c.setIfInBounds j v) e fz) := by
  simp [World.setCell, Array.getElem?_modify, h]
theorem grown_set {w w' : World} {g : Nat} (h : w.grownBy w' (some g)) (j : Nat) (v : Value) : w.grownBy (w'.setCell ⟨g, j, none⟩ v) (some g) :=
  ⟨h.os, h.tape, h.output, by simpa [World.setCell] using h.size, fun k hk hne => by
    rw [Below.heap_setCell _ _ _ _ (fun e => hne (by rw [e]))]
    exact h.block k hk hne⟩
theorem lt_of_heap {w : World} {g : Nat} {o : Obj} (h : w.heap[g]? = some o) : g < w.heap.size := (Array.getElem?_eq_some_iff.1 h).1
theorem six_cells {w : World} {g : Nat} {c0 c1 c2 c3 c4 c5 : Value} {t : TypeId} (h : w.heap[g]? = some (.cells #[c0, c1, c2, c3, c4, c5] t (0, 0))) :
    w.cell? ⟨g, 0, none⟩ = some c0 ∧ w.cell? ⟨g, 1, none⟩ = some c1 ∧ w.cell? ⟨g, 2, none⟩ = some c2 ∧ w.cell? ⟨g, 3, none⟩ = some c3 ∧ w.cell? ⟨g, 4, none⟩ = some c4 ∧ w.cell? ⟨g, 5, none⟩ = some c5 ∧ w.frozen? ⟨g, 0, none⟩ = false ∧ w.frozen? ⟨g, 1, none⟩ = false ∧ w.frozen? ⟨g, 2, none⟩ = false ∧ w.frozen? ⟨g, 3, none⟩ = false ∧ w.frozen? ⟨g, 4, none⟩ = false ∧ w.frozen? ⟨g, 5, none⟩ = false := by
  simp [World.cell?, World.frozen?, h]
theorem six_set {w : World} {g : Nat} {c0 c1 c2 c3 c4 c5 : Value} {t : TypeId} (h : w.heap[g]? = some (.cells #[c0, c1, c2, c3, c4, c5] t (0, 0))) (v0 v1 v2 v3 v4 v5 : Value) :
    ((((((w.setCell ⟨g, 0, none⟩ v0).setCell ⟨g, 1, none⟩ v1).setCell ⟨g, 2, none⟩ v2).setCell ⟨g, 3, none⟩ v3).setCell ⟨g, 4, none⟩ v4).setCell ⟨g, 5, none⟩ v5).heap[g]? = some (.cells #[v0, v1, v2, v3, v4, v5] t (0, 0)) := by
  rw [heap_set (heap_set (heap_set (heap_set (heap_set (heap_set h 0 _) 1 _) 2 _) 3 _) 4 _) 5 _]; rfl
theorem six_grown (w : World) (g : Nat) (v0 v1 v2 v3 v4 v5 : Value) : w.grownBy ((((((w.setCell ⟨g, 0, none⟩ v0).setCell ⟨g, 1, none⟩ v1).setCell ⟨g, 2, none⟩ v2).setCell ⟨g, 3, none⟩ v3).setCell ⟨g, 4, none⟩ v4).setCell ⟨g, 5, none⟩ v5) (some g) :=
  grown_set (grown_set (grown_set (grown_set (grown_set (grown_set (World.grownBy.refl w _) 0 _) 1 _) 2 _) 3 _) 4 _) 5 _
theorem sev_cells {w : World} {g : Nat} {c0 c1 c2 c3 c4 c5 c6 : Value} {t : TypeId} (h : w.heap[g]? = some (.cells #[c0, c1, c2, c3, c4, c5, c6] t (0, 0))) :
    w.cell? ⟨g, 0, none⟩ = some c0 ∧ w.cell? ⟨g, 1, none⟩ = some c1 ∧ w.cell? ⟨g, 2, none⟩ = some c2 ∧ w.cell? ⟨g, 3, none⟩ = some c3 ∧ w.cell? ⟨g, 4, none⟩ = some c4 ∧ w.cell? ⟨g, 5, none⟩ = some c5 ∧ w.cell? ⟨g, 6, none⟩ = some c6 ∧ w.frozen? ⟨g, 0, none⟩ = false ∧ w.frozen? ⟨g, 1, none⟩ = false ∧ w.frozen? ⟨g, 2, none⟩ = false ∧ w.frozen? ⟨g, 3, none⟩ = false ∧ w.frozen? ⟨g, 4, none⟩ = false ∧ w.frozen? ⟨g, 5, none⟩ = false ∧ w.frozen? ⟨g, 6, none⟩ = false := by
  simp [World.cell?, World.frozen?, h]
theorem sev_set {w : World} {g : Nat} {c0 c1 c2 c3 c4 c5 c6 : Value} {t : TypeId} (h : w.heap[g]? = some (.cells #[c0, c1, c2, c3, c4, c5, c6] t (0, 0))) (v0 v1 v2 v3 v4 v5 v6 : Value) :
    (((((((w.setCell ⟨g, 0, none⟩ v0).setCell ⟨g, 1, none⟩ v1).setCell ⟨g, 2, none⟩ v2).setCell ⟨g, 3, none⟩ v3).setCell ⟨g, 4, none⟩ v4).setCell ⟨g, 5, none⟩ v5).setCell ⟨g, 6, none⟩ v6).heap[g]? = some (.cells #[v0, v1, v2, v3, v4, v5, v6] t (0, 0)) := by
  rw [heap_set (heap_set (heap_set (heap_set (heap_set (heap_set (heap_set h 0 _) 1 _) 2 _) 3 _) 4 _) 5 _) 6 _]; rfl
theorem sev_grown (w : World) (g : Nat) (v0 v1 v2 v3 v4 v5 v6 : Value) : w.grownBy (((((((w.setCell ⟨g, 0, none⟩ v0).setCell ⟨g, 1, none⟩ v1).setCell ⟨g, 2, none⟩ v2).setCell ⟨g, 3, none⟩ v3).setCell ⟨g, 4, none⟩ v4).setCell ⟨g, 5, none⟩ v5).setCell ⟨g, 6, none⟩ v6) (some g) :=
  grown_set (grown_set (grown_set (grown_set (grown_set (grown_set (grown_set (World.grownBy.refl w _) 0 _) 1 _) 2 _) 3 _) 4 _) 5 _) 6 _
theorem heap_alloc_new (w : World) (o : Obj) : (w.alloc o).heap[w.heap.size]? = some o := (MapKept.heap_alloc w o).1
/-- Block g is a looker. -/
def Lk (w : World) (g : Nat) (p q : Int) (b : Bool) : Prop := w.heap[g]? = some (.cells #[.int .i64 p, .int .i64 q, .bool b] 59 (0, 0))
theorem Lk.cells {w : World} {g : Nat} {p q : Int} {b : Bool} (h : Lk w g p q b) :
    w.cell? ⟨g, 0, none⟩ = some (.int .i64 p) ∧ w.cell? ⟨g, 1, none⟩ = some (.int .i64 q) ∧ w.cell? ⟨g, 2, none⟩ = some (.bool b) ∧ w.frozen? ⟨g, 0, none⟩ = false ∧ w.frozen? ⟨g, 1, none⟩ = false ∧ w.frozen? ⟨g, 2, none⟩ = false := by
  unfold Lk at h
  simp [World.cell?, World.frozen?, h]
theorem Lk.set0 {w : World} {g : Nat} {p q : Int} {b : Bool} (h : Lk w g p q b) (p' : Int) : Lk (w.setCell ⟨g, 0, none⟩ (.int .i64 p')) g p' q b := by unfold Lk; rw [heap_set h]; rfl
theorem Lk.set1 {w : World} {g : Nat} {p q : Int} {b : Bool} (h : Lk w g p q b) (q' : Int) : Lk (w.setCell ⟨g, 1, none⟩ (.int .i64 q')) g p q' b := by unfold Lk; rw [heap_set h]; rfl
theorem Lk.set2 {w : World} {g : Nat} {p q : Int} {b : Bool} (h : Lk w g p q b) (b' : Bool) : Lk (w.setCell ⟨g, 2, none⟩ (.bool b')) g p q b' := by unfold Lk; rw [heap_set h]; rfl
theorem want_any (g : Nat) (p q : Int) (b c : Bool) (w : World) (h : Lk w g p q b) :
    Calls Tryz.prog 80 #[.pointer (some ⟨g, 0, none⟩), .bool c] w fun e w' => e = .returned (.tuple #[]) ∧ Lk w' g p q (b || !c) ∧ w.grownBy w' (some g) := by
  have fin : Lk (w.setCell ⟨g, 2, none⟩ (.bool (b || !c))) g p q (b || !c) ∧ w.grownBy (w.setCell ⟨g, 2, none⟩ (.bool (b || !c))) (some g) := ⟨h.set2 _, grown_set (World.grownBy.refl w _) 2 _⟩
  obtain ⟨c0, c1, c2, f0, f1, f2⟩ := h.cells
  have F := Lib.hid fin
  clear fin h
  cases b
  · go_enter Tryz.func80, Tryz.ntmps80
    go_wp2_with fail
    go_end0
    exact ⟨rfl, F.out⟩
  · go_enter Tryz.func80, Tryz.ntmps80
    go_wp2_with fail
    go_end0
    exact ⟨rfl, F.out⟩
theorem part_any (g : Nat) (p q d : Int) (b : Bool) (w : World) (h : Lk w g p q b) :
    Calls Tryz.prog 79 #[.pointer (some ⟨g, 0, none⟩), .int .i64 d] w fun e w' => ∃ c, c = (b || !(decide (wrap64 (p + 1) ≤ 400) && (decide (q ≤ 2000) && decide (d ≤ 60)))) ∧ e = .returned (.bool !c) ∧ Lk w' g (wrap64 (p + 1)) q c ∧ w.grownBy w' (some g) := by
  obtain ⟨c0, c1, c2, f0, f1, f2⟩ := h.cells
  obtain ⟨p', hp⟩ : ∃ p', wrap64 (p + 1) = p' := ⟨_, rfl⟩
  rw [hp]
  have HL := Lib.hid (show Lk (w.setCell ⟨g, 0, none⟩ (.int .i64 p')) g p' q b ∧ w.grownBy (w.setCell ⟨g, 0, none⟩ (.int .i64 p')) (some g) from ⟨h.set0 _, grown_set (World.grownBy.refl w _) 0 _⟩)
  have HW := Lib.hid (fun c w h => want_any g p' q b c w h)
  clear h
  by_cases h1 : p' ≤ 400
  · by_cases h2 : q ≤ 2000
    · have e1 : decide (p' ≤ 400) = true := decide_eq_true h1
      have e2 : decide (q ≤ 2000) = true := decide_eq_true h2
      by_cases h3 : d ≤ 60
      · have e3 : decide (d ≤ 60) = true := decide_eq_true h3
        rw [e1, e2, e3]
        clear h1 h2 h3
        go_enter Tryz.func79, Tryz.ntmps79
        go_wp2_with fail
        refine (HW.out true _ HL.out.1).mono ?_
        rintro e w1 ⟨rfl, hl, hg⟩
        obtain ⟨y0, y1, y2, k0, k1, k2⟩ := hl.cells
        have F := Lib.hid (And.intro hl (And.intro hg HL.out.2))
        clear hl hg
        go_wp2_with fail
        go_ret
        exact ⟨_, rfl, by first | rfl | (cases b <;> rfl), F.out.1, F.out.2.2.trans F.out.2.1⟩
      · have e3 : decide (d ≤ 60) = false := decide_eq_false h3
        rw [e1, e2, e3]
        clear h1 h2 h3
        go_enter Tryz.func79, Tryz.ntmps79
        go_wp2_with fail
        refine (HW.out false _ HL.out.1).mono ?_
        rintro e w1 ⟨rfl, hl, hg⟩
        obtain ⟨y0, y1, y2, k0, k1, k2⟩ := hl.cells
        have F := Lib.hid (And.intro hl (And.intro hg HL.out.2))
        clear hl hg
        go_wp2_with fail
        go_ret
        exact ⟨_, rfl, by first | rfl | (cases b <;> rfl), F.out.1, F.out.2.2.trans F.out.2.1⟩
    · have e1 : decide (p' ≤ 400) = true := decide_eq_true h1
      have e2 : decide (q ≤ 2000) = false := decide_eq_false h2
      rw [e1, e2]
      clear h1 h2
      go_enter Tryz.func79, Tryz.ntmps79
      go_wp2_with fail
      refine (HW.out false _ HL.out.1).mono ?_
      rintro e w1 ⟨rfl, hl, hg⟩
      obtain ⟨y0, y1, y2, k0, k1, k2⟩ := hl.cells
      have F := Lib.hid (And.intro hl (And.intro hg HL.out.2))
      clear hl hg
      go_wp2_with fail
      go_ret
      exact ⟨_, rfl, by first | rfl | (cases b <;> rfl), F.out.1, F.out.2.2.trans F.out.2.1⟩
  · have e1 : decide (p' ≤ 400) = false := decide_eq_false h1
    rw [e1]
    clear h1
    go_enter Tryz.func79, Tryz.ntmps79
    go_wp2_with fail
    refine (HW.out false _ HL.out.1).mono ?_
    rintro e w1 ⟨rfl, hl, hg⟩
    obtain ⟨y0, y1, y2, k0, k1, k2⟩ := hl.cells
    have F := Lib.hid (And.intro hl (And.intro hg HL.out.2))
    clear hl hg
    go_wp2_with fail
    go_ret
    exact ⟨_, rfl, by first | rfl | (cases b <;> rfl), F.out.1, F.out.2.2.trans F.out.2.1⟩
end Go.Proofs.YtdcgjfiknknjfaaGreatDoor.ValA
