/-
Parts of the proof, one behind the other: ValA, FloH, NumA, NumB, NumC.
-/
import Derived.Test.YtbnfeicpjmfooaaGreatDoorProg
import Derived.WalkKit
import Derived.WalkSpells
import Derived.WalkLawsBesides
import Derived.Below
import Derived.Outline
import Derived.Lib.Hide
import Derived.Laws.FloatArith
import Derived.Laws.Externs
import Derived.Stop.Asserts
/-
The looks of package spec at a value: want, part, str; sign, texts. Each by its walk.
-/
namespace Go.Proofs.YtbnfeicpjmfooaaGreatDoor.ValA
open Go.RowKit Go.Lib
theorem heap_set {w : World} {g : Nat} {c : Array Value} {e : TypeId} {fz : Nat × Nat} (h : w.heap[g]? = some (.cells c e fz)) (j : Nat) (v : Value) : (w.setCell ⟨g, j, none⟩ v).heap[g]? = some (.cells (c.setIfInBounds j v) e fz) := by
  simp [World.setCell, Array.getElem?_modify, h]
theorem grown_set {w w' : World} {g : Nat} (h : w.grownBy w' (some g)) (j : Nat) (v : Value) : w.grownBy (w'.setCell ⟨g, j, none⟩ v) (some g) :=
  ⟨h.os, h.tape, h.output, by simpa [World.setCell] using h.size, fun k hk hne => by
    rw [Below.heap_setCell _ _ _ _ (fun e => hne (by rw [e]))]
    exact h.block k hk hne⟩
theorem lt_of_heap {w : World} {g : Nat} {o : Obj} (h : w.heap[g]? = some o) : g < w.heap.size := (Array.getElem?_eq_some_iff.1 h).1
theorem six_cells {w : World} {g : Nat} {c0 c1 c2 c3 c4 c5 : Value} {t : TypeId} (h : w.heap[g]? = some (.cells #[c0, c1, c2, c3, c4, c5] t (0, 0))) :
    w.cell? ⟨g, 0, none⟩ = some c0 ∧ w.cell? ⟨g, 1, none⟩ = some c1 ∧ w.cell? ⟨g, 2, none⟩ = some c2 ∧ w.cell? ⟨g, 3, none⟩ = some c3 ∧ w.cell? ⟨g, 4, none⟩ = some c4 ∧ w.cell? ⟨g, 5, none⟩ = some c5 ∧ w.frozen? ⟨g, 0, none⟩ = false ∧ w.frozen? ⟨g, 1, none⟩ = false ∧ w.frozen? ⟨g, 2, none⟩ = false ∧ w.frozen? ⟨g, 3, none⟩ = false ∧ w.frozen? ⟨g, 4, none⟩ = false ∧ w.frozen? ⟨g, 5, none⟩ = false := by
  simp [World.cell?, World.frozen?, h]
theorem six_set {w : World} {g : Nat} {c0 c1 c2 c3 c4 c5 : Value} {t : TypeId} (h : w.heap[g]? = some (.cells #[c0, c1, c2, c3, c4, c5] t (0, 0))) (v0 v1 v2 v3 v4 v5 : Value) :
    ((((((w.setCell ⟨g, 0, none⟩ v0).setCell ⟨g, 1, none⟩ v1).setCell ⟨g, 2, none⟩ v2).setCell ⟨g, 3, none⟩ v3).setCell ⟨g, 4, none⟩ v4).setCell ⟨g, 5, none⟩ v5).heap[g]? = some (.cells #[v0, v1, v2, v3, v4, v5] t (0, 0)) := by
  rw [heap_set (heap_set (heap_set (heap_set (heap_set (heap_set h 0 _) 1 _) 2 _) 3 _) 4 _) 5 _]; rfl
theorem six_grown (w : World) (g : Nat) (v0 v1 v2 v3 v4 v5 : Value) : w.grownBy ((((((w.setCell ⟨g, 0, none⟩ v0).setCell ⟨g, 1, none⟩ v1).setCell ⟨g, 2, none⟩ v2).setCell ⟨g, 3, none⟩ v3).setCell ⟨g, 4, none⟩ v4).setCell ⟨g, 5, none⟩ v5) (some g) :=
  grown_set (grown_set (grown_set (grown_set (grown_set (grown_set (World.grownBy.refl w _) 0 _) 1 _) 2 _) 3 _) 4 _) 5 _
theorem sev_cells {w : World} {g : Nat} {c0 c1 c2 c3 c4 c5 c6 : Value} {t : TypeId} (h : w.heap[g]? = some (.cells #[c0, c1, c2, c3, c4, c5, c6] t (0, 0))) :
    w.cell? ⟨g, 0, none⟩ = some c0 ∧ w.cell? ⟨g, 1, none⟩ = some c1 ∧ w.cell? ⟨g, 2, none⟩ = some c2 ∧ w.cell? ⟨g, 3, none⟩ = some c3 ∧ w.cell? ⟨g, 4, none⟩ = some c4 ∧ w.cell? ⟨g, 5, none⟩ = some c5 ∧ w.cell? ⟨g, 6, none⟩ = some c6 ∧ w.frozen? ⟨g, 0, none⟩ = false ∧ w.frozen? ⟨g, 1, none⟩ = false ∧ w.frozen? ⟨g, 2, none⟩ = false ∧ w.frozen? ⟨g, 3, none⟩ = false ∧ w.frozen? ⟨g, 4, none⟩ = false ∧ w.frozen? ⟨g, 5, none⟩ = false ∧ w.frozen? ⟨g, 6, none⟩ = false := by
  simp [World.cell?, World.frozen?, h]
theorem sev_set {w : World} {g : Nat} {c0 c1 c2 c3 c4 c5 c6 : Value} {t : TypeId} (h : w.heap[g]? = some (.cells #[c0, c1, c2, c3, c4, c5, c6] t (0, 0))) (v0 v1 v2 v3 v4 v5 v6 : Value) :
    (((((((w.setCell ⟨g, 0, none⟩ v0).setCell ⟨g, 1, none⟩ v1).setCell ⟨g, 2, none⟩ v2).setCell ⟨g, 3, none⟩ v3).setCell ⟨g, 4, none⟩ v4).setCell ⟨g, 5, none⟩ v5).setCell ⟨g, 6, none⟩ v6).heap[g]? = some (.cells #[v0, v1, v2, v3, v4, v5, v6] t (0, 0)) := by
  rw [heap_set (heap_set (heap_set (heap_set (heap_set (heap_set (heap_set h 0 _) 1 _) 2 _) 3 _) 4 _) 5 _) 6 _]; rfl
theorem sev_grown (w : World) (g : Nat) (v0 v1 v2 v3 v4 v5 v6 : Value) : w.grownBy (((((((w.setCell ⟨g, 0, none⟩ v0).setCell ⟨g, 1, none⟩ v1).setCell ⟨g, 2, none⟩ v2).setCell ⟨g, 3, none⟩ v3).setCell ⟨g, 4, none⟩ v4).setCell ⟨g, 5, none⟩ v5).setCell ⟨g, 6, none⟩ v6) (some g) :=
  grown_set (grown_set (grown_set (grown_set (grown_set (grown_set (grown_set (World.grownBy.refl w _) 0 _) 1 _) 2 _) 3 _) 4 _) 5 _) 6 _
theorem heap_alloc_new (w : World) (o : Obj) : (w.alloc o).heap[w.heap.size]? = some o := (MapKept.heap_alloc w o).1
/-- Block g is a looker. -/
def Lk (w : World) (g : Nat) (p q : Int) (b : Bool) : Prop := w.heap[g]? = some (.cells #[.int .i64 p, .int .i64 q, .bool b] 62 (0, 0))
theorem Lk.cells {w : World} {g : Nat} {p q : Int} {b : Bool} (h : Lk w g p q b) :
    w.cell? ⟨g, 0, none⟩ = some (.int .i64 p) ∧ w.cell? ⟨g, 1, none⟩ = some (.int .i64 q) ∧ w.cell? ⟨g, 2, none⟩ = some (.bool b) ∧ w.frozen? ⟨g, 0, none⟩ = false ∧ w.frozen? ⟨g, 1, none⟩ = false ∧ w.frozen? ⟨g, 2, none⟩ = false := by
  unfold Lk at h
  simp [World.cell?, World.frozen?, h]
theorem Lk.set0 {w : World} {g : Nat} {p q : Int} {b : Bool} (h : Lk w g p q b) (p' : Int) : Lk (w.setCell ⟨g, 0, none⟩ (.int .i64 p')) g p' q b := by unfold Lk; rw [heap_set h]; rfl
theorem Lk.set1 {w : World} {g : Nat} {p q : Int} {b : Bool} (h : Lk w g p q b) (q' : Int) : Lk (w.setCell ⟨g, 1, none⟩ (.int .i64 q')) g p q' b := by unfold Lk; rw [heap_set h]; rfl
theorem Lk.set2 {w : World} {g : Nat} {p q : Int} {b : Bool} (h : Lk w g p q b) (b' : Bool) : Lk (w.setCell ⟨g, 2, none⟩ (.bool b')) g p q b' := by unfold Lk; rw [heap_set h]; rfl
theorem want_any (g : Nat) (p q : Int) (b c : Bool) (w : World) (h : Lk w g p q b) :
    Calls Tryz.prog 85 #[.pointer (some ⟨g, 0, none⟩), .bool c] w fun e w' => e = .returned (.tuple #[]) ∧ Lk w' g p q (b || !c) ∧ w.grownBy w' (some g) := by
  have fin : Lk (w.setCell ⟨g, 2, none⟩ (.bool (b || !c))) g p q (b || !c) ∧ w.grownBy (w.setCell ⟨g, 2, none⟩ (.bool (b || !c))) (some g) := ⟨h.set2 _, grown_set (World.grownBy.refl w _) 2 _⟩
  obtain ⟨c0, c1, c2, f0, f1, f2⟩ := h.cells
  have F := Lib.hid fin
  clear fin h
  cases b
  · go_enter Tryz.func85, Tryz.ntmps85
    go_wp2_with fail
    go_end0
    exact ⟨rfl, F.out⟩
  · go_enter Tryz.func85, Tryz.ntmps85
    go_wp2_with fail
    go_end0
    exact ⟨rfl, F.out⟩
theorem part_any (g : Nat) (p q d : Int) (b : Bool) (w : World) (h : Lk w g p q b) :
    Calls Tryz.prog 84 #[.pointer (some ⟨g, 0, none⟩), .int .i64 d] w fun e w' => ∃ c, c = (b || !(decide (wrap64 (p + 1) ≤ 400) && (decide (q ≤ 2000) && decide (d ≤ 60)))) ∧ e = .returned (.bool !c) ∧ Lk w' g (wrap64 (p + 1)) q c ∧ w.grownBy w' (some g) := by
  obtain ⟨c0, c1, c2, f0, f1, f2⟩ := h.cells
  obtain ⟨p', hp⟩ : ∃ p', wrap64 (p + 1) = p' := ⟨_, rfl⟩
  rw [hp]
  have HL := Lib.hid (show Lk (w.setCell ⟨g, 0, none⟩ (.int .i64 p')) g p' q b ∧ w.grownBy (w.setCell ⟨g, 0, none⟩ (.int .i64 p')) (some g) from ⟨h.set0 _, grown_set (World.grownBy.refl w _) 0 _⟩)
  have HW := Lib.hid (fun c w h => want_any g p' q b c w h)
  clear h
  by_cases h1 : p' ≤ 400
  · by_cases h2 : q ≤ 2000
    · have e1 : decide (p' ≤ 400) = true := decide_eq_true h1
      have e2 : decide (q ≤ 2000) = true := decide_eq_true h2
      by_cases h3 : d ≤ 60
      · have e3 : decide (d ≤ 60) = true := decide_eq_true h3
        rw [e1, e2, e3]
        clear h1 h2 h3
        go_enter Tryz.func84, Tryz.ntmps84
        go_wp2_with fail
        refine (HW.out true _ HL.out.1).mono ?_
        rintro e w1 ⟨rfl, hl, hg⟩
        obtain ⟨y0, y1, y2, k0, k1, k2⟩ := hl.cells
        have F := Lib.hid (And.intro hl (And.intro hg HL.out.2))
        clear hl hg
        go_wp2_with fail
        go_ret
        exact ⟨_, rfl, by first | rfl | (cases b <;> rfl), F.out.1, F.out.2.2.trans F.out.2.1⟩
      · have e3 : decide (d ≤ 60) = false := decide_eq_false h3
        rw [e1, e2, e3]
        clear h1 h2 h3
        go_enter Tryz.func84, Tryz.ntmps84
        go_wp2_with fail
        refine (HW.out false _ HL.out.1).mono ?_
        rintro e w1 ⟨rfl, hl, hg⟩
        obtain ⟨y0, y1, y2, k0, k1, k2⟩ := hl.cells
        have F := Lib.hid (And.intro hl (And.intro hg HL.out.2))
        clear hl hg
        go_wp2_with fail
        go_ret
        exact ⟨_, rfl, by first | rfl | (cases b <;> rfl), F.out.1, F.out.2.2.trans F.out.2.1⟩
    · have e1 : decide (p' ≤ 400) = true := decide_eq_true h1
      have e2 : decide (q ≤ 2000) = false := decide_eq_false h2
      rw [e1, e2]
      clear h1 h2
      go_enter Tryz.func84, Tryz.ntmps84
      go_wp2_with fail
      refine (HW.out false _ HL.out.1).mono ?_
      rintro e w1 ⟨rfl, hl, hg⟩
      obtain ⟨y0, y1, y2, k0, k1, k2⟩ := hl.cells
      have F := Lib.hid (And.intro hl (And.intro hg HL.out.2))
      clear hl hg
      go_wp2_with fail
      go_ret
      exact ⟨_, rfl, by first | rfl | (cases b <;> rfl), F.out.1, F.out.2.2.trans F.out.2.1⟩
  · have e1 : decide (p' ≤ 400) = false := decide_eq_false h1
    rw [e1]
    clear h1
    go_enter Tryz.func84, Tryz.ntmps84
    go_wp2_with fail
    refine (HW.out false _ HL.out.1).mono ?_
    rintro e w1 ⟨rfl, hl, hg⟩
    obtain ⟨y0, y1, y2, k0, k1, k2⟩ := hl.cells
    have F := Lib.hid (And.intro hl (And.intro hg HL.out.2))
    clear hl hg
    go_wp2_with fail
    go_ret
    exact ⟨_, rfl, by first | rfl | (cases b <;> rfl), F.out.1, F.out.2.2.trans F.out.2.1⟩
end Go.Proofs.YtbnfeicpjmfooaaGreatDoor.ValA
/-
Floats that are a whole number of halves: fw h is the word of h / 2. Their order, sums, differences, doubles, halves and whole parts are those of the numbers. Plain: nothing of a program.
-/
namespace Go.Proofs.YtbnfeicpjmfooaaGreatDoor.FloH
open Ieee

/-- The magnitude q has the 53 digits m, the first of them at place L. -/
def Ex (q L m : Nat) : Prop := m * 2 ^ L = q * 4503599627370496 ∧ 4503599627370496 ≤ m ∧ m < 9007199254740992
theorem Ex.pos {q L m : Nat} (h : Ex q L m) : 0 < q := by
  obtain ⟨h1, h2, _⟩ := h
  have : 0 < m * 2 ^ L := Nat.mul_pos (by omega) (Nat.two_pow_pos _)
  omega
theorem Ex.range {q L m : Nat} (h : Ex q L m) : 2 ^ L ≤ q ∧ q < 2 ^ (L + 1) := by
  obtain ⟨h1, h2, h3⟩ := h
  constructor
  · have : 4503599627370496 * 2 ^ L ≤ m * 2 ^ L := Nat.mul_le_mul_right _ h2
    omega
  · have h4 : m * 2 ^ L < 9007199254740992 * 2 ^ L := Nat.mul_lt_mul_of_pos_right h3 (Nat.two_pow_pos _)
    have : 2 ^ (L + 1) = 2 ^ L * 2 := Nat.pow_succ ..
    omega
theorem Ex.log {q L m : Nat} (h : Ex q L m) : q.log2 = L := by
  have h0 := h.pos
  exact (Nat.log2_eq_iff (by omega)).2 h.range
theorem cut_exact (neg : Bool) (a d : Nat) (ha : 0 < a) : Toward.even.cut neg (a * 2 ^ d) d = a := by
  have hl : d ≤ (a * 2 ^ d).log2 := by
    rw [Nat.le_log2 (by have : 0 < a * 2 ^ d := Nat.mul_pos ha (Nat.two_pow_pos _); omega)]
    calc 2 ^ d = 1 * 2 ^ d := by omega
      _ ≤ a * 2 ^ d := Nat.mul_le_mul_right _ ha
  unfold Toward.cut
  have hm : min d ((a * 2 ^ d).log2 + 2) = d := by omega
  rw [hm, Nat.one_shiftLeft]
  dsimp only
  have h1 : a * 2 ^ d / 2 ^ d = a := Nat.mul_div_cancel _ (Nat.two_pow_pos _)
  have h2 : a * 2 ^ d % 2 ^ d = 0 := Nat.mul_mod_left ..
  rw [h1, h2]
  have h3 : 0 < 2 ^ d := Nat.two_pow_pos _
  have h4 : (decide (2 ^ d < 2 * 0) || (2 ^ d == 2 * 0 && a % 2 == 1)) = false := by
    have : (2 ^ d == 2 * 0) = false := by rw [beq_eq_false_iff_ne]; omega
    rw [this, Bool.false_and, Bool.or_false, decide_eq_false]; omega
  simp only [h4]
  rfl
theorem nearest_ex (neg : Bool) (q : Nat) (p : Int) {L m : Nat} (h : Ex q L m) (h1 : -1022 ≤ p + L) (h2 : p + L ≤ 1000) :
    double.nearest neg q p = double.word neg ((p + L + 1022).toNat * 4503599627370496 + m) := by
  have h0 := h.pos
  have hl := h.log
  obtain ⟨e1, e2, e3⟩ := h
  unfold Format.nearest
  rw [if_neg (by omega)]
  dsimp only
  rw [hl]
  have c1 : double.leastPlace = -1074 := by decide
  have c2 : ((double.fractionBits : Nat) : Int) = 52 := rfl
  have c3 : double.binade = 4503599627370496 := by decide
  have c4 : double.infRung = 9218868437227405312 := by decide
  rw [c1, c2, c3, c4]
  have c5 : max (p + L - 52) (-1074) = p + L - 52 := by omega
  rw [c5]
  have key : Toward.even.cut neg (q <<< (p - (p + L - 52)).toNat) (p + L - 52 - p).toNat = m := by
    by_cases hL : L ≤ 52
    · have s1 : (p - (p + L - 52)).toNat = 52 - L := by omega
      have s2 : (p + L - 52 - p).toNat = 0 := by omega
      rw [s1, s2, Nat.shiftLeft_eq]
      have s3 : q * 2 ^ (52 - L) = m := by
        apply Nat.eq_of_mul_eq_mul_right (Nat.two_pow_pos L)
        rw [Nat.mul_assoc, ← Nat.pow_add, e1, show 52 - L + L = 52 from by omega]
      have s4 : m = m * 2 ^ 0 := by omega
      rw [s3]
      conv => lhs; rw [s4]
      exact cut_exact neg m 0 (by omega)
    · have s1 : (p - (p + L - 52)).toNat = 0 := by omega
      have s2 : (p + L - 52 - p).toNat = L - 52 := by omega
      rw [s1, s2, Nat.shiftLeft_eq]
      have s3 : q * 2 ^ 0 = m * 2 ^ (L - 52) := by
        apply Nat.eq_of_mul_eq_mul_right (show 0 < 4503599627370496 by omega)
        rw [Nat.pow_zero, Nat.mul_one, ← e1]
        have : (4503599627370496 : Nat) = 2 ^ 52 := by decide
        rw [this, Nat.mul_assoc, ← Nat.pow_add, show L - 52 + 52 = L from by omega]
      rw [s3]
      exact cut_exact neg m (L - 52) (by omega)
  rw [key]
  congr 1
  have s5 : (p + L - 52 - -1074).toNat = (p + L + 1022).toNat := by omega
  rw [s5]
  apply Nat.min_eq_left
  have : (p + L + 1022).toNat ≤ 2022 := by omega
  omega
theorem read_word (neg : Bool) (E m : Nat) (h1 : 4503599627370496 ≤ m) (h2 : m < 9007199254740992) (hE : E ≤ 2022) :
    double.read (double.word neg (E * 4503599627370496 + m)) = .number neg m ((E : Int) - 1074) := by
  have c0 : double.signWeight = 9223372036854775808 := by decide
  have c1 : double.leastPlace = -1074 := by decide
  have c3 : double.binade = 4503599627370496 := by decide
  have c4 : double.infRung = 9218868437227405312 := by decide
  unfold Format.read Format.word
  rw [c0, c1, c3, c4]
  dsimp only
  obtain ⟨r, hr⟩ : ∃ r, r = E * 4503599627370496 + m := ⟨_, rfl⟩
  rw [← hr]
  have hb : r < 9218868437227405312 := by omega
  have hge : 4503599627370496 ≤ r := by omega
  have w1 : (if neg = true then 9223372036854775808 + r else r) % 9223372036854775808 = r := by cases neg <;> simp only [Bool.false_eq_true, if_false, if_true] <;> omega
  have w2 : ((if neg = true then 9223372036854775808 + r else r) / 9223372036854775808 % 2 == 1) = neg := by
    cases neg
    · simp only [Bool.false_eq_true, if_false, beq_eq_false_iff_ne]; omega
    · simp only [if_true, beq_iff_eq]; omega
  rw [w1, w2, if_neg (by omega), if_pos hb]
  have d1 : r % 4503599627370496 = m - 4503599627370496 := by omega
  have d2 : r / 4503599627370496 = E + 1 := by omega
  have g1 : 4503599627370496 + (m - 4503599627370496) = m := by omega
  have g2 : (-1074 : Int) + ((E + 1 - 1 : Nat) : Int) = (E : Int) - 1074 := by omega
  rw [d1, d2, g1, g2]

/-- The word of h / 2. -/
def fw (h : Int) : Nat := double.nearest (decide (h < 0)) h.natAbs (-1)
/-- h / 2 is a float. -/
def HE (h : Int) : Prop := h = 0 ∨ ∃ L m, Ex h.natAbs L m ∧ L ≤ 100
theorem ex_small (q : Nat) (h0 : 0 < q) (h1 : q < 9007199254740992) : ∃ L m, Ex q L m ∧ L ≤ 52 := by
  have hl : q.log2 ≤ 52 := by
    have : q.log2 < 53 := (Nat.log2_lt (by omega)).2 (by omega)
    omega
  have r1 := Nat.log2_self_le (n := q) (by omega)
  have r2 := Nat.lt_log2_self (n := q)
  refine ⟨q.log2, q * 2 ^ (52 - q.log2), ⟨?_, ?_, ?_⟩, hl⟩
  · rw [Nat.mul_assoc, ← Nat.pow_add, show 52 - q.log2 + q.log2 = 52 from by omega]
  · have : 2 ^ q.log2 * 2 ^ (52 - q.log2) ≤ q * 2 ^ (52 - q.log2) := Nat.mul_le_mul_right _ r1
    rw [← Nat.pow_add, show q.log2 + (52 - q.log2) = 52 from by omega] at this
    omega
  · have : q * 2 ^ (52 - q.log2) < 2 ^ (q.log2 + 1) * 2 ^ (52 - q.log2) := Nat.mul_lt_mul_of_pos_right r2 (Nat.two_pow_pos _)
    rw [← Nat.pow_add, show q.log2 + 1 + (52 - q.log2) = 53 from by omega] at this
    omega
theorem Ex.two {q L m : Nat} (h : Ex q L m) : Ex (2 * q) (L + 1) m := by
  obtain ⟨h1, h2, h3⟩ := h
  refine ⟨?_, h2, h3⟩
  rw [Nat.pow_succ]
  have : m * (2 ^ L * 2) = m * 2 ^ L * 2 := by rw [Nat.mul_assoc]
  omega
theorem he_small (h : Int) (h1 : -9007199254740992 ≤ h) (h2 : h ≤ 9007199254740992) : HE h := by
  by_cases h0 : h = 0
  · exact .inl h0
  by_cases hq : h.natAbs = 9007199254740992
  · exact .inr ⟨53, 4503599627370496, ⟨by rw [hq], by omega, by omega⟩, by omega⟩
  · obtain ⟨L, m, hE, hL⟩ := ex_small h.natAbs (by omega) (by omega)
    exact .inr ⟨L, m, hE, by omega⟩
theorem he_two (h : Int) (hh : HE h) (hs : -1000000000000000000000 ≤ h) (hs2 : h ≤ 1000000000000000000000) : HE (2 * h) := by
  rcases hh with rfl | ⟨L, m, hE, hL⟩
  · exact .inl (by omega)
  · refine .inr ⟨L + 1, m, by rw [show (2 * h).natAbs = 2 * h.natAbs by omega]; exact hE.two, ?_⟩
    have := hE.range.1
    have : L < 70 := by
      refine Classical.byContradiction fun hn => ?_
      have : 2 ^ 70 ≤ 2 ^ L := Nat.pow_le_pow_right (by omega) (by omega)
      omega
    omega
theorem he_even (n : Int) (h1 : -9007199254740992 ≤ n) (h2 : n ≤ 9007199254740992) : HE (2 * n) := by
  by_cases hq : n.natAbs = 9007199254740992
  · refine .inr ⟨54, 4503599627370496, ⟨?_, by omega, by omega⟩, by omega⟩
    rw [show (2 * n).natAbs = 18014398509481984 by omega]
  · exact he_two n (he_small n (by omega) (by omega)) (by omega) (by omega)
theorem read_fw (h : Int) (hh : HE h) : ∃ (m : Nat) (i : Int), double.read (fw h) = .number (decide (h < 0)) m i ∧ -1074 ≤ i ∧ i ≤ 50 ∧ (∀ b : Int, b ≤ i → b ≤ -1 → m * 2 ^ (i - b).toNat = h.natAbs * 2 ^ (-1 - b).toNat) ∧ (h ≠ 0 → 4503599627370496 ≤ m ∧ m < 9007199254740992 ∧ -53 ≤ i) ∧ (h = 0 → m = 0) := by
  rcases hh with rfl | ⟨L, m, hE, hL⟩
  · refine ⟨0, -1074, by decide, by omega, by omega, fun b _ _ => by simp, fun h => absurd rfl h, fun _ => rfl⟩
  · have h0 := hE.pos
    have e := hE
    obtain ⟨e1, e2, e3⟩ := e
    refine ⟨m, (L : Int) - 53, ?_, by omega, by omega, ?_, fun _ => ⟨e2, e3, by omega⟩, fun h => by omega⟩
    · unfold fw
      rw [nearest_ex _ _ _ hE (by omega) (by omega), read_word _ _ _ e2 e3 (by omega)]
      congr 1
      omega
    · intro b hb hb1
      apply Nat.eq_of_mul_eq_mul_right (show 0 < 4503599627370496 * 2 ^ L from Nat.mul_pos (by omega) (Nat.two_pow_pos _))
      have k : (4503599627370496 : Nat) = 2 ^ 52 := by decide
      have a1 : m * 2 ^ ((L : Int) - 53 - b).toNat * (4503599627370496 * 2 ^ L) = m * 2 ^ L * (2 ^ ((L : Int) - 53 - b).toNat * 4503599627370496) := by ac_rfl
      have a2 : h.natAbs * 2 ^ (-1 - b).toNat * (4503599627370496 * 2 ^ L) = h.natAbs * 4503599627370496 * (2 ^ (-1 - b).toNat * 2 ^ L) := by ac_rfl
      rw [a1, a2, e1]
      congr 1
      rw [k, ← Nat.pow_add, ← Nat.pow_add]
      congr 1
      omega
theorem write_fw (h : Int) (hh : HE h) (neg : Bool) (mag : Nat) (base b : Int) (h1 : b ≤ base) (h2 : b ≤ -1) (hv : mag * 2 ^ (base - b).toNat = h.natAbs * 2 ^ (-1 - b).toNat) (hs : neg = decide (h < 0)) :
    double.write (.number neg mag base) = fw h := by
  subst hs
  show double.nearest _ mag base = _
  unfold fw
  rcases hh with rfl | ⟨L, m, hE, hL⟩
  · have : mag = 0 := by
      rcases Nat.mul_eq_zero.1 (hv.trans (by simp)) with h | h
      · exact h
      · have := Nat.two_pow_pos (base - b).toNat; omega
    subst this
    unfold Format.nearest
    rw [if_pos rfl, show Int.natAbs 0 = 0 from rfl, if_pos rfl]
  · have h0 := hE.pos
    have hr := hE.range
    have hm0 : 0 < mag := by
      refine Nat.pos_of_ne_zero fun e => ?_
      subst e
      have : 0 < h.natAbs * 2 ^ (-1 - b).toNat := Nat.mul_pos h0 (Nat.two_pow_pos _)
      omega
    have hx : (base - b).toNat < L + 1 + (-1 - b).toNat := by
      refine (Nat.pow_lt_pow_iff_right (a := 2) (by omega)).1 ?_
      calc 2 ^ (base - b).toNat = 1 * 2 ^ (base - b).toNat := by omega
        _ ≤ mag * 2 ^ (base - b).toNat := Nat.mul_le_mul_right _ hm0
        _ = h.natAbs * 2 ^ (-1 - b).toNat := hv
        _ < 2 ^ (L + 1) * 2 ^ (-1 - b).toNat := Nat.mul_lt_mul_of_pos_right hr.2 (Nat.two_pow_pos _)
        _ = 2 ^ (L + 1 + (-1 - b).toNat) := (Nat.pow_add ..).symm
    have e := hE
    obtain ⟨e1, e2, e3⟩ := e
    obtain ⟨L', hL'⟩ : ∃ L' : Nat, base + L' = -1 + L := ⟨(L - 1 - base).toNat, by omega⟩
    have hE' : Ex mag L' m := by
      refine ⟨?_, e2, e3⟩
      apply Nat.eq_of_mul_eq_mul_right (Nat.two_pow_pos (base - b).toNat)
      have a2 : mag * 4503599627370496 * 2 ^ (base - b).toNat = mag * 2 ^ (base - b).toNat * 4503599627370496 := by ac_rfl
      have a3 : h.natAbs * 2 ^ (-1 - b).toNat * 4503599627370496 = h.natAbs * 4503599627370496 * 2 ^ (-1 - b).toNat := by ac_rfl
      rw [a2, hv, a3, ← e1, Nat.mul_assoc, Nat.mul_assoc, ← Nat.pow_add, ← Nat.pow_add]
      congr 2
      omega
    rw [nearest_ex _ _ _ hE (by omega) (by omega), nearest_ex _ _ _ hE' (by omega) (by omega), hL']

theorem signed_val (h : Int) (s : Bool) (m u c y : Nat) (hs : s = decide (h < 0)) (hm : m * 2 ^ (u + c) = h.natAbs * 2 ^ y) : signed s m u * ((2 ^ c : Nat) : Int) = h * ((2 ^ y : Nat) : Int) := by
  have e : ((m <<< u : Nat) : Int) * ((2 ^ c : Nat) : Int) = (h.natAbs : Int) * ((2 ^ y : Nat) : Int) := by
    rw [← Int.natCast_mul, ← Int.natCast_mul, Nat.shiftLeft_eq, Nat.mul_assoc, ← Nat.pow_add, hm]
  unfold signed
  subst hs
  by_cases h0 : h < 0
  · rw [if_pos (decide_eq_true h0), Int.neg_mul, e, show (h.natAbs : Int) = -h by omega, Int.neg_mul, Int.neg_neg]
  · rw [if_neg (by simpa using h0), e, show (h.natAbs : Int) = h by omega]
theorem compare_scale {a b h k P Y : Int} (hP : 0 < P) (hY : 0 < Y) (e1 : a * P = h * Y) (e2 : b * P = k * Y) : compare a b = compare h k := by
  have l : a < b ↔ h < k := by
    rw [← Int.mul_lt_mul_right hP, e1, e2, Int.mul_lt_mul_right hY]
  have q : a = b ↔ h = k := by
    constructor
    · rintro rfl
      exact Int.eq_of_mul_eq_mul_right (by omega) (e1.symm.trans e2)
    · rintro rfl
      exact Int.eq_of_mul_eq_mul_right (by omega) (e1.trans e2.symm)
  show compareOfLessAndEq a b = compareOfLessAndEq h k
  unfold compareOfLessAndEq
  simp only [l, q]
theorem both (h k : Int) (hh : HE h) (hk : HE k) : ∃ (m n : Nat) (i j : Int) (P Y : Nat) (b : Int), double.read (fw h) = .number (decide (h < 0)) m i ∧ double.read (fw k) = .number (decide (k < 0)) n j ∧ 0 < P ∧ 0 < Y ∧ P = 2 ^ (min i j - b).toNat ∧ Y = 2 ^ (-1 - b).toNat ∧ b ≤ min i j ∧ b ≤ -1 ∧
    signed (decide (h < 0)) m (i - min i j).toNat * (P : Int) = h * (Y : Int) ∧ signed (decide (k < 0)) n (j - min i j).toNat * (P : Int) = k * (Y : Int) ∧ (h = 0 → m = 0) ∧ (k = 0 → n = 0) := by
  obtain ⟨m, i, r1, a1, a2, a3, a4, a5⟩ := read_fw h hh
  obtain ⟨n, j, r2, b1, b2, b3, b4, b5⟩ := read_fw k hk
  refine ⟨m, n, i, j, _, _, min (min i j) (-1), r1, r2, Nat.two_pow_pos _, Nat.two_pow_pos _, rfl, rfl, by omega, by omega, ?_, ?_, a5, b5⟩
  · refine signed_val h _ m _ _ _ rfl ?_
    rw [← a3 (min (min i j) (-1)) (by omega) (by omega)]
    congr 2
    omega
  · refine signed_val k _ n _ _ _ rfl ?_
    rw [← b3 (min (min i j) (-1)) (by omega) (by omega)]
    congr 2
    omega
theorem order_fw (h k : Int) (hh : HE h) (hk : HE k) : double.order (fw h) (fw k) = some (compare h k) := by
  obtain ⟨m, n, i, j, P, Y, b, r1, r2, p1, p2, _, _, _, _, e1, e2, _⟩ := both h k hh hk
  unfold Format.order
  rw [r1, r2]
  show some (compare _ _) = _
  rw [compare_scale (by omega) (by omega) e1 e2]
/-- The word of 2. -/
theorem two_read : double.read 4611686018427387904 = .number false 4503599627370496 (-51) := by decide
theorem double_fw (h : Int) (hh : HE h) (hE : HE (2 * h)) : double.mul 4611686018427387904 (fw h) = some (fw (2 * h)) := by
  obtain ⟨m, i, r1, a1, a2, a3, a4, a5⟩ := read_fw h hh
  unfold Format.mul
  rw [r1, two_read]
  show some (double.write (.number _ _ _)) = _
  congr 1
  refine write_fw (2 * h) hE _ _ _ (min (-51 + i) (-1)) (by omega) (by omega) ?_ ?_
  · have := a3 (min (-51 + i) (-1)) (by omega) (by omega)
    obtain ⟨b, hb⟩ : ∃ b, b = min (-51 + i) (-1) := ⟨_, rfl⟩
    rw [← hb] at this ⊢
    rw [show (2 * h).natAbs = 2 * h.natAbs by omega, Nat.mul_assoc 2, ← this]
    have k : (4503599627370496 : Nat) = 2 ^ 52 := by decide
    have a6 : 4503599627370496 * m * 2 ^ (-51 + i - b).toNat = m * (2 ^ (-51 + i - b).toNat * 2 ^ 52) := by rw [k]; ac_rfl
    have a7 : 2 * (m * 2 ^ (i - b).toNat) = m * (2 ^ (i - b).toNat * 2 ^ 1) := by rw [Nat.pow_one]; ac_rfl
    rw [a6, a7, ← Nat.pow_add, ← Nat.pow_add]
    congr 2
    omega
  · rw [Bool.false_xor]
    exact decide_eq_decide.2 (by omega)
theorem ofInt_fw (n : Int) (hE : HE (2 * n)) : floatOfInt .f64 n = fw (2 * n) := by
  show double.write (.number (decide (n < 0)) n.natAbs 0) = _
  refine write_fw (2 * n) hE _ _ _ (-1) (by omega) (by omega) ?_ (decide_eq_decide.2 (by omega))
  rw [show (2 * n).natAbs = n.natAbs * 2 by omega, show (0 - -1 : Int).toNat = 1 from rfl, show (-1 - -1 : Int).toNat = 0 from rfl, Nat.pow_one, Nat.pow_zero, Nat.mul_one]
theorem quot_core (s : Bool) (m : Nat) (i : Int) (h1 : 4503599627370496 ≤ m) (h2 : m < 9007199254740992) : Datum.quotient 54 (.number s m i) (.number false 4503599627370496 (-51)) = some (.number (s ^^ false) (2 * (m * 4)) (i - 4)) := by
  have hl : m.log2 = 52 := (Nat.log2_eq_iff (by omega)).2 ⟨by omega, by omega⟩
  have hl2 : Nat.log2 4503599627370496 = 52 := (Nat.log2_eq_iff (by omega)).2 ⟨by omega, by omega⟩
  obtain ⟨q, hq⟩ : ∃ q, q = 4503599627370496 := ⟨_, rfl⟩
  have d1 : m * 2 ^ 54 / q = m * 4 := by subst hq; omega
  have d2 : (m * 2 ^ 54 % q != 0) = false := by
    subst hq; rw [bne_eq_false_iff_eq]; omega
  rw [← hq] at hl2 ⊢
  have hq0 : ¬ q = 0 := by omega
  clear hq
  unfold Datum.quotient
  simp only
  rw [if_neg hq0, hl, hl2, show 54 + 52 - 52 = 54 from rfl, Nat.shiftLeft_eq, d1, d2]
  rw [Bool.toNat_false, Nat.add_zero, show i - -51 - ((54 : Nat) : Int) - 1 = i - 4 by omega]
theorem half_fw (h : Int) (h0 : h ≠ 0) (hE : HE h) (hE2 : HE (2 * h)) : double.div (fw (2 * h)) 4611686018427387904 = some (fw h) := by
  obtain ⟨m, i, r1, a1, a2, a3, a4, a5⟩ := read_fw (2 * h) hE2
  obtain ⟨g1, g2, g3⟩ := a4 (by omega)
  unfold Format.div
  rw [r1, two_read, show double.fractionBits + 2 = 54 from rfl, quot_core _ m i g1 g2]
  show some (double.write (.number _ _ _)) = _
  congr 1
  refine write_fw h hE _ _ _ (min (i - 4) (-1)) (by omega) (by omega) ?_ ?_
  · have := a3 (min (i - 4) (-1)) (by omega) (by omega)
    obtain ⟨b, hb⟩ : ∃ b, b = min (i - 4) (-1) := ⟨_, rfl⟩
    rw [← hb] at this ⊢
    rw [show (2 * h).natAbs = 2 * h.natAbs by omega, Nat.mul_assoc 2] at this
    apply Nat.eq_of_mul_eq_mul_left (show 0 < 2 by omega)
    rw [← this]
    have a6 : 2 * (2 * (m * 4) * 2 ^ (i - 4 - b).toNat) = m * (2 ^ (i - 4 - b).toNat * 2 ^ 4) := by
      have : (2 ^ 4 : Nat) = 16 := by decide
      rw [this]
      have : 2 * (2 * (m * 4) * 2 ^ (i - 4 - b).toNat) = 16 * (m * 2 ^ (i - 4 - b).toNat) := by
        generalize 2 ^ (i - 4 - b).toNat = z
        have : 2 * (m * 4) * z = 8 * (m * z) := by
          rw [show 2 * (m * 4) = 8 * m by omega, Nat.mul_assoc]
        omega
      rw [this]
      ac_rfl
    rw [a6, ← Nat.pow_add]
    congr 2
    omega
  · rw [Bool.xor_false]
    exact decide_eq_decide.2 (by omega)
theorem cut_zero_exact (neg : Bool) (a d : Nat) : Toward.zero.cut neg (a * 2 ^ d) d = a := by
  unfold Toward.cut
  by_cases ha : a = 0
  · subst ha
    simp
  · have hl : d ≤ (a * 2 ^ d).log2 := by
      have h0 : 0 < a * 2 ^ d := Nat.mul_pos (by omega) (Nat.two_pow_pos _)
      rw [Nat.le_log2 (by omega)]
      calc 2 ^ d = 1 * 2 ^ d := by omega
        _ ≤ a * 2 ^ d := Nat.mul_le_mul_right _ (by omega)
    have hm : min d ((a * 2 ^ d).log2 + 2) = d := by omega
    rw [hm, Nat.one_shiftLeft]
    dsimp only
    have h1 : a * 2 ^ d / 2 ^ d = a := Nat.mul_div_cancel _ (Nat.two_pow_pos _)
    rw [h1]
    rfl
theorem integral_fw (n : Int) (hE : HE (2 * n)) : (double.read (fw (2 * n))).integral .zero = .number (decide (n < 0)) n.natAbs 0 := by
  obtain ⟨m, i, r1, a1, a2, a3, a4, a5⟩ := read_fw (2 * n) hE
  rw [r1]
  unfold Datum.integral
  simp only
  rw [show decide (2 * n < 0) = decide (n < 0) from decide_eq_decide.2 (by omega)]
  congr 1
  by_cases h0 : n = 0
  · rw [a5 (by omega)]
    subst h0
    rw [Nat.zero_shiftLeft]
    simp [Toward.cut]
  by_cases hi : 0 ≤ i
  · have h2 := a3 (-1) (by omega) (by omega)
    have e : (-i).toNat = 0 := by omega
    rw [e, Nat.shiftLeft_eq]
    have e2 : m * 2 ^ i.toNat = n.natAbs * 2 ^ 0 := by
      rw [show (2 * n).natAbs = 2 * n.natAbs by omega, show (-1 - -1 : Int).toNat = 0 from rfl, show (i - -1).toNat = i.toNat + 1 by omega, Nat.pow_succ] at h2
      have : m * (2 ^ i.toNat * 2) = m * 2 ^ i.toNat * 2 := by rw [Nat.mul_assoc]
      omega
    rw [e2]
    exact cut_zero_exact _ _ 0
  · have h2 := a3 i (by omega) (by omega)
    have e : i.toNat = 0 := by omega
    rw [e, Nat.shiftLeft_eq, Nat.pow_zero, Nat.mul_one]
    have e2 : m = n.natAbs * 2 ^ (-i).toNat := by
      rw [show (i - i).toNat = 0 by omega, Nat.pow_zero, Nat.mul_one, show (2 * n).natAbs = n.natAbs * 2 by omega, Nat.mul_assoc, ← Nat.pow_succ'] at h2
      rw [h2]
      congr 2
      omega
    rw [e2]
    exact cut_zero_exact _ _ _
/-- The whole part of a whole number is the number. -/
theorem trunc_fw (n : Int) (hE : HE (2 * n)) : FloatKind.f64.encode ((FloatKind.f64.decode (fw (2 * n))).integral .zero) = fw (2 * n) := by
  show double.write ((double.read (fw (2 * n))).integral .zero) = _
  rw [integral_fw n hE]
  exact ofInt_fw n hE
theorem toInt_fw (n : Int) (hE : HE (2 * n)) (h1 : -9223372036854775808 ≤ n) (h2 : n ≤ 9223372036854775807) : floatToIntVal .f64 (fw (2 * n)) .i64 = some n := by
  unfold floatToIntVal
  have : (FloatKind.f64.decode (fw (2 * n))).toInt .zero = some n := by
    show (double.read (fw (2 * n))).toInt .zero = some n
    unfold Datum.toInt
    rw [integral_fw n hE]
    simp only [signed, Nat.shiftLeft_zero]
    by_cases c : n < 0
    · rw [if_pos (decide_eq_true c)]; congr 1; omega
    · rw [if_neg (by simpa using c)]; congr 1; omega
  rw [this]
  simp only
  rw [if_pos ⟨h1, h2⟩]
end Go.Proofs.YtbnfeicpjmfooaaGreatDoor.FloH
/-
Values that are numbers: package spec's order of them; what package impl makes of them; what comes back.
-/
namespace Go.Proofs.YtbnfeicpjmfooaaGreatDoor.NumA
open Go.RowKit Go.Lib Go.Proofs.YtbnfeicpjmfooaaGreatDoor.ValA Go.Proofs.YtbnfeicpjmfooaaGreatDoor.FloH
/-- What a value holds beside its kind and its number. -/
structure Rest where
  s : ByteArray
  a : Option Addr
  l : Nat
  c : Nat
  a1 : Option Addr
  l1 : Nat
  c1 : Nat
  a2 : Option Addr
  l2 : Nat
  c2 : Nat
def vl (k h : Int) (r : Rest) : Value := .agg #[.int .i64 k, .int .i64 h, .string r.s, .slice r.a r.l r.c, .slice r.a1 r.l1 r.c1, .slice r.a2 r.l2 r.c2]
/-- A Res. -/
def rv (k h e : Int) (r : Rest) : Value := .agg #[.int .i64 k, .int .i64 h, .string r.s, .slice r.a r.l r.c, .slice r.a1 r.l1 r.c1, .slice r.a2 r.l2 r.c2, .int .i64 e]
theorem sign_any (n : Int) (w : World) : Calls Tryz.prog 53 #[.int .i64 n] w fun e w' => e = .returned (.int .i64 n.sign) ∧ w = w' := by
  rcases Int.lt_trichotomy n 0 with h | h | h
  · rw [Int.sign_eq_neg_one_of_neg h]
    have h1 : decide (n < 0) = true := decide_eq_true h
    clear h
    go_enter Tryz.func53, Tryz.ntmps53
    go_wp2
    go_ret
    exact ⟨rfl, rfl⟩
  · subst h
    go_enter Tryz.func53, Tryz.ntmps53
    go_wp2
    go_ret
    exact ⟨rfl, rfl⟩
  · rw [Int.sign_eq_one_of_pos h]
    have h1 : decide (n < 0) = false := decide_eq_false (by omega)
    have h2 : decide (0 < n) = true := decide_eq_true h
    clear h
    go_enter Tryz.func53, Tryz.ntmps53
    go_wp2
    go_ret
    exact ⟨rfl, rfl⟩
theorem cmp_num (h k : Int) (r r' : Rest) (w : World) (h1 : -2305843009213693952 ≤ h) (h2 : h ≤ 2305843009213693952) (k1 : -2305843009213693952 ≤ k) (k2 : k ≤ 2305843009213693952) :
    Calls Tryz.prog 21 #[vl 3 h r, vl 3 k r'] w fun e w' => e = .returned (.int .i64 (h - k).sign) ∧ Below w.heap.size w w' := by
  obtain ⟨s, a, l, c, a1, l1, c1, a2, l2, c2⟩ := r
  obtain ⟨s', a', l', c', a1', l1', c1', a2', l2', c2'⟩ := r'
  simp only [vl]
  go_enter Tryz.func21, Tryz.ntmps21
  go_wp2_with fail
  refine (sign_any _ _).mono ?_
  rintro e w1 ⟨rfl, rfl⟩
  go_wp2_with fail
  go_ret
  exact ⟨congrArg (fun x => Ending.returned (.int .i64 (Int.sign x))) (by first | rfl | (unfold wrap64; omega)), ((Below.refl _ w).alloc (Nat.le_refl _) _).alloc (by simp) _⟩
/-- What package impl hands on for a number. -/
def gv (h : Int) : Value := if h % 2 = 0 then .iface 3 (.int .i64 (h / 2)) else .iface 85 (.float .f64 (fw h))
theorem toGo_num (h : Int) (r : Rest) (w : World) (h1 : -9007199254740992 ≤ h) (h2 : h ≤ 9007199254740992) :
    Calls Tryz.prog 49 #[vl 3 h r] w fun e w' => e = .returned (.tuple #[gv h, .bool true]) ∧ Below w.heap.size w w' := by
  obtain ⟨s, a, l, c, a1, l1, c1, a2, l2, c2⟩ := r
  simp only [vl]
  unfold gv
  by_cases hm : h % 2 = 0
  · rw [if_pos hm]
    obtain ⟨n, hn⟩ : ∃ n, h = 2 * n := ⟨h / 2, by omega⟩
    have q : h.tdiv 2 = n := by rw [hn]; exact Int.mul_tdiv_cancel_left n (by omega)
    have m : (h.tmod 2 == 0) = true := by rw [beq_iff_eq, hn]; exact Int.mul_tmod_right 2 n
    have e : h / 2 = n := by omega
    rw [e]
    have Q := Lib.hid q
    clear q hm hn e
    go_enter Tryz.func49, Tryz.ntmps49
    go_wp2_with fail
    go_ret2
    exact ⟨by rw [← Q.out]; rfl, (Below.refl _ w).alloc (Nat.le_refl _) _⟩
  · rw [if_neg hm]
    have m : (h.tmod 2 == 0) = false := by
      rw [beq_eq_false_iff_ne]
      intro e
      exact hm (Int.emod_eq_zero_of_dvd (Int.dvd_of_tmod_eq_zero e))
    have hf : floatOfInt .f64 h = fw (2 * h) := ofInt_fw h (he_even h h1 h2)
    have hq : ∀ w, (binOp .quo 85 (.float .f64 (fw (2 * h))) (.float .f64 4611686018427387904)).run Tryz.prog w = .ok (.float .f64 (fw h)) w := fun w => run_float_arith w .quo 85 .f64 _ _ _ (half_fw h (by omega) (he_small h (by omega) (by omega)) (he_even h h1 h2))
    clear hm h1 h2
    go_enter Tryz.func49, Tryz.ntmps49
    go_wp2_with fail
    go_ret2
    exact ⟨rfl, (Below.refl _ w).alloc (Nat.le_refl _) _⟩
def r0 : Rest := ⟨⟨#[]⟩, none, 0, 0, none, 0, 0, none, 0, 0⟩
theorem is33 (v : Value) (w : World) : (Instr.typeAssert (.iface 3 v) 20 3 true).run Tryz.prog w = .ok (.tuple #[v, .bool true]) w := by kernel_rfl
theorem no34 (v : Value) (w : World) : (Instr.typeAssert (.iface 3 v) 20 4 true).run Tryz.prog w = .ok (.tuple #[.bool false, .bool false]) w := by kernel_rfl
theorem is66 (v : Value) (w : World) : (Instr.typeAssert (.iface 85 v) 20 85 true).run Tryz.prog w = .ok (.tuple #[v, .bool true]) w := by kernel_rfl
theorem no63 (v : Value) (w : World) : (Instr.typeAssert (.iface 85 v) 20 3 true).run Tryz.prog w = .ok (.tuple #[.int .i64 0, .bool false]) w := by kernel_rfl
theorem no64 (v : Value) (w : World) : (Instr.typeAssert (.iface 85 v) 20 4 true).run Tryz.prog w = .ok (.tuple #[.bool false, .bool false]) w := by kernel_rfl
theorem fromGo_int (n : Int) (w : World) (h1 : -1000000000000000000 ≤ n) (h2 : n ≤ 1000000000000000000) :
    Calls Tryz.prog 88 #[.iface 3 (.int .i64 n)] w fun e w' => e = .returned (.tuple #[vl 3 (2 * n) r0, .bool true]) ∧ Below w.heap.size w w' := by
  have a1 := fun w => is33 (.int .i64 n) w
  have a2 := fun w => no34 (.int .i64 n) w
  have e1 : decide (-4611686018427387904 ≤ n) = true := decide_eq_true (by omega)
  have e2 : decide (n ≤ 4611686018427387903) = true := decide_eq_true (by omega)
  go_enter Tryz.func88, Tryz.ntmps88
  go_wp2_with fail
  refine bodyPost_ret (v := .tuple #[vl 3 (2 * n) r0, .bool true]) (by simp [results, Tryz.results88, go_sem, vl, r0]) rfl ⟨rfl, ?_⟩
  exact (Below.refl _ w).alloc (Nat.le_refl _) _
theorem isNaN_fw (h : Int) (hE : HE h) (w : World) : Calls Tryz.prog 231 #[.float .f64 (fw h)] w fun e w' => e = .returned (.bool false) ∧ w = w' := by
  have ho : (FloatKind.f64.format.order (fw h) (fw h) != some .eq) = false := by
    show (Ieee.double.order (fw h) (fw h) != some .eq) = false
    rw [order_fw h h hE hE]
    have : compare h h = .eq := by simp
    rw [this]; rfl
  clear hE
  go_enter Tryz.func231, Tryz.ntmps231
  go_wp2_with fail
  go_ret
  exact ⟨rfl, rfl⟩
theorem toI (x : Nat) (s : Bool) (m : Nat) (i : Int) (h : FloatKind.f64.decode x = .number s m i) : Extern.MathFloor.toIntegral "math.archTrunc" .zero #[.float .f64 x] = pure (.float .f64 (FloatKind.f64.encode ((Ieee.Datum.number s m i).integral .zero))) := by
  have e : Extern.MathFloor.toIntegral "math.archTrunc" .zero #[.float .f64 x] = Extern.MathFloor.toIntegral.match_1 (fun _ => Sem Value) (FloatKind.f64.decode x) (fun s t => _) (fun d => pure (.float .f64 (FloatKind.f64.encode (d.integral .zero)))) := rfl
  rw [e, h]
theorem run_trunc (n : Int) (hE : HE (2 * n)) (w : World) : (callFunc 185 #[.float .f64 (fw (2 * n))]).run Tryz.prog w = .ok (.value (.float .f64 (fw (2 * n)))) w := by
  rw [run_callFunc_extern (e := Extern.MathFloor.toIntegral "math.archTrunc" .zero) Tryz.func185 (by kernel_rfl) (by kernel_rfl) (by kernel_rfl) (by kernel_rfl)]
  have ht := trunc_fw n hE
  obtain ⟨m, i, hr, _⟩ := read_fw (2 * n) hE
  have hr' : FloatKind.f64.decode (fw (2 * n)) = .number (decide (2 * n < 0)) m i := hr
  rw [hr'] at ht
  have : (Extern.MathFloor.toIntegral "math.archTrunc" .zero #[.float .f64 (fw (2 * n))]).run Tryz.prog w = .ok (.float .f64 (fw (2 * n))) w := by
    rw [toI _ _ _ _ hr', ht]
    rfl
  rw [this]
  rfl
theorem trunc_any (n : Int) (hE : HE (2 * n)) (w : World) : Calls Tryz.prog 159 #[.float .f64 (fw (2 * n))] w fun e w' => e = .returned (.float .f64 (fw (2 * n))) ∧ w = w' := by
  have ht := fun w => run_trunc n hE w
  clear hE
  go_enter Tryz.func159, Tryz.ntmps159
  go_wp2_with fail
  go_ret
  exact ⟨rfl, rfl⟩
end Go.Proofs.YtbnfeicpjmfooaaGreatDoor.NumA
/-
Numbers come back from package gojq: half, fromGo, result; and package gojq's sums, differences and opposites of numbers.
-/
namespace Go.Proofs.YtbnfeicpjmfooaaGreatDoor.NumA
open Go.RowKit Go.Lib Go.Proofs.YtbnfeicpjmfooaaGreatDoor.ValA Go.Proofs.YtbnfeicpjmfooaaGreatDoor.FloH
theorem c_low : fw (-9223372036854775808) = 14109777632551763968 := by kernel_rfl
theorem c_high : fw 9223372036854775808 = 4886405595696988160 := by kernel_rfl
theorem he_low : HE (-9223372036854775808) := .inr ⟨63, 4503599627370496, ⟨by decide, by decide, by decide⟩, by decide⟩
theorem he_high : HE 9223372036854775808 := .inr ⟨63, 4503599627370496, ⟨by decide, by decide, by decide⟩, by decide⟩
theorem half_any (h : Int) (w : World) (h1 : -9007199254740992 ≤ h) (h2 : h ≤ 9007199254740992) :
    Calls Tryz.prog 114 #[.float .f64 (fw (2 * h))] w fun e w' => e = .returned (.tuple #[vl 3 h r0, .bool true]) ∧ Below w.heap.size w w' := by
  have hE := he_even h h1 h2
  have o1 : (FloatKind.f64.format.order (fw (2 * h)) (fw (2 * h)) != some .eq) = false := by
    show (Ieee.double.order _ _ != some .eq) = false
    rw [order_fw _ _ hE hE, show compare (2 * h) (2 * h) = .eq by simp]; rfl
  have o2 : FloatKind.f64.format.order (fw (2 * h)) 14109777632551763968 = some .gt := by
    show Ieee.double.order _ _ = _
    rw [← c_low, order_fw _ _ hE he_low, show compare (2 * h) (-9223372036854775808) = .gt by rw [Int.compare_eq_gt]; omega]
  have o3 : FloatKind.f64.format.order (fw (2 * h)) 4886405595696988160 = some .lt := by
    show Ieee.double.order _ _ = _
    rw [← c_high, order_fw _ _ hE he_high, show compare (2 * h) 9223372036854775808 = .lt by rw [Int.compare_eq_lt]; omega]
  have hc : ∀ w, (convert 85 3 (.float .f64 (fw (2 * h)))).run Tryz.prog w = .ok (.int .i64 h) w := fun w => run_convert_float_int w 85 3 .f64 .i64 _ _ (by rw [Tryz.underlying85]; rfl) Tryz.underlying3 (toInt_fw h hE (by omega) (by omega))
  have HT := Lib.hid (fun w => trunc_any h hE w)
  clear hE h1 h2
  go_enter Tryz.func114, Tryz.ntmps114
  go_wp2_with fail
  refine (HT.out _).mono ?_
  rintro e w1 ⟨rfl, rfl⟩
  go_wp2_with fail
  refine bodyPost_ret (v := .tuple #[vl 3 h r0, .bool true]) (by simp [results, Tryz.results114, go_sem, vl, r0]) rfl ⟨rfl, ?_⟩
  exact (Below.refl _ w).alloc (Nat.le_refl _) _
theorem fromGo_flt (h : Int) (w : World) (h1 : -9007199254740992 ≤ h) (h2 : h ≤ 9007199254740992) :
    Calls Tryz.prog 88 #[.iface 85 (.float .f64 (fw h))] w fun e w' => e = .returned (.tuple #[vl 3 h r0, .bool true]) ∧ Below w.heap.size w w' := by
  have a1 := fun w => no63 (.float .f64 (fw h)) w
  have a2 := fun w => no64 (.float .f64 (fw h)) w
  have a3 := fun w => is66 (.float .f64 (fw h)) w
  have hq : ∀ w, (binOp .mul 85 (.float .f64 4611686018427387904) (.float .f64 (fw h))).run Tryz.prog w = .ok (.float .f64 (fw (2 * h))) w := fun w => run_float_arith w .mul 85 .f64 _ _ _ (double_fw h (he_small h h1 h2) (he_even h (by omega) (by omega)))
  have HT := Lib.hid (fun w => half_any h w (by omega) (by omega))
  simp only [vl, r0] at HT ⊢
  clear h1 h2
  go_enter Tryz.func88, Tryz.ntmps88
  go_wp2_with fail
  obtain ⟨w0, hw0⟩ : ∃ w0, w0 = w.alloc (.cells #[.int .i64 0, .int .i64 0, .string ⟨#[]⟩, .slice none 0 0, .slice none 0 0, .slice none 0 0] 26) := ⟨_, rfl⟩
  have hx : w0.heap[w.heap.size]? = some (.cells #[.int .i64 0, .int .i64 0, .string ⟨#[]⟩, .slice none 0 0, .slice none 0 0, .slice none 0 0] 26 (0, 0)) := by rw [hw0]; exact heap_alloc_new w _
  have hb : Below w.heap.size w w0 := by rw [hw0]; exact (Below.refl _ w).alloc (Nat.le_refl _) _
  have H0 := Lib.hid (And.intro hx hb)
  rw [← hw0]
  clear hw0 hx hb
  refine (HT.out w0).mono ?_
  rintro e w1 ⟨rfl, hb⟩
  have hx : w1.heap[w.heap.size]? = some (.cells #[.int .i64 0, .int .i64 0, .string ⟨#[]⟩, .slice none 0 0, .slice none 0 0, .slice none 0 0] 26 (0, 0)) := by rw [hb.block _ (lt_of_heap H0.out.1)]; exact H0.out.1
  have H1 := Lib.hid (H0.out.2.trans (hb.mono H0.out.2.size)); clear hb
  have y := six_cells hx
  go_wp2_with fail
  have hz := six_set hx (.int .i64 3) (.int .i64 h) (.string ⟨#[]⟩) (.slice none 0 0) (.slice none 0 0) (.slice none 0 0)
  have hg := six_grown w1 w.heap.size (.int .i64 3) (.int .i64 h) (.string ⟨#[]⟩) (.slice none 0 0) (.slice none 0 0) (.slice none 0 0)
  obtain ⟨W2, hW⟩ : ∃ W2, W2 = ((((((w1.setCell ⟨w.heap.size, 0, none⟩ (.int .i64 3)).setCell ⟨w.heap.size, 1, none⟩ (.int .i64 h)).setCell ⟨w.heap.size, 2, none⟩ (.string ⟨#[]⟩)).setCell ⟨w.heap.size, 3, none⟩ (.slice none 0 0)).setCell ⟨w.heap.size, 4, none⟩ (.slice none 0 0)).setCell ⟨w.heap.size, 5, none⟩ (.slice none 0 0)) := ⟨_, rfl⟩
  rw [← hW] at hz hg ⊢
  obtain ⟨q0, q1, q2, q3, q4, q5, _⟩ := six_cells hz
  refine bodyPost_ret (v := .tuple #[.agg #[.int .i64 3, .int .i64 h, .string ⟨#[]⟩, .slice none 0 0, .slice none 0 0, .slice none 0 0], .bool true]) (by simp [results, Tryz.results88, go_sem, q0, q1, q2, q3, q4, q5]) rfl ?_
  exact ⟨rfl, H1.out.grown hg H1.out.size (fun k hk => by cases hk; exact Nat.le_refl _)⟩
/-- v is package gojq's number h / 2. -/
def GNum (v : Value) (h : Int) : Prop := (∃ n, h = 2 * n ∧ v = .iface 3 (.int .i64 n) ∧ -1000000000000000000 ≤ n ∧ n ≤ 1000000000000000000) ∨ (v = .iface 85 (.float .f64 (fw h)) ∧ -9007199254740992 ≤ h ∧ h ≤ 9007199254740992)
/-- What a binary operation gives: a value of which Q says something. -/
def Gives (Q : Value → Prop) (w : World) (e : Ending) (w' : World) : Prop := ∃ v, e = .returned v ∧ Q v ∧ Below w.heap.size w w'
theorem noJ3 (v : Value) (w : World) : (Instr.typeAssert (.iface 3 v) 20 153 true).run Tryz.prog w = .ok (.tuple #[.string ⟨#[]⟩, .bool false]) w := by kernel_rfl
theorem noJ6 (v : Value) (w : World) : (Instr.typeAssert (.iface 85 v) 20 153 true).run Tryz.prog w = .ok (.tuple #[.string ⟨#[]⟩, .bool false]) w := by kernel_rfl
end Go.Proofs.YtbnfeicpjmfooaaGreatDoor.NumA
/-
Package gojq's sums, differences and opposites of two numbers: the switch over the kinds, its closures, the doors; impl.OpAdd, OpSub, Negate.
-/
namespace Go.Proofs.YtbnfeicpjmfooaaGreatDoor.NumA
open Go.RowKit Go.Lib Go.Proofs.YtbnfeicpjmfooaaGreatDoor.ValA Go.Proofs.YtbnfeicpjmfooaaGreatDoor.FloH
end Go.Proofs.YtbnfeicpjmfooaaGreatDoor.NumA
