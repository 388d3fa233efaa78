/-
Parts of the proof, one behind the other: ShelfV, LookA, LookB, LookC.
-/
import Derived.Shelf.Unicode.ValidAny
import Derived.Test.YtbnfeicpjmfooaaGreatDoorProg
import Derived.Test.YtbnfeicpjmfooaaGreatDoorMA
import Derived.Test.YtbnfeicpjmfooaaGreatDoorV2
import Derived.Deep.DeepCutAuto
import Derived.Deep.CutBlock
import Derived.Deep.LoopGhost
import Derived.Deep.Light
import Derived.StillTailTactics
import Derived.Deep.RegionWith
import Derived.Deep.RegionHeld3
import Derived.BigQuiet
import Derived.IntWalk
/-
  DERIVED: THE SHELF's CONTRACTS AT THIS DUMP, IN PLAIN WORDS (tools/lay-plain.mjs out of 'YtbnfeicpjmfooaaGreatDoorShelfV.lean', which tools/lay-shelf.mjs wrote): THE SAME DECLARATIONS UNDER THE SAME NAMES: 'import', 'namespace', 'open', 'def', 'theorem' AND NOTHING ELSE: no command of the shelf's: FOR A HAND-IN. Each laying: the table of numbers ('.._ren') and one theorem, a field a fact of the dump's own or the kernel's comparison; each contract: ONE APPLICATION.
-/
namespace Go.Proofs
open Go.Shelf
def Tryz.laysValid_ren : Go.Shelf.Ren := ⟨fun | 196 => 113 | 259 => 158 | n => n, fun | 9 => 9 | 4 => 4 | 3 => 3 | 5 => 5 | 12 => 12 | 119 => 168 | 0 => 0 | 46 => 172 | 139 => 171 | 138 => 170 | 53 => 204 | n => n, fun | 3 => 0 | 4 => 1 | n => n⟩
theorem Tryz.laysValid : Go.Proofs.Lays.n196 Tryz.prog Tryz.laysValid_ren := {
  mixed := by kernel_rfl
  f196 := Tryz.func113.trans (congrArg some (by kernel_rfl))
  f259 := Tryz.func158.trans (congrArg some (by kernel_rfl))
  t0 := Tryz.underlying0
  a0 := Tryz.isAgg0
  z0 := Tryz.sizeOf0
  v0 := Tryz.zeroValue0
  t3 := Tryz.underlying3
  a3 := Tryz.isAgg3
  z3 := Tryz.sizeOf3
  v3 := Tryz.zeroValue3
  t4 := Tryz.underlying4
  a4 := Tryz.isAgg4
  z4 := Tryz.sizeOf4
  v4 := Tryz.zeroValue4
  t5 := Tryz.underlying5
  a5 := Tryz.isAgg5
  z5 := Tryz.sizeOf5
  v5 := Tryz.zeroValue5
  t9 := Tryz.underlying9
  a9 := Tryz.isAgg9
  z9 := Tryz.sizeOf9
  v9 := Tryz.zeroValue9
  t12 := Tryz.underlying12
  a12 := Tryz.isAgg12
  z12 := Tryz.sizeOf12
  v12 := Tryz.zeroValue12
  t46 := Tryz.underlying172
  a46 := Tryz.isAgg172
  z46 := Tryz.sizeOf172
  v46 := Tryz.zeroValue172
  t53 := Tryz.underlying204
  a53 := Tryz.isAgg204
  z53 := Tryz.sizeOf204
  v53 := Tryz.zeroValue204
  t119 := Tryz.underlying168
  a119 := Tryz.isAgg168
  z119 := Tryz.sizeOf168
  t138 := Tryz.underlying170
  a138 := Tryz.isAgg170
  z138 := Tryz.sizeOf170
  v138 := Tryz.zeroValue170
  t139 := Tryz.underlying171
  a139 := Tryz.isAgg171
  z139 := Tryz.sizeOf171
  v139 := Tryz.zeroValue171
  g3 := by kernel_rfl
  g4 := by kernel_rfl }
end Go.Proofs
/-
The looks of package spec at a string.
-/
namespace Go.Proofs.YtbnfeicpjmfooaaGreatDoor.ValA
open Go.RowKit Go.Lib
/-- The tables of package utf8. -/
def Env (w : World) : Prop := Lib.Utf8Tabs 0 1 w
theorem Env.below {w w' : World} (h : Env w) (hb : Below w.heap.size w w') : Env w' := Utf8Tabs_below h hb
theorem valid_any (s : ByteArray) (w : World) (hs : s.size ≤ 9223372036854775807) (hE : Env w) :
    Calls Tryz.prog 113 #[.string s] w fun e w' => e = .returned (.bool (Lib.validD s.data.toList)) ∧ Below w.heap.size w w' := Any.utf8_ValidString Tryz.laysValid s w hs hE
theorem str_any (w0 : World) (hE : Env w0) (g : Nat) (hg0 : w0.heap.size ≤ g) (p q : Int) (b : Bool) (s : ByteArray) (hs : s.size ≤ 9223372036854775807) (w : World) (hb0 : Below w0.heap.size w0 w) (h : Lk w g p q b) :
    Calls Tryz.prog 86 #[.pointer (some ⟨g, 0, none⟩), .string s] w fun e w' => ∃ c, (c = false → b = false ∧ wrap64 (q + s.size) ≤ 2000) ∧ e = .returned (.tuple #[]) ∧ Lk w' g p (wrap64 (q + s.size)) c ∧ w.grownBy w' (some g) := by
  obtain ⟨c0, c1, c2, f0, f1, f2⟩ := h.cells
  obtain ⟨q', hq⟩ : ∃ q', wrap64 (q + s.size) = q' := ⟨_, rfl⟩
  rw [hq]
  obtain ⟨W1, hW⟩ : ∃ W1, W1 = w.setCell ⟨g, 1, none⟩ (.int .i64 q') := ⟨_, rfl⟩
  have h1 : Lk W1 g p q' b := by rw [hW]; exact h.set1 _
  have hg1 : w.grownBy W1 (some g) := by rw [hW]; exact grown_set (World.grownBy.refl w _) 1 _
  have hb1 : Below w0.heap.size w0 W1 := hb0.grown hg1 hb0.size (fun k hk => by cases hk; exact hg0)
  have HL := Lib.hid (And.intro h1 (And.intro hg1 hb1))
  have HW := Lib.hid (fun c w h => want_any g p q' b c w h)
  by_cases h2 : q' ≤ 2000
  · have e1 : decide (q' ≤ 2000) = true := decide_eq_true h2
    have HV := Lib.hid (valid_any s W1 hs (hE.below hb1))
    have H2 := Lib.hid h2
    generalize Lib.validD s.data.toList = v at HV
    obtain ⟨y0, y1, y2, k0, k1, k2⟩ := h1.cells
    rw [hW] at y0 y1 y2 k0 k1 k2
    clear h h1 hg1 hb1 hb0 hE hs h2
    go_enter Tryz.func86, Tryz.ntmps86
    go_wp2_with fail
    rw [← hW]
    clear y0 y1 y2 k0 k1 k2 hW
    refine HV.out.mono ?_
    rintro e w2 ⟨rfl, hb⟩
    have HL2 := Lib.hid (show Lk w2 g p q' b ∧ w.grownBy w2 (some g) from ⟨by unfold Lk; rw [hb.block g (lt_of_heap HL.out.1)]; exact HL.out.1, HL.out.2.1.trans ⟨hb.os, hb.tape, hb.output, hb.size, fun i hi _ => hb.block i hi⟩⟩)
    clear hb
    go_wp2_with fail
    refine (HW.out v _ HL2.out.1).mono ?_
    rintro e w3 ⟨rfl, hl, hg⟩
    have F := Lib.hid (And.intro hl (HL2.out.2.trans hg))
    clear hl hg
    go_wp2_with fail
    go_end0
    exact ⟨_, fun e => by cases b <;> simp_all [H2.out], rfl, F.out⟩
  · have e1 : decide (q' ≤ 2000) = false := decide_eq_false h2
    obtain ⟨y0, y1, y2, k0, k1, k2⟩ := h1.cells
    rw [hW] at y0 y1 y2 k0 k1 k2
    clear h h1 hg1 hb1 hb0 hE hs h2
    go_enter Tryz.func86, Tryz.ntmps86
    go_wp2_with fail
    rw [← hW]
    clear y0 y1 y2 k0 k1 k2 hW
    refine (HW.out false _ HL.out.1).mono ?_
    rintro e w3 ⟨rfl, hl, hg⟩
    have F := Lib.hid (And.intro hl (HL.out.2.1.trans hg))
    clear hl hg
    go_wp2_with fail
    go_end0
    exact ⟨_, fun e => by cases b <;> simp at e, rfl, F.out⟩
theorem part_r (g : Nat) (p q d : Int) (b : Bool) (w : World) (h : Lk w g p q b) :
    Calls Tryz.prog 84 #[.pointer (some ⟨g, 0, none⟩), .int .i64 d] w fun e w' => ∃ r, (r = true → b = false ∧ wrap64 (p + 1) ≤ 400) ∧ e = .returned (.bool r) ∧ Lk w' g (wrap64 (p + 1)) q (!r) ∧ w.grownBy w' (some g) :=
  (part_any g p q d b w h).mono fun e w' ⟨c, hc, he, hl, hg⟩ => ⟨!c, fun hr => by
    have : c = false := by cases c <;> simp_all
    subst this
    have hc' := hc.symm
    simp only [Bool.or_eq_false_iff, Bool.not_eq_false', Bool.and_eq_true, decide_eq_true_eq] at hc'
    exact ⟨hc'.1, hc'.2.1⟩, he, by rw [Bool.not_not]; exact hl, hg⟩
end Go.Proofs.YtbnfeicpjmfooaaGreatDoor.ValA
/-
The look of package spec at a whole value: what it says of it.
-/
set_option linter.unusedSimpArgs false
set_option linter.unusedVariables false
namespace Go.Proofs.YtbnfeicpjmfooaaGreatDoor.ValA
open Go.RowKit Go.Lib Go.Proofs.YtbnfeicpjmfooaaGreatDoorW.PrintWords Go.Proofs.YtbnfeicpjmfooaaGreatDoorW.PrintLast Go.Proofs.YtbnfeicpjmfooaaGreatDoorW.PrintMore Go.Proofs.YtbnfeicpjmfooaaGreatDoor.PzzFits1
/-- A value as a tree: f0 its kind, f1 twice its number, f2 its text, f3 its list, f4 its keys, f5 their values. -/
abbrev V := S26
def c1B (K H : Int) (s : ByteArray) (n3 n4 n5 : Nat) : Bool :=
  decide (0 ≤ K) && decide (K ≤ 6) && (K == 3 || H == 0) && (K == 4 || s.toList.isEmpty) && (K == 5 || n3 == 0) && (K == 6 || n4 == 0) && n4 == n5
def c2B (H : Int) : Bool :=
  decide (-18014398509481984 ≤ H) && decide (H ≤ 18014398509481984) && (H.tmod 2 == 0 || (decide (-9007199254740992 < H) && decide (H < 9007199254740992)))
/-- The texts of a value are no longer than memory can hold. -/
inductive Sz : V → Prop where
  | mk (x : V) (h2 : x.f2.size ≤ 9223372036854775807) (h4 : ∀ s ∈ x.f4, s.size ≤ 9223372036854775807) (h3 : ∀ y ∈ x.f3, Sz y) (h5 : ∀ y ∈ x.f5, Sz y) : Sz x
/-- A value of JSON. -/
inductive WF : V → Prop where
  | mk (x : V) (h1 : c1B x.f0 x.f1 x.f2 x.f3.length x.f4.length x.f5.length = true) (h2 : c2B x.f1 = true) (n3 : x.f3.length ≤ 400) (n4 : x.f4.length ≤ 400)
      (hk : ∀ i : Nat, 0 < i → i < x.f4.length → Op.bytesLess (rdOf ByteArray.empty x.f4 (i - 1 : Nat)).toList (rdOf ByteArray.empty x.f4 i).toList = true) (h3 : ∀ y ∈ x.f3, WF y) (h5 : ∀ y ∈ x.f5, WF y) : WF x
def St (w0 w : World) (g B : Nat) (cs : Array Value) (p q : Int) (b : Bool) (w' : World) : Prop := Below w0.heap.size w0 w' ∧ w.grownBy w' (some g) ∧ w'.heap[B]? = some (.cells cs 26 (0, 0)) ∧ Lk w' g p q b
/-- A step that writes to the looker alone. -/
theorem St.step {w0 w w1 w2 : World} {g B : Nat} {cs : Array Value} {p q p' q' : Int} {b b' : Bool} (h : St w0 w g B cs p q b w1) (hg : w0.heap.size ≤ g) (hB : B ≠ g) (hl : Lk w2 g p' q' b') (hgr : w1.grownBy w2 (some g)) : St w0 w g B cs p' q' b' w2 :=
  ⟨h.1.grown hgr h.1.size (fun k hk => by cases hk; exact hg), h.2.1.trans hgr, (hgr.block B (lt_of_heap h.2.2.1) (fun e => hB (Option.some.inj e))).trans h.2.2.1, hl⟩
theorem castEq (a b : Nat) : ((a : Int) == (b : Int)) = (a == b) := by rw [Bool.eq_iff_iff, beq_iff_eq, beq_iff_eq]; omega
theorem castEq0 (a : Nat) : (a == 0) = ((a : Int) == 0) := (castEq a 0).symm
theorem St.lk {w0 w w1 : World} {g B : Nat} {cs : Array Value} {p q : Int} {b : Bool} (h : St w0 w g B cs p q b w1) : Lk w1 g p q b := h.2.2.2
theorem Lk.drewN {w : World} {g : Nat} {p q : Int} {b : Bool} (h : Lk w g p q b) (n : Nat) : Lk (w.drewN n) g p q b := h
theorem Lk.drew {w : World} {g : Nat} {p q : Int} {b : Bool} (h : Lk w g p q b) : Lk w.drew g p q b := h
theorem St.drewN {w0 w w1 : World} {g B : Nat} {cs : Array Value} {p q : Int} {b : Bool} (h : St w0 w g B cs p q b w1) (n : Nat) : St w0 w g B cs p q b (w1.drewN n) :=
  ⟨pw_below_drewN h.1 n, ⟨h.2.1.os, h.2.1.tape, h.2.1.output, h.2.1.size, h.2.1.block⟩, h.2.2.1, h.2.2.2⟩
theorem St.drew {w0 w w1 : World} {g B : Nat} {cs : Array Value} {p q : Int} {b : Bool} (h : St w0 w g B cs p q b w1) : St w0 w g B cs p q b w1.drew := h.drewN 1
/-- What the look says behind it. -/
def LookPost (w : World) (g : Nat) (x : V) (p : Int) (b : Bool) (e : Ending) (w' : World) : Prop :=
  ∃ p' q' c, (c = false → b = false ∧ p' ≤ 400 ∧ (0 ≤ p → p ≤ 400 → p < p' ∧ WF x)) ∧ e = .returned (.tuple #[]) ∧ Lk w' g p' q' c ∧ w.grownBy w' (some g)
/-- What the look says of a value x that lies in memory as cs. -/
def Looks (w0 : World) (g : Nat) (x : V) (cs : List Value) : Prop := ∀ (p q d : Int) (b : Bool) (w : World), Below w0.heap.size w0 w → Lk w g p q b →
  Calls Tryz.prog 48 #[.pointer (some ⟨g, 0, none⟩), .agg cs.toArray, .int .i64 d] w (LookPost w g x p b)
theorem rd_mem (xs : List V) (j : Nat) (h : j < xs.length) : rd_T26 xs j ∈ xs := by
  unfold rd_T26
  rw [Int.toNat_natCast, List.getD_eq_getElem?_getD, List.getElem?_eq_getElem h, Option.getD_some]
  exact List.getElem_mem h
/-- An element of a list of values, in a later world. -/
theorem elem_at {w0 wr : World} {A : Option Addr} {n : Nat} {xs : List V} (h : Kd.C k26 w0 A n xs) (hb : Below w0.heap.size w0 wr) (j : Nat) (hj : j < n) :
    ∃ ad A3 c3 A4 c4 A5 c5, A = some ad ∧ wr.cell? (ad.add (j * 6)) = some (.int .i64 (rd_T26 xs j).f0) ∧ wr.cell? ⟨(ad.add (j * 6)).block, (ad.add (j * 6)).off + 1, none⟩ = some (.int .i64 (rd_T26 xs j).f1) ∧ wr.cell? ⟨(ad.add (j * 6)).block, (ad.add (j * 6)).off + 2, none⟩ = some (.string (rd_T26 xs j).f2) ∧ wr.cell? ⟨(ad.add (j * 6)).block, (ad.add (j * 6)).off + 3, none⟩ = some (.slice A3 (rd_T26 xs j).f3.length c3) ∧ wr.cell? ⟨(ad.add (j * 6)).block, (ad.add (j * 6)).off + 4, none⟩ = some (.slice A4 (rd_T26 xs j).f4.length c4) ∧ wr.cell? ⟨(ad.add (j * 6)).block, (ad.add (j * 6)).off + 5, none⟩ = some (.slice A5 (rd_T26 xs j).f5.length c5) ∧
      k26.K w0 (rd_T26 xs j) [.int .i64 (rd_T26 xs j).f0, .int .i64 (rd_T26 xs j).f1, .string (rd_T26 xs j).f2, .slice A3 (rd_T26 xs j).f3.length c3, .slice A4 (rd_T26 xs j).f4.length c4, .slice A5 (rd_T26 xs j).f5.length c5] := by
  obtain ⟨ad, A3, c3, A4, c4, A5, c5, e, h0, h1, h2, h3, h4, h5, l3, g3, l4, g4, l5, g5⟩ := at_T26 h j (by omega) (by omega)
  rw [Int.toNat_natCast] at h0 h1 h2 h3 h4 h5
  exact ⟨ad, A3, c3, A4, c4, A5, c5, e, pw_cell_below hb h0, pw_cell_below hb h1, pw_cell_below hb h2, pw_cell_below hb h3, pw_cell_below hb h4, pw_cell_below hb h5, k26_mk w0 _ l3 g3 l4 g4 l5 g5⟩
/-- The first loop's head: so many elements have been looked at. -/
def R1 (w0 w : World) (g B : Nat) (cs : Array Value) (l3 : List V) (pp : Int) (b2 : Bool) (k : Nat) (i : Value) (wr : World) : Prop :=
  ∃ (j : Nat) (p q : Int) (b : Bool), i = .int .i64 j ∧ k + j = l3.length ∧ St w0 w g B cs p q b wr ∧ (b = false → b2 = false ∧ p ≤ 400 ∧ (0 ≤ pp → pp ≤ 400 → pp + j ≤ p ∧ ∀ t : Nat, t < j → WF (rd_T26 l3 t)))
/-- Behind the first loop. -/
def X1 (w0 w : World) (g B : Nat) (cs : Array Value) (l3 : List V) (pp : Int) (b2 : Bool) (wr : World) : Prop :=
  ∃ (p q : Int) (b : Bool), St w0 w g B cs p q b wr ∧ (b = false → b2 = false ∧ p ≤ 400 ∧ (0 ≤ pp → pp ≤ 400 → pp + l3.length ≤ p ∧ ∀ y ∈ l3, WF y))
/-- A key is greater than the one ahead of it. -/
def Up (l4 : List ByteArray) (t : Nat) : Prop := 0 < t → Op.bytesLess (rdOf ByteArray.empty l4 (t - 1 : Nat)).toList (rdOf ByteArray.empty l4 t).toList = true
/-- The second loop's head. -/
def R2 (w0 w : World) (g B : Nat) (cs : Array Value) (l4 : List ByteArray) (l5 : List V) (p1 : Int) (bx : Bool) (k : Nat) (i : Value) (wr : World) : Prop :=
  ∃ (j : Nat) (p q : Int) (b : Bool), i = .int .i64 j ∧ k + j = l4.length ∧ St w0 w g B cs p q b wr ∧ (b = false → bx = false ∧ p ≤ 400 ∧ (0 ≤ p1 → p1 ≤ 400 → p1 + j ≤ p ∧ ∀ t : Nat, t < j → WF (rd_T26 l5 t) ∧ Up l4 t))
theorem key_at {w0 wr : World} {A : Option Addr} {n : Nat} {xs : List ByteArray} (h : Kd.C Kd.string w0 A n xs) (hb : Below w0.heap.size w0 wr) (j : Nat) (hj : j < n) :
    ∃ ad, A = some ad ∧ wr.cell? (ad.add j) = some (.string (rdOf ByteArray.empty xs j)) := by
  obtain ⟨ad, e, h0⟩ := Kd.at_string h j (by omega) (by omega)
  rw [Int.toNat_natCast] at h0
  exact ⟨ad, e, pw_cell_below hb h0⟩
theorem key_mem (xs : List ByteArray) (j : Nat) (h : j < xs.length) : rdOf ByteArray.empty xs j ∈ xs := by
  unfold rdOf
  rw [Int.toNat_natCast, List.getD_eq_getElem?_getD, List.getElem?_eq_getElem h, Option.getD_some]
  exact List.getElem_mem h
set_option maxHeartbeats 20000000 in
set_option maxRecDepth 100000 in
theorem value_t (w0 : World) (hE : Env w0) (g : Nat) (hg0 : w0.heap.size ≤ g) (p q d : Int) (b : Bool) (K H : Int) (s : ByteArray) (hs : s.size ≤ 9223372036854775807) (A3 A4 A5 : Option Addr) (n3 c3 n4 c4 n5 c5 : Nat) (l3 : List V) (l4 : List ByteArray) (l5 : List V)
    (hC3 : Kd.C k26 w0 A3 n3 l3) (hC4 : Kd.C Kd.string w0 A4 n4 l4) (hC5 : Kd.C k26 w0 A5 n5 l5) (hz4 : ∀ s ∈ l4, s.size ≤ 9223372036854775807) (ih3 : ∀ y ∈ l3, ∀ cs, k26.K w0 y cs → Looks w0 g y cs) (ih5 : ∀ y ∈ l5, ∀ cs, k26.K w0 y cs → Looks w0 g y cs)
    (w : World) (hb0 : Below w0.heap.size w0 w) (h : Lk w g p q b) :
    Calls Tryz.prog 48 #[.pointer (some ⟨g, 0, none⟩), .agg #[.int .i64 K, .int .i64 H, .string s, .slice A3 n3 c3, .slice A4 n4 c4, .slice A5 n5 c5], .int .i64 d] w (LookPost w g ⟨K, H, s, l3, l4, l5⟩ p b) := by
  have HC := Lib.hid (And.intro hC3 (And.intro hC4 hC5))
  have HZ4 := Lib.hid hz4
  have HSTR4 := Lib.hid (fun s (hs : s ∈ l4) p q b w hb h => str_any w0 hE g hg0 p q b s (hz4 s hs) w hb h)
  have HI3 := Lib.hid ih3
  have HI5 := Lib.hid ih5
  have hn3 : n3 = l3.length := hC3.1.symm
  have hn4 : n4 = l4.length := hC4.1.symm
  have hn5 : n5 = l5.length := hC5.1.symm
  have HN := Lib.hid (And.intro hn3 (And.intro hn4 hn5))
  have hm3 : n3 ≤ 9223372036854775807 := hC3.2.1
  have hm4 : n4 ≤ 9223372036854775807 := hC4.2.1
  clear hC3 hC4 hC5 hz4 ih3 ih5 hn3 hn4 hn5
  obtain ⟨cs, hcs⟩ : ∃ cs : Array Value, cs = #[.int .i64 K, .int .i64 H, .string s, .slice A3 n3 c3, .slice A4 n4 c4, .slice A5 n5 c5] := ⟨_, rfl⟩
  have hBg : w.heap.size ≠ g := by have := lt_of_heap h; omega
  have hS : St w0 w g w.heap.size cs p q b (w.alloc (.cells cs 26)) := ⟨hb0.alloc hb0.size _, World.grownBy_alloc w _ _, heap_alloc_new w _, ((World.grownBy_alloc w _ none).block _ (lt_of_heap h) (by simp)).trans h⟩
  have HS := Lib.hid hS
  rw [hcs] at HS
  have HSTR := Lib.hid (fun p q b w hb h => str_any w0 hE g hg0 p q b s hs w hb h)
  have HG := Lib.hid (And.intro hg0 hBg)
  clear h hS hb0 hE hg0 hs hBg
  go_enter Tryz.func48, Tryz.ntmps48
  go_wp2_with fail
  refine (part_r g p q d b _ HS.out.2.2.2).mono ?_
  rintro e w1 ⟨r, hc, rfl, hl, hg⟩
  have HS1 := Lib.hid (HS.out.step HG.out.1 HG.out.2 hl hg)
  clear hl hg HS
  cases r with
  | false =>
    clear hc
    go_wp2_with fail
    refine bodyPost_ret (results_none rfl _ _ _) rfl ?_
    exact ⟨_, _, _, fun e => absurd e (by simp), rfl, HS1.out.2.2.2, HS1.out.2.1⟩
  | true =>
    obtain ⟨rfl, hp⟩ := hc rfl
    have HP := Lib.hid hp
    clear hc hp
    simp only [Bool.not_true] at HS1
    go_upto_region 2 with fail
    go_cut [] (fun wc => St w0 w g w.heap.size cs (wrap64 (p + 1)) q (!c1B K H s n3 n4 n5) wc)
    case first =>
      have y := six_cells HS1.out.2.2.1
      cases hK0 : decide (0 ≤ K)
      · skip
        as_aux_lemma =>
          go_wp2_with fail
          refine (want_any g _ _ _ _ _ HS1.out.2.2.2).mono ?_
          rintro e w2 ⟨rfl, hl, hg⟩
          have HS2 := Lib.hid (HS1.out.step HG.out.1 HG.out.2 hl hg)
          clear hl hg
          go_wp2_with fail
          go_meet
          case rel => exact (show St w0 w g w.heap.size cs (wrap64 (p + 1)) q _ w2 from by rw [hcs]; simpa [c1B, castEq, hK0] using HS2.out)
      · skip
        cases hK6 : decide (K ≤ 6)
        · skip
          as_aux_lemma =>
            go_wp2_with fail
            refine (want_any g _ _ _ _ _ HS1.out.2.2.2).mono ?_
            rintro e w2 ⟨rfl, hl, hg⟩
            have HS2 := Lib.hid (HS1.out.step HG.out.1 HG.out.2 hl hg)
            clear hl hg
            go_wp2_with fail
            go_meet
            case rel => exact (show St w0 w g w.heap.size cs (wrap64 (p + 1)) q _ w2 from by rw [hcs]; simpa [c1B, castEq, hK0, hK6] using HS2.out)
        · skip
          cases h3 : (K == 3)
          · skip
            cases h4 : (K == 4)
            · skip
              cases h5 : (K == 5)
              · skip
                cases h6 : (K == 6)
                · skip
                  cases hH : H == 0
                  · skip
                    as_aux_lemma =>
                      go_wp2_with fail
                      refine (want_any g _ _ _ _ _ HS1.out.2.2.2).mono ?_
                      rintro e w2 ⟨rfl, hl, hg⟩
                      have HS2 := Lib.hid (HS1.out.step HG.out.1 HG.out.2 hl hg)
                      clear hl hg
                      go_wp2_with fail
                      go_meet
                      case rel => exact (show St w0 w g w.heap.size cs (wrap64 (p + 1)) q _ w2 from by rw [hcs]; simpa [c1B, castEq, hK0, hK6, h3, h4, h5, h6, hH] using HS2.out)
                  · skip
                    cases hT : s.toList.isEmpty
                    · skip
                      have hTi : (s.toList == []) = false := by rw [← hT]; cases s.toList <;> rfl
                      as_aux_lemma =>
                        go_wp2_with fail
                        refine (want_any g _ _ _ _ _ HS1.out.2.2.2).mono ?_
                        rintro e w2 ⟨rfl, hl, hg⟩
                        have HS2 := Lib.hid (HS1.out.step HG.out.1 HG.out.2 hl hg)
                        clear hl hg
                        go_wp2_with fail
                        go_meet
                        case rel => exact (show St w0 w g w.heap.size cs (wrap64 (p + 1)) q _ w2 from by rw [hcs]; simpa [c1B, castEq, hK0, hK6, h3, h4, h5, h6, hH, hT] using HS2.out)
                    · skip
                      have hTi : (s.toList == []) = true := by rw [← hT]; cases s.toList <;> rfl
                      cases hL : n3 == 0
                      · skip
                        have hLi : ((n3 : Int) == 0) = false := by rw [← castEq0, hL]
                        as_aux_lemma =>
                          go_wp2_with fail
                          refine (want_any g _ _ _ _ _ HS1.out.2.2.2).mono ?_
                          rintro e w2 ⟨rfl, hl, hg⟩
                          have HS2 := Lib.hid (HS1.out.step HG.out.1 HG.out.2 hl hg)
                          clear hl hg
                          go_wp2_with fail
                          go_meet
                          case rel => exact (show St w0 w g w.heap.size cs (wrap64 (p + 1)) q _ w2 from by rw [hcs]; simpa [c1B, castEq, hK0, hK6, h3, h4, h5, h6, hH, hT, hL] using HS2.out)
                      · skip
                        have hLi : ((n3 : Int) == 0) = true := by rw [← castEq0, hL]
                        cases hN : n4 == 0
                        · skip
                          have hNi : ((n4 : Int) == 0) = false := by rw [← castEq0, hN]
                          as_aux_lemma =>
                            go_wp2_with fail
                            refine (want_any g _ _ _ _ _ HS1.out.2.2.2).mono ?_
                            rintro e w2 ⟨rfl, hl, hg⟩
                            have HS2 := Lib.hid (HS1.out.step HG.out.1 HG.out.2 hl hg)
                            clear hl hg
                            go_wp2_with fail
                            go_meet
                            case rel => exact (show St w0 w g w.heap.size cs (wrap64 (p + 1)) q _ w2 from by rw [hcs]; simpa [c1B, castEq, hK0, hK6, h3, h4, h5, h6, hH, hT, hL, hN] using HS2.out)
                        · skip
                          have hNi : ((n4 : Int) == 0) = true := by rw [← castEq0, hN]
                          as_aux_lemma =>
                            go_wp2_with fail
                            refine (want_any g _ _ _ _ _ HS1.out.2.2.2).mono ?_
                            rintro e w2 ⟨rfl, hl, hg⟩
                            have HS2 := Lib.hid (HS1.out.step HG.out.1 HG.out.2 hl hg)
                            clear hl hg
                            go_wp2_with fail
                            go_meet
                            case rel => exact (show St w0 w g w.heap.size cs (wrap64 (p + 1)) q _ w2 from by rw [hcs]; simpa [c1B, castEq, hK0, hK6, h3, h4, h5, h6, hH, hT, hL, hN] using HS2.out)
                · skip
                  cases hH : H == 0
                  · skip
                    as_aux_lemma =>
                      go_wp2_with fail
                      refine (want_any g _ _ _ _ _ HS1.out.2.2.2).mono ?_
                      rintro e w2 ⟨rfl, hl, hg⟩
                      have HS2 := Lib.hid (HS1.out.step HG.out.1 HG.out.2 hl hg)
                      clear hl hg
                      go_wp2_with fail
                      go_meet
                      case rel => exact (show St w0 w g w.heap.size cs (wrap64 (p + 1)) q _ w2 from by rw [hcs]; simpa [c1B, castEq, hK0, hK6, h3, h4, h5, h6, hH] using HS2.out)
                  · skip
                    cases hT : s.toList.isEmpty
                    · skip
                      have hTi : (s.toList == []) = false := by rw [← hT]; cases s.toList <;> rfl
                      as_aux_lemma =>
                        go_wp2_with fail
                        refine (want_any g _ _ _ _ _ HS1.out.2.2.2).mono ?_
                        rintro e w2 ⟨rfl, hl, hg⟩
                        have HS2 := Lib.hid (HS1.out.step HG.out.1 HG.out.2 hl hg)
                        clear hl hg
                        go_wp2_with fail
                        go_meet
                        case rel => exact (show St w0 w g w.heap.size cs (wrap64 (p + 1)) q _ w2 from by rw [hcs]; simpa [c1B, castEq, hK0, hK6, h3, h4, h5, h6, hH, hT] using HS2.out)
                    · skip
                      have hTi : (s.toList == []) = true := by rw [← hT]; cases s.toList <;> rfl
                      cases hL : n3 == 0
                      · skip
                        have hLi : ((n3 : Int) == 0) = false := by rw [← castEq0, hL]
                        as_aux_lemma =>
                          go_wp2_with fail
                          refine (want_any g _ _ _ _ _ HS1.out.2.2.2).mono ?_
                          rintro e w2 ⟨rfl, hl, hg⟩
                          have HS2 := Lib.hid (HS1.out.step HG.out.1 HG.out.2 hl hg)
                          clear hl hg
                          go_wp2_with fail
                          go_meet
                          case rel => exact (show St w0 w g w.heap.size cs (wrap64 (p + 1)) q _ w2 from by rw [hcs]; simpa [c1B, castEq, hK0, hK6, h3, h4, h5, h6, hH, hT, hL] using HS2.out)
                      · skip
                        have hLi : ((n3 : Int) == 0) = true := by rw [← castEq0, hL]
                        as_aux_lemma =>
                          go_wp2_with fail
                          refine (want_any g _ _ _ _ _ HS1.out.2.2.2).mono ?_
                          rintro e w2 ⟨rfl, hl, hg⟩
                          have HS2 := Lib.hid (HS1.out.step HG.out.1 HG.out.2 hl hg)
                          clear hl hg
                          go_wp2_with fail
                          go_meet
                          case rel => exact (show St w0 w g w.heap.size cs (wrap64 (p + 1)) q _ w2 from by rw [hcs]; simpa [c1B, castEq, hK0, hK6, h3, h4, h5, h6, hH, hT, hL] using HS2.out)
              · skip
                have h6 : (K == 6) = false := by rw [beq_iff_eq] at h5; rw [beq_eq_false_iff_ne]; omega
                cases hH : H == 0
                · skip
                  as_aux_lemma =>
                    go_wp2_with fail
                    refine (want_any g _ _ _ _ _ HS1.out.2.2.2).mono ?_
                    rintro e w2 ⟨rfl, hl, hg⟩
                    have HS2 := Lib.hid (HS1.out.step HG.out.1 HG.out.2 hl hg)
                    clear hl hg
                    go_wp2_with fail
                    go_meet
                    case rel => exact (show St w0 w g w.heap.size cs (wrap64 (p + 1)) q _ w2 from by rw [hcs]; simpa [c1B, castEq, hK0, hK6, h3, h4, h5, h6, hH] using HS2.out)
                · skip
                  cases hT : s.toList.isEmpty
                  · skip
                    have hTi : (s.toList == []) = false := by rw [← hT]; cases s.toList <;> rfl
                    as_aux_lemma =>
                      go_wp2_with fail
                      refine (want_any g _ _ _ _ _ HS1.out.2.2.2).mono ?_
                      rintro e w2 ⟨rfl, hl, hg⟩
                      have HS2 := Lib.hid (HS1.out.step HG.out.1 HG.out.2 hl hg)
                      clear hl hg
                      go_wp2_with fail
                      go_meet
                      case rel => exact (show St w0 w g w.heap.size cs (wrap64 (p + 1)) q _ w2 from by rw [hcs]; simpa [c1B, castEq, hK0, hK6, h3, h4, h5, h6, hH, hT] using HS2.out)
                  · skip
                    have hTi : (s.toList == []) = true := by rw [← hT]; cases s.toList <;> rfl
                    cases hN : n4 == 0
                    · skip
                      have hNi : ((n4 : Int) == 0) = false := by rw [← castEq0, hN]
                      as_aux_lemma =>
                        go_wp2_with fail
                        refine (want_any g _ _ _ _ _ HS1.out.2.2.2).mono ?_
                        rintro e w2 ⟨rfl, hl, hg⟩
                        have HS2 := Lib.hid (HS1.out.step HG.out.1 HG.out.2 hl hg)
                        clear hl hg
                        go_wp2_with fail
                        go_meet
                        case rel => exact (show St w0 w g w.heap.size cs (wrap64 (p + 1)) q _ w2 from by rw [hcs]; simpa [c1B, castEq, hK0, hK6, h3, h4, h5, h6, hH, hT, hN] using HS2.out)
                    · skip
                      have hNi : ((n4 : Int) == 0) = true := by rw [← castEq0, hN]
                      as_aux_lemma =>
                        go_wp2_with fail
                        refine (want_any g _ _ _ _ _ HS1.out.2.2.2).mono ?_
                        rintro e w2 ⟨rfl, hl, hg⟩
                        have HS2 := Lib.hid (HS1.out.step HG.out.1 HG.out.2 hl hg)
                        clear hl hg
                        go_wp2_with fail
                        go_meet
                        case rel => exact (show St w0 w g w.heap.size cs (wrap64 (p + 1)) q _ w2 from by rw [hcs]; simpa [c1B, castEq, hK0, hK6, h3, h4, h5, h6, hH, hT, hN] using HS2.out)
            · skip
              have h5 : (K == 5) = false := by rw [beq_iff_eq] at h4; rw [beq_eq_false_iff_ne]; omega
              have h6 : (K == 6) = false := by rw [beq_iff_eq] at h4; rw [beq_eq_false_iff_ne]; omega
              cases hH : H == 0
              · skip
                as_aux_lemma =>
                  go_wp2_with fail
                  refine (want_any g _ _ _ _ _ HS1.out.2.2.2).mono ?_
                  rintro e w2 ⟨rfl, hl, hg⟩
                  have HS2 := Lib.hid (HS1.out.step HG.out.1 HG.out.2 hl hg)
                  clear hl hg
                  go_wp2_with fail
                  go_meet
                  case rel => exact (show St w0 w g w.heap.size cs (wrap64 (p + 1)) q _ w2 from by rw [hcs]; simpa [c1B, castEq, hK0, hK6, h3, h4, h5, h6, hH] using HS2.out)
              · skip
                cases hL : n3 == 0
                · skip
                  have hLi : ((n3 : Int) == 0) = false := by rw [← castEq0, hL]
                  as_aux_lemma =>
                    go_wp2_with fail
                    refine (want_any g _ _ _ _ _ HS1.out.2.2.2).mono ?_
                    rintro e w2 ⟨rfl, hl, hg⟩
                    have HS2 := Lib.hid (HS1.out.step HG.out.1 HG.out.2 hl hg)
                    clear hl hg
                    go_wp2_with fail
                    go_meet
                    case rel => exact (show St w0 w g w.heap.size cs (wrap64 (p + 1)) q _ w2 from by rw [hcs]; simpa [c1B, castEq, hK0, hK6, h3, h4, h5, h6, hH, hL] using HS2.out)
                · skip
                  have hLi : ((n3 : Int) == 0) = true := by rw [← castEq0, hL]
                  cases hN : n4 == 0
                  · skip
                    have hNi : ((n4 : Int) == 0) = false := by rw [← castEq0, hN]
                    as_aux_lemma =>
                      go_wp2_with fail
                      refine (want_any g _ _ _ _ _ HS1.out.2.2.2).mono ?_
                      rintro e w2 ⟨rfl, hl, hg⟩
                      have HS2 := Lib.hid (HS1.out.step HG.out.1 HG.out.2 hl hg)
                      clear hl hg
                      go_wp2_with fail
                      go_meet
                      case rel => exact (show St w0 w g w.heap.size cs (wrap64 (p + 1)) q _ w2 from by rw [hcs]; simpa [c1B, castEq, hK0, hK6, h3, h4, h5, h6, hH, hL, hN] using HS2.out)
                  · skip
                    have hNi : ((n4 : Int) == 0) = true := by rw [← castEq0, hN]
                    as_aux_lemma =>
                      go_wp2_with fail
                      refine (want_any g _ _ _ _ _ HS1.out.2.2.2).mono ?_
                      rintro e w2 ⟨rfl, hl, hg⟩
                      have HS2 := Lib.hid (HS1.out.step HG.out.1 HG.out.2 hl hg)
                      clear hl hg
                      go_wp2_with fail
                      go_meet
                      case rel => exact (show St w0 w g w.heap.size cs (wrap64 (p + 1)) q _ w2 from by rw [hcs]; simpa [c1B, castEq, hK0, hK6, h3, h4, h5, h6, hH, hL, hN] using HS2.out)
          · skip
            have h4 : (K == 4) = false := by rw [beq_iff_eq] at h3; rw [beq_eq_false_iff_ne]; omega
            have h5 : (K == 5) = false := by rw [beq_iff_eq] at h3; rw [beq_eq_false_iff_ne]; omega
            have h6 : (K == 6) = false := by rw [beq_iff_eq] at h3; rw [beq_eq_false_iff_ne]; omega
            cases hT : s.toList.isEmpty
            · skip
              have hTi : (s.toList == []) = false := by rw [← hT]; cases s.toList <;> rfl
              as_aux_lemma =>
                go_wp2_with fail
                refine (want_any g _ _ _ _ _ HS1.out.2.2.2).mono ?_
                rintro e w2 ⟨rfl, hl, hg⟩
                have HS2 := Lib.hid (HS1.out.step HG.out.1 HG.out.2 hl hg)
                clear hl hg
                go_wp2_with fail
                go_meet
                case rel => exact (show St w0 w g w.heap.size cs (wrap64 (p + 1)) q _ w2 from by rw [hcs]; simpa [c1B, castEq, hK0, hK6, h3, h4, h5, h6, hT] using HS2.out)
            · skip
              have hTi : (s.toList == []) = true := by rw [← hT]; cases s.toList <;> rfl
              cases hL : n3 == 0
              · skip
                have hLi : ((n3 : Int) == 0) = false := by rw [← castEq0, hL]
                as_aux_lemma =>
                  go_wp2_with fail
                  refine (want_any g _ _ _ _ _ HS1.out.2.2.2).mono ?_
                  rintro e w2 ⟨rfl, hl, hg⟩
                  have HS2 := Lib.hid (HS1.out.step HG.out.1 HG.out.2 hl hg)
                  clear hl hg
                  go_wp2_with fail
                  go_meet
                  case rel => exact (show St w0 w g w.heap.size cs (wrap64 (p + 1)) q _ w2 from by rw [hcs]; simpa [c1B, castEq, hK0, hK6, h3, h4, h5, h6, hT, hL] using HS2.out)
              · skip
                have hLi : ((n3 : Int) == 0) = true := by rw [← castEq0, hL]
                cases hN : n4 == 0
                · skip
                  have hNi : ((n4 : Int) == 0) = false := by rw [← castEq0, hN]
                  as_aux_lemma =>
                    go_wp2_with fail
                    refine (want_any g _ _ _ _ _ HS1.out.2.2.2).mono ?_
                    rintro e w2 ⟨rfl, hl, hg⟩
                    have HS2 := Lib.hid (HS1.out.step HG.out.1 HG.out.2 hl hg)
                    clear hl hg
                    go_wp2_with fail
                    go_meet
                    case rel => exact (show St w0 w g w.heap.size cs (wrap64 (p + 1)) q _ w2 from by rw [hcs]; simpa [c1B, castEq, hK0, hK6, h3, h4, h5, h6, hT, hL, hN] using HS2.out)
                · skip
                  have hNi : ((n4 : Int) == 0) = true := by rw [← castEq0, hN]
                  as_aux_lemma =>
                    go_wp2_with fail
                    refine (want_any g _ _ _ _ _ HS1.out.2.2.2).mono ?_
                    rintro e w2 ⟨rfl, hl, hg⟩
                    have HS2 := Lib.hid (HS1.out.step HG.out.1 HG.out.2 hl hg)
                    clear hl hg
                    go_wp2_with fail
                    go_meet
                    case rel => exact (show St w0 w g w.heap.size cs (wrap64 (p + 1)) q _ w2 from by rw [hcs]; simpa [c1B, castEq, hK0, hK6, h3, h4, h5, h6, hT, hL, hN] using HS2.out)
    case rest =>
      obtain ⟨b1, hb1⟩ : ∃ b1, b1 = !c1B K H s n3 n4 n5 := ⟨_, rfl⟩
      rw [← hb1] at hcut
      have HB1 := Lib.hid hb1
      have HS2 := Lib.hid hcut
      clear hcut HS1 hb1
      rw [hcs] at HS2
      have HS1 := HS2
      clear HS2
      go_upto_region 3 with fail
      go_cut [] (fun wc => St w0 w g w.heap.size cs (wrap64 (p + 1)) q (b1 || !c2B H) wc)
      case first =>
        have y := six_cells HS1.out.2.2.1
        cases g1 : decide (-18014398509481984 ≤ H)
        · skip
          as_aux_lemma =>
            go_wp2_with fail
            refine (want_any g _ _ _ _ _ HS1.out.2.2.2).mono ?_
            rintro e w2 ⟨rfl, hl, hg⟩
            have HS2 := Lib.hid (HS1.out.step HG.out.1 HG.out.2 hl hg)
            clear hl hg
            go_wp2_with fail
            go_meet
            case rel => exact (show St w0 w g w.heap.size cs (wrap64 (p + 1)) q _ w2 from by rw [hcs]; simpa [c2B, castEq, g1] using HS2.out)
        · skip
          cases g2 : decide (H ≤ 18014398509481984)
          · skip
            as_aux_lemma =>
              go_wp2_with fail
              refine (want_any g _ _ _ _ _ HS1.out.2.2.2).mono ?_
              rintro e w2 ⟨rfl, hl, hg⟩
              have HS2 := Lib.hid (HS1.out.step HG.out.1 HG.out.2 hl hg)
              clear hl hg
              go_wp2_with fail
              go_meet
              case rel => exact (show St w0 w g w.heap.size cs (wrap64 (p + 1)) q _ w2 from by rw [hcs]; simpa [c2B, castEq, g1, g2] using HS2.out)
          · skip
            cases g3 : H.tmod 2 == 0
            · skip
              cases g4 : decide (-9007199254740992 < H)
              · skip
                as_aux_lemma =>
                  go_wp2_with fail
                  refine (want_any g _ _ _ _ _ HS1.out.2.2.2).mono ?_
                  rintro e w2 ⟨rfl, hl, hg⟩
                  have HS2 := Lib.hid (HS1.out.step HG.out.1 HG.out.2 hl hg)
                  clear hl hg
                  go_wp2_with fail
                  go_meet
                  case rel => exact (show St w0 w g w.heap.size cs (wrap64 (p + 1)) q _ w2 from by rw [hcs]; simpa [c2B, castEq, g1, g2, g3, g4] using HS2.out)
              · skip
                cases g5 : decide (H < 9007199254740992)
                · skip
                  as_aux_lemma =>
                    go_wp2_with fail
                    refine (want_any g _ _ _ _ _ HS1.out.2.2.2).mono ?_
                    rintro e w2 ⟨rfl, hl, hg⟩
                    have HS2 := Lib.hid (HS1.out.step HG.out.1 HG.out.2 hl hg)
                    clear hl hg
                    go_wp2_with fail
                    go_meet
                    case rel => exact (show St w0 w g w.heap.size cs (wrap64 (p + 1)) q _ w2 from by rw [hcs]; simpa [c2B, castEq, g1, g2, g3, g4, g5] using HS2.out)
                · skip
                  as_aux_lemma =>
                    go_wp2_with fail
                    refine (want_any g _ _ _ _ _ HS1.out.2.2.2).mono ?_
                    rintro e w2 ⟨rfl, hl, hg⟩
                    have HS2 := Lib.hid (HS1.out.step HG.out.1 HG.out.2 hl hg)
                    clear hl hg
                    go_wp2_with fail
                    go_meet
                    case rel => exact (show St w0 w g w.heap.size cs (wrap64 (p + 1)) q _ w2 from by rw [hcs]; simpa [c2B, castEq, g1, g2, g3, g4, g5] using HS2.out)
            · skip
              as_aux_lemma =>
                go_wp2_with fail
                refine (want_any g _ _ _ _ _ HS1.out.2.2.2).mono ?_
                rintro e w2 ⟨rfl, hl, hg⟩
                have HS2 := Lib.hid (HS1.out.step HG.out.1 HG.out.2 hl hg)
                clear hl hg
                go_wp2_with fail
                go_meet
                case rel => exact (show St w0 w g w.heap.size cs (wrap64 (p + 1)) q _ w2 from by rw [hcs]; simpa [c2B, castEq, g1, g2, g3] using HS2.out)
      case rest =>
        obtain ⟨b2, hb2⟩ : ∃ b2, b2 = (b1 || !c2B H) := ⟨_, rfl⟩
        rw [← hb2] at hcut
        have HB2 := Lib.hid hb2
        have HS2 := Lib.hid hcut
        clear hcut HS1 hb2
        rw [hcs] at HS2
        have y := six_cells HS2.out.2.2.1
        go_wp2_with fail
        clear y
        refine (HSTR.out _ q b2 wc HS2.out.1 HS2.out.2.2.2).mono ?_
        rintro e w3 ⟨b3, hb3, rfl, hl, hg⟩
        have HB3 := Lib.hid hb3
        have HS3 := Lib.hid (HS2.out.step HG.out.1 HG.out.2 hl hg)
        clear hl hg hb3 HS2
        obtain ⟨q3, hq3⟩ : ∃ q3, q3 = wrap64 (q + s.size) := ⟨_, rfl⟩
        rw [← hq3] at HS3
        clear hq3
        go_upto_block 0 with fail
        go_cut [6] (fun i wc => X1 w0 w g w.heap.size cs l3 (wrap64 (p + 1)) b2 wc)
        case first =>
          go_wp2_with fail
          go_loopg [6] n3 (fun k i wr => R1 w0 w g w.heap.size cs l3 (wrap64 (p + 1)) b2 k i wr)
          case atStart => exact ⟨0, _, _, b3, rfl, by have := HN.out.1; omega, (by rw [hcs]; exact HS3.out), fun e => ⟨(HB3.out e).1, HP.out, fun _ _ => ⟨by omega, fun t ht => absurd ht (by omega)⟩⟩⟩
          case round =>
            as_aux_lemma =>
              obtain ⟨j, p1, q1, b, rfl, hkj, hS, hF⟩ := hrel
              have HR := Lib.hid (And.intro hkj hF)
              rw [hcs] at hS
              have HSr := Lib.hid hS
              have y := six_cells hS.2.2.1
              obtain ⟨z0, z1, z2, z3, z4, z5⟩ := hS.2.2.2.cells
              have hn := HN.out.1
              by_cases hlt : j < n3
              · cases b with
                | false =>
                  obtain ⟨ad, B3, e3, B4, e4, B5, e5, rfl, x0, x1, x2, x3, x4, x5, hK⟩ := elem_at HC.out.1 hS.1 j hlt
                  have HL := Lib.hid (HI3.out _ (rd_mem l3 j (by omega)) _ hK)
                  have hlt2 : (j : Int) < (n3 : Int) := by omega
                  clear hS hF hkj hK hn
                  go_wp2_with fail
                  refine (HL.out p1 q1 _ false _ HSr.out.1 HSr.out.2.2.2).mono ?_
                  rintro e w4 ⟨p2, q2, c, hc, rfl, hl, hg⟩
                  have HS4 := Lib.hid (HSr.out.step HG.out.1 HG.out.2 hl hg)
                  have HC4 := Lib.hid hc
                  clear hl hg hc HSr x0 x1 x2 x3 x4 x5 y z0 z1 z2 z3 z4 z5
                  go_wp2_with fail
                  go_roundg (gk - 1)
                  case measure => have := HR.out.1; have := HN.out.1; omega
                  case rel =>
                    refine ⟨j + 1, p2, q2, c, by go_num, by have := HR.out.1; have := HN.out.1; omega, (by rw [hcs]; exact HS4.out), fun e => ?_⟩
                    obtain ⟨_, g1, g2⟩ := HC4.out e
                    obtain ⟨f1, f2, f3⟩ := HR.out.2 (by first | rfl | trivial)
                    refine ⟨f1, g1, fun a1 a2 => ?_⟩
                    obtain ⟨f4, f5⟩ := f3 a1 a2
                    obtain ⟨g3, g4⟩ := g2 (by omega) f2
                    refine ⟨by omega, fun t ht => ?_⟩
                    by_cases htj : t < j
                    · exact f5 t htj
                    · obtain rfl : t = j := by omega
                      exact g4
                | true =>
                  have hlt2 : (j : Int) < (n3 : Int) := by omega
                  clear hS hF hkj hn
                  go_wp2_with fail
                  go_meet
                  case rel => exact ⟨p1, q1, true, (by rw [hcs]; exact HSr.out), fun e => by cases e⟩
              · have hlt2 : ¬ (j : Int) < (n3 : Int) := by omega
                have hlt3 : decide ((j : Int) < (n3 : Int)) = false := decide_eq_false hlt2
                have hlt4 : decide (j < n3) = false := decide_eq_false hlt
                have HNL := Lib.hid hlt
                clear hS hF hkj hn hlt hlt2
                go_wp2_with fail
                go_meet
                case rel =>
                  refine ⟨p1, q1, b, (by rw [hcs]; exact HSr.out), fun e => ?_⟩
                  obtain ⟨f1, f2, f3⟩ := HR.out.2 e
                  refine ⟨f1, f2, fun a1 a2 => ?_⟩
                  obtain ⟨f4, f5⟩ := f3 a1 a2
                  have hj : j = l3.length := by have := HR.out.1; have := HN.out.1; have := HNL.out; omega
                  refine ⟨by omega, fun y hy => ?_⟩
                  obtain ⟨t, ht, rfl⟩ := List.getElem_of_mem hy
                  have := f5 t (by omega)
                  unfold rd_T26 at this
                  rwa [Int.toNat_natCast, List.getD_eq_getElem?_getD, List.getElem?_eq_getElem ht, Option.getD_some] at this
        case rest =>
          obtain ⟨p1, q1, bx, hS, hF⟩ := hcut
          rw [hcs] at hS
          have HX := Lib.hid hF
          have HS4 := Lib.hid hS
          clear hF hS HS3 HI3
          have HEQ : Hid (bx = false → n4 = n5) := Lib.hid fun e => by
            have e2 := (HX.out e).1
            rw [HB2.out, Bool.or_eq_false_iff, HB1.out, Bool.not_eq_false'] at e2
            have e3 := e2.1
            unfold c1B at e3
            simp only [Bool.and_eq_true, beq_iff_eq] at e3
            exact e3.2
          go_wp2_with fail
          go_loopg [7] n4 (fun k i wr => R2 w0 w g w.heap.size cs l4 l5 p1 bx k i wr)
          case atStart => exact ⟨0, _, _, bx, rfl, by have := HN.out.2.1; omega, (by rw [hcs]; exact HS4.out), fun e => ⟨e, (HX.out e).2.1, fun _ _ => ⟨by omega, fun t ht => absurd ht (by omega)⟩⟩⟩
          case round =>
            as_aux_lemma =>
              obtain ⟨j, p5, q5, b, rfl, hkj, hS, hF⟩ := hrel
              have HR := Lib.hid (And.intro hkj hF)
              rw [hcs] at hS
              have HSr := Lib.hid hS
              have y := six_cells hS.2.2.1
              obtain ⟨z0, z1, z2, z3, z4, z5⟩ := hS.2.2.2.cells
              have hn := HN.out
              by_cases hlt : j < n4
              · cases b with
                | false =>
                  have h45 := HEQ.out (hF rfl).1
                  have hlt5 : j < n5 := by omega
                  obtain ⟨ak, eak, xk⟩ := key_at HC.out.2.1 hS.1 j hlt
                  subst eak
                  have HL := Lib.hid (HSTR4.out _ (key_mem l4 j (by omega)) p5 q5 false wr hS.1 hS.2.2.2)
                  have hlt2 : (j : Int) < (n4 : Int) := by omega
                  clear hS hF hkj hn h45
                  go_wp2_with fail
                  clear y z0 z1 z2 z3 z4 z5 xk
                  refine HL.out.mono ?_
                  rintro e w6 ⟨b6, hb6, rfl, hl, hg⟩
                  have HS6 := Lib.hid (HSr.out.step HG.out.1 HG.out.2 hl hg)
                  have HB6 := Lib.hid hb6
                  clear hl hg hb6
                  have y := six_cells HS6.out.2.2.1
                  have HJ4 := Lib.hid hlt
                  have HJ5 := Lib.hid hlt5
                  by_cases hj0 : j = 0
                  · have e0 : ((j : Int) == 0) = true := by rw [beq_iff_eq]; omega
                    have e1 : (j == 0) = true := by rw [beq_iff_eq]; omega
                    have HJ := Lib.hid hj0
                    clear hj0 hlt5 hlt
                    go_upto_region 13 with fail
                    refine start_ (n := 18) (S := fun w' => True) (ds := [17]) #[false, false, false, false, false, false, false, false, false, false, false, false, false, false, false, false, false, false] (by kernel_rfl) rfl rfl trivial (fun hHeld => ?_)
                    refine pure_ (i := 0) (N := some 147) (v := ?_) (a' := ?_) #[true, false, false, false, false, false, false, false, false, false, false, false, false, false, false, false, false, false] rfl rfl (by kernel_rfl) (fun _ _ _ h => h) (Or.inl ⟨by rfl, ?_⟩) ?_ ?_
                    rotate_left
                    · intro w'
                      go_simp
                      with_reducible rfl
                    rotate_left
                    · simp only [Act.put, List.setIfInBounds_toArray, List.set_cons_zero, List.set_cons_succ, i64_w, i32_w]
                      rfl
                    refine pure_ (i := 1) (N := some 148) (v := ?_) (a' := ?_) #[true, true, false, false, false, false, false, false, false, false, false, false, false, false, false, false, false, false] rfl rfl (by kernel_rfl) (fun _ _ _ h => h) (Or.inl ⟨by rfl, ?_⟩) ?_ ?_
                    rotate_left
                    · intro w'
                      go_simp
                      with_reducible rfl
                    rotate_left
                    · simp only [Act.put, List.setIfInBounds_toArray, List.set_cons_zero, List.set_cons_succ, i64_w, i32_w]
                      rfl
                    refine pure_ (i := 2) (N := some 149) (v := ?_) (a' := ?_) #[true, true, true, false, false, false, false, false, false, false, false, false, false, false, false, false, false, false] rfl rfl (by kernel_rfl) (fun _ _ _ h => h) (Or.inl ⟨by rfl, ?_⟩) ?_ ?_
                    rotate_left
                    · intro w'
                      go_simp
                      with_reducible rfl
                    rotate_left
                    · simp only [Act.put, List.setIfInBounds_toArray, List.set_cons_zero, List.set_cons_succ, i64_w, i32_w]
                      rfl
                    refine pure_ (i := 3) (N := some 150) (v := ?_) (a' := ?_) #[true, true, true, true, false, false, false, false, false, false, false, false, false, false, false, false, false, false] rfl rfl (by kernel_rfl) (fun _ _ _ h => h) (Or.inl ⟨by rfl, ?_⟩) ?_ ?_
                    rotate_left
                    · intro w'
                      go_simp
                      with_reducible rfl
                    rotate_left
                    · simp only [Act.put, List.setIfInBounds_toArray, List.set_cons_zero, List.set_cons_succ, i64_w, i32_w]
                      rfl
                    refine pure_ (i := 4) (N := some 151) (v := undef) (a' := ?_) #[true, true, true, true, true, false, false, false, false, false, false, false, false, false, false, false, false, false] rfl rfl (by kernel_rfl) (fun _ _ _ h => h) (Or.inr ⟨by rfl, rfl⟩) ?_ ?_
                    rotate_left
                    · simp only [Act.put, List.setIfInBounds_toArray, List.set_cons_zero, List.set_cons_succ, i64_w, i32_w]
                      rfl
                    refine pure_ (i := 5) (N := some 152) (v := undef) (a' := ?_) #[true, true, true, true, true, true, false, false, false, false, false, false, false, false, false, false, false, false] rfl rfl (by kernel_rfl) (fun _ _ _ h => h) (Or.inr ⟨by rfl, rfl⟩) ?_ ?_
                    rotate_left
                    · simp only [Act.put, List.setIfInBounds_toArray, List.set_cons_zero, List.set_cons_succ, i64_w, i32_w]
                      rfl
                    refine pure_ (i := 6) (N := some 153) (v := undef) (a' := ?_) #[true, true, true, true, true, true, true, false, false, false, false, false, false, false, false, false, false, false] rfl rfl (by kernel_rfl) (fun _ _ _ h => h) (Or.inr ⟨by rfl, rfl⟩) ?_ ?_
                    rotate_left
                    · simp only [Act.put, List.setIfInBounds_toArray, List.set_cons_zero, List.set_cons_succ, i64_w, i32_w]
                      rfl
                    refine pure_ (i := 7) (N := some 154) (v := undef) (a' := ?_) #[true, true, true, true, true, true, true, true, false, false, false, false, false, false, false, false, false, false] rfl rfl (by kernel_rfl) (fun _ _ _ h => h) (Or.inr ⟨by rfl, rfl⟩) ?_ ?_
                    rotate_left
                    · simp only [Act.put, List.setIfInBounds_toArray, List.set_cons_zero, List.set_cons_succ, i64_w, i32_w]
                      rfl
                    refine pure_ (i := 8) (N := some 155) (v := undef) (a' := ?_) #[true, true, true, true, true, true, true, true, true, false, false, false, false, false, false, false, false, false] rfl rfl (by kernel_rfl) (fun _ _ _ h => h) (Or.inr ⟨by rfl, rfl⟩) ?_ ?_
                    rotate_left
                    · simp only [Act.put, List.setIfInBounds_toArray, List.set_cons_zero, List.set_cons_succ, i64_w, i32_w]
                      rfl
                    refine pure_ (i := 9) (N := some 156) (v := undef) (a' := ?_) #[true, true, true, true, true, true, true, true, true, true, false, false, false, false, false, false, false, false] rfl rfl (by kernel_rfl) (fun _ _ _ h => h) (Or.inr ⟨by rfl, rfl⟩) ?_ ?_
                    rotate_left
                    · simp only [Act.put, List.setIfInBounds_toArray, List.set_cons_zero, List.set_cons_succ, i64_w, i32_w]
                      rfl
                    refine pure_ (i := 10) (N := some 157) (v := undef) (a' := ?_) #[true, true, true, true, true, true, true, true, true, true, true, false, false, false, false, false, false, false] rfl rfl (by kernel_rfl) (fun _ _ _ h => h) (Or.inr ⟨by rfl, rfl⟩) ?_ ?_
                    rotate_left
                    · simp only [Act.put, List.setIfInBounds_toArray, List.set_cons_zero, List.set_cons_succ, i64_w, i32_w]
                      rfl
                    refine pure_ (i := 11) (N := some 158) (v := undef) (a' := ?_) #[true, true, true, true, true, true, true, true, true, true, true, true, false, false, false, false, false, false] rfl rfl (by kernel_rfl) (fun _ _ _ h => h) (Or.inr ⟨by rfl, rfl⟩) ?_ ?_
                    rotate_left
                    · simp only [Act.put, List.setIfInBounds_toArray, List.set_cons_zero, List.set_cons_succ, i64_w, i32_w]
                      rfl
                    refine pure_ (i := 12) (N := some 159) (v := undef) (a' := ?_) #[true, true, true, true, true, true, true, true, true, true, true, true, true, false, false, false, false, false] rfl rfl (by kernel_rfl) (fun _ _ _ h => h) (Or.inr ⟨by rfl, rfl⟩) ?_ ?_
                    rotate_left
                    · simp only [Act.put, List.setIfInBounds_toArray, List.set_cons_zero, List.set_cons_succ, i64_w, i32_w]
                      rfl
                    refine pure_ (i := 13) (N := some 160) (v := undef) (a' := ?_) #[true, true, true, true, true, true, true, true, true, true, true, true, true, true, false, false, false, false] rfl rfl (by kernel_rfl) (fun _ _ _ h => h) (Or.inr ⟨by rfl, rfl⟩) ?_ ?_
                    rotate_left
                    · simp only [Act.put, List.setIfInBounds_toArray, List.set_cons_zero, List.set_cons_succ, i64_w, i32_w]
                      rfl
                    refine pure_ (i := 14) (N := some 161) (v := undef) (a' := ?_) #[true, true, true, true, true, true, true, true, true, true, true, true, true, true, true, false, false, false] rfl rfl (by kernel_rfl) (fun _ _ _ h => h) (Or.inr ⟨by rfl, rfl⟩) ?_ ?_
                    rotate_left
                    · simp only [Act.put, List.setIfInBounds_toArray, List.set_cons_zero, List.set_cons_succ, i64_w, i32_w]
                      rfl
                    refine pure_ (i := 15) (N := some 162) (v := undef) (a' := ?_) #[true, true, true, true, true, true, true, true, true, true, true, true, true, true, true, true, false, false] rfl rfl (by kernel_rfl) (fun _ _ _ h => h) (Or.inr ⟨by rfl, rfl⟩) ?_ ?_
                    rotate_left
                    · simp only [Act.put, List.setIfInBounds_toArray, List.set_cons_zero, List.set_cons_succ, i64_w, i32_w]
                      rfl
                    refine pure_ (i := 16) (N := some 163) (v := ?_) (a' := ?_) #[true, true, true, true, true, true, true, true, true, true, true, true, true, true, true, true, true, false] rfl rfl (by kernel_rfl) (fun _ _ _ h => h) (Or.inl ⟨by rfl, ?_⟩) ?_ ?_
                    rotate_left
                    · intro w'
                      go_simp
                      with_reducible rfl
                    rotate_left
                    · simp only [Act.put, List.setIfInBounds_toArray, List.set_cons_zero, List.set_cons_succ, i64_w, i32_w]
                      rfl
                    refine last_ (i := 17) (N := some 164) #[true, true, true, true, true, true, true, true, true, true, true, true, true, true, true, true, true, true] rfl rfl (by kernel_rfl) (by decide) (fun K hK => ?_)
                    refine goes_ Tryz.func85 (by kernel_rfl) rfl #[.pointer (some ⟨g, 0, none⟩), .bool true] (by rfl) rfl rfl (by simp only [List.map_toArray, List.map_cons, List.map_nil]; rfl) ?_
                    with_reducible refine ((want_any g _ _ _ _ _ (by first | exact St.lk HS6.out | exact Lk.drew (St.lk HS6.out) | exact Lk.drewN (St.lk HS6.out) _))).mono ?_
                    rintro e w7 ⟨rfl, hl, hg⟩
                    refine ⟨_, rfl, ?_⟩
                    refine hK.out _ _ ?_
                    clear hK K
                    refine norm_ (a' := ?_) ?_ ?_
                    rotate_left
                    · show Act.put _ (some 164) _ = _
                      simp only [Act.put, List.setIfInBounds_toArray, List.set_cons_zero, List.set_cons_succ, i64_w, i32_w]
                      rfl
                    refine done_ (by kernel_rfl) ?_
                    clear y
                    have HS7 := Lib.hid (show St w0 w g w.heap.size _ p5 (wrap64 (q5 + ((rdOf ByteArray.empty l4 j).size : Int))) (b6 || !true) w7 from (by first | exact St.step HS6.out HG.out.1 HG.out.2 hl hg | exact St.step (St.drew HS6.out) HG.out.1 HG.out.2 hl hg | exact St.step (St.drewN HS6.out _) HG.out.1 HG.out.2 hl hg))
                    clear hl hg
                    have y := six_cells HS7.out.2.2.1
                    obtain ⟨ad, B3, e3, B4, e4, B5, e5, eA5, x0, x1, x2, x3, x4, x5, hK⟩ := elem_at HC.out.2.2 HS7.out.1 j HJ5.out
                    subst eA5
                    have HL5 := Lib.hid (HI5.out _ (rd_mem l5 j (by have := HN.out.2.2; have := HJ5.out; omega)) _ hK)
                    have hlt6 : (j : Int) < (n5 : Int) := by have := HJ5.out; omega
                    clear hK HS6
                    go_wp2_with fail
                    refine (HL5.out p5 _ _ _ _ HS7.out.1 HS7.out.2.2.2).mono ?_
                    rintro e w8 ⟨p8, q8, b8, hc, rfl, hl, hg⟩
                    have HS8 := Lib.hid (HS7.out.step HG.out.1 HG.out.2 hl hg)
                    have HC8 := Lib.hid hc
                    clear hl hg hc HS7 x0 x1 x2 x3 x4 x5 y hlt6
                    go_wp2_with fail
                    go_roundg (gk - 1)
                    case measure => have := HR.out.1; have := HN.out; have := HJ4.out; omega
                    case rel =>
                      refine ⟨j + 1, p8, q8, b8, by go_num, by have := HR.out.1; have := HN.out; have := HJ4.out; omega, (by rw [hcs]; exact HS8.out), fun e => ?_⟩
                      obtain ⟨g0, g1, g2⟩ := HC8.out e
                      simp only [Bool.or_eq_false_iff, Bool.not_eq_false'] at g0
                      obtain ⟨f1, f2, f3⟩ := HR.out.2 (by first | rfl | trivial)
                      refine ⟨f1, g1, fun a1 a2 => ?_⟩
                      obtain ⟨f4, f5⟩ := f3 a1 a2
                      obtain ⟨g3, g4⟩ := g2 (by omega) f2
                      refine ⟨by omega, fun t ht => ?_⟩
                      by_cases htj : t < j
                      · exact f5 t htj
                      · have htj2 : t = j := by omega
                        rw [htj2]
                        exact ⟨g4, fun h0 => absurd HJ.out (by omega)⟩
                  · obtain ⟨m, hm⟩ : ∃ m : Nat, j = m + 1 := ⟨j - 1, by omega⟩
                    have e0 : ((j : Int) == 0) = false := by rw [beq_eq_false_iff_ne]; omega
                    have e1 : (j == 0) = false := by rw [beq_eq_false_iff_ne]; omega
                    have es : wrap64 ((j : Int) - 1) = (m : Int) := by unfold wrap64; omega
                    have em1 : (0 : Int) ≤ (m : Int) := by omega
                    have em2 : (m : Int) < (n4 : Int) := by omega
                    obtain ⟨ak', eak', x1⟩ := key_at HC.out.2.1 HS6.out.1 m (by omega)
                    obtain rfl : ak = ak' := Option.some.inj eak'
                    obtain ⟨ak', eak2, x2⟩ := key_at HC.out.2.1 HS6.out.1 j HJ4.out
                    obtain rfl : ak = ak' := Option.some.inj eak2
                    obtain ⟨k1, hk1⟩ : ∃ k1, k1 = rdOf ByteArray.empty l4 m := ⟨_, rfl⟩
                    obtain ⟨k2, hk2⟩ : ∃ k2, k2 = rdOf ByteArray.empty l4 j := ⟨_, rfl⟩
                    rw [← hk1] at x1
                    rw [← hk2] at x2
                    have y4 := y.2.2.2.2.1
                    have HK := Lib.hid (And.intro hk1 (And.intro hk2 hm))
                    have HJ := Lib.hid hj0
                    clear hj0 hlt5 hlt hk1 hk2 hm eak' eak2
                    go_upto_region 13 with fail
                    refine start_ (n := 18) (S := fun w' => w'.cell? ⟨w.heap.size, 4, none⟩ = some (.slice (some ak) n4 c4) ∧ w'.cell? (ak.add m) = some (.string k1) ∧ w'.cell? (ak.add j) = some (.string k2)) (ds := [17]) #[false, false, false, false, false, false, false, false, false, false, false, false, false, false, false, false, false, false] (by kernel_rfl) rfl rfl ⟨y4, x1, x2⟩ (fun hHeld => ?_)
                    refine pure_ (i := 0) (N := some 147) (v := ?_) (a' := ?_) #[true, false, false, false, false, false, false, false, false, false, false, false, false, false, false, false, false, false] rfl rfl (by kernel_rfl) (fun _ _ _ h => h) (Or.inl ⟨by rfl, ?_⟩) ?_ ?_
                    rotate_left
                    · intro w'
                      go_simp
                      with_reducible rfl
                    rotate_left
                    · simp only [Act.put, List.setIfInBounds_toArray, List.set_cons_zero, List.set_cons_succ, i64_w, i32_w]
                      rfl
                    refine pure_ (i := 1) (N := some 148) (v := ?_) (a' := ?_) #[true, true, false, false, false, false, false, false, false, false, false, false, false, false, false, false, false, false] rfl rfl (by kernel_rfl) (fun _ _ _ h => h) (Or.inl ⟨by rfl, ?_⟩) ?_ ?_
                    rotate_left
                    · intro w'
                      go_simp
                      with_reducible rfl
                    rotate_left
                    · simp only [Act.put, List.setIfInBounds_toArray, List.set_cons_zero, List.set_cons_succ, i64_w, i32_w]
                      rfl
                    refine pure_ (i := 2) (N := some 149) (v := ?_) (a' := ?_) #[true, true, true, false, false, false, false, false, false, false, false, false, false, false, false, false, false, false] rfl rfl (by kernel_rfl) (fun _ _ _ h => h) (Or.inl ⟨by rfl, ?_⟩) ?_ ?_
                    rotate_left
                    · intro w'
                      go_simp
                      with_reducible rfl
                    rotate_left
                    · simp only [Act.put, List.setIfInBounds_toArray, List.set_cons_zero, List.set_cons_succ, i64_w, i32_w]
                      rfl
                    refine pure_ (i := 3) (N := some 150) (v := ?_) (a' := ?_) #[true, true, true, true, false, false, false, false, false, false, false, false, false, false, false, false, false, false] rfl rfl (by kernel_rfl) (fun _ _ _ h => h) (Or.inl ⟨by rfl, ?_⟩) ?_ ?_
                    rotate_left
                    · intro w'
                      go_simp
                      with_reducible rfl
                    rotate_left
                    · simp only [Act.put, List.setIfInBounds_toArray, List.set_cons_zero, List.set_cons_succ, i64_w, i32_w]
                      rfl
                    refine pure_ (i := 4) (N := some 151) (v := ?_) (a' := ?_) #[true, true, true, true, true, false, false, false, false, false, false, false, false, false, false, false, false, false] rfl rfl (by kernel_rfl) (fun _ _ _ h => h) (Or.inl ⟨by rfl, ?_⟩) ?_ ?_
                    rotate_left
                    · intro w'
                      go_simp
                      with_reducible rfl
                    rotate_left
                    · simp only [Act.put, List.setIfInBounds_toArray, List.set_cons_zero, List.set_cons_succ, i64_w, i32_w]
                      rfl
                    refine pure_ (i := 6) (N := some 153) (v := ?_) (a' := ?_) #[true, true, true, true, true, false, true, false, false, false, false, false, false, false, false, false, false, false] rfl rfl (by kernel_rfl) (fun _ _ _ h => h) (Or.inl ⟨by rfl, ?_⟩) ?_ ?_
                    rotate_left
                    · intro w'
                      go_simp
                      with_reducible rfl
                    rotate_left
                    · simp only [Act.put, List.setIfInBounds_toArray, List.set_cons_zero, List.set_cons_succ, i64_w, i32_w]
                      rfl
                    refine pure_ (i := 7) (N := some 154) (v := ?_) (a' := ?_) #[true, true, true, true, true, false, true, true, false, false, false, false, false, false, false, false, false, false] rfl rfl (by kernel_rfl) (fun _ _ _ h => h) (Or.inl ⟨by rfl, ?_⟩) ?_ ?_
                    rotate_left
                    · intro w'
                      go_simp
                      with_reducible rfl
                    rotate_left
                    · simp only [Act.put, List.setIfInBounds_toArray, List.set_cons_zero, List.set_cons_succ, i64_w, i32_w]
                      rfl
                    refine pure_ (i := 10) (N := some 157) (v := ?_) (a' := ?_) #[true, true, true, true, true, false, true, true, false, false, true, false, false, false, false, false, false, false] rfl rfl (by kernel_rfl) (fun _ _ _ h => h) (Or.inl ⟨by rfl, ?_⟩) ?_ ?_
                    rotate_left
                    · intro w'
                      go_simp
                      with_reducible rfl
                    rotate_left
                    · simp only [Act.put, List.setIfInBounds_toArray, List.set_cons_zero, List.set_cons_succ, i64_w, i32_w]
                      rfl
                    refine pure_ (i := 12) (N := some 159) (v := ?_) (a' := ?_) #[true, true, true, true, true, false, true, true, false, false, true, false, true, false, false, false, false, false] rfl rfl (by kernel_rfl) (fun _ _ _ h => h) (Or.inl ⟨by rfl, ?_⟩) ?_ ?_
                    rotate_left
                    · intro w'
                      go_simp
                      with_reducible rfl
                    rotate_left
                    · simp only [Act.put, List.setIfInBounds_toArray, List.set_cons_zero, List.set_cons_succ, i64_w, i32_w]
                      rfl
                    refine take_ (i := 5) (N := some 152) (v := ?_) (a' := ?_) #[true, true, true, true, true, true, true, true, false, false, true, false, true, false, false, false, false, false] rfl rfl (by kernel_rfl) (fun _ _ _ h => h) (Or.inl ⟨by rfl, ?_⟩) hHeld ?_ ?_
                    rotate_left
                    · rintro w' ⟨s0, s1, s2⟩
                      go_simp
                      with_reducible rfl
                    rotate_left
                    · simp only [Act.put, List.setIfInBounds_toArray, List.set_cons_zero, List.set_cons_succ, i64_w, i32_w]
                      rfl
                    refine pure_ (i := 8) (N := some 155) (v := ?_) (a' := ?_) #[true, true, true, true, true, true, true, true, true, false, true, false, true, false, false, false, false, false] rfl rfl (by kernel_rfl) (fun _ _ _ h => h) (Or.inl ⟨by rfl, ?_⟩) ?_ ?_
                    rotate_left
                    · intro w'
                      go_simp
                      with_reducible rfl
                    rotate_left
                    · simp only [Act.put, List.setIfInBounds_toArray, List.set_cons_zero, List.set_cons_succ, i64_w, i32_w]
                      rfl
                    refine take_ (i := 9) (N := some 156) (v := ?_) (a' := ?_) #[true, true, true, true, true, true, true, true, true, true, true, false, true, false, false, false, false, false] rfl rfl (by kernel_rfl) (fun _ _ _ h => h) (Or.inl ⟨by rfl, ?_⟩) hHeld ?_ ?_
                    rotate_left
                    · rintro w' ⟨s0, s1, s2⟩
                      go_simp
                      with_reducible rfl
                    rotate_left
                    · simp only [Act.put, List.setIfInBounds_toArray, List.set_cons_zero, List.set_cons_succ, i64_w, i32_w]
                      rfl
                    refine take_ (i := 11) (N := some 158) (v := ?_) (a' := ?_) #[true, true, true, true, true, true, true, true, true, true, true, true, true, false, false, false, false, false] rfl rfl (by kernel_rfl) (fun _ _ _ h => h) (Or.inl ⟨by rfl, ?_⟩) hHeld ?_ ?_
                    rotate_left
                    · rintro w' ⟨s0, s1, s2⟩
                      go_simp
                      with_reducible rfl
                    rotate_left
                    · simp only [Act.put, List.setIfInBounds_toArray, List.set_cons_zero, List.set_cons_succ, i64_w, i32_w]
                      rfl
                    refine pure_ (i := 13) (N := some 160) (v := ?_) (a' := ?_) #[true, true, true, true, true, true, true, true, true, true, true, true, true, true, false, false, false, false] rfl rfl (by kernel_rfl) (fun _ _ _ h => h) (Or.inl ⟨by rfl, ?_⟩) ?_ ?_
                    rotate_left
                    · intro w'
                      go_simp
                      with_reducible rfl
                    rotate_left
                    · simp only [Act.put, List.setIfInBounds_toArray, List.set_cons_zero, List.set_cons_succ, i64_w, i32_w]
                      rfl
                    refine take_ (i := 14) (N := some 161) (v := ?_) (a' := ?_) #[true, true, true, true, true, true, true, true, true, true, true, true, true, true, true, false, false, false] rfl rfl (by kernel_rfl) (fun _ _ _ h => h) (Or.inl ⟨by rfl, ?_⟩) hHeld ?_ ?_
                    rotate_left
                    · rintro w' ⟨s0, s1, s2⟩
                      go_simp
                      with_reducible rfl
                    rotate_left
                    · simp only [Act.put, List.setIfInBounds_toArray, List.set_cons_zero, List.set_cons_succ, i64_w, i32_w]
                      rfl
                    refine pure_ (i := 15) (N := some 162) (v := ?_) (a' := ?_) #[true, true, true, true, true, true, true, true, true, true, true, true, true, true, true, true, false, false] rfl rfl (by kernel_rfl) (fun _ _ _ h => h) (Or.inl ⟨by rfl, ?_⟩) ?_ ?_
                    rotate_left
                    · intro w'
                      go_simp
                      with_reducible rfl
                    rotate_left
                    · simp only [Act.put, List.setIfInBounds_toArray, List.set_cons_zero, List.set_cons_succ, i64_w, i32_w]
                      rfl
                    refine pure_ (i := 16) (N := some 163) (v := ?_) (a' := ?_) #[true, true, true, true, true, true, true, true, true, true, true, true, true, true, true, true, true, false] rfl rfl (by kernel_rfl) (fun _ _ _ h => h) (Or.inl ⟨by rfl, ?_⟩) ?_ ?_
                    rotate_left
                    · intro w'
                      go_simp
                      with_reducible rfl
                    rotate_left
                    · simp only [Act.put, List.setIfInBounds_toArray, List.set_cons_zero, List.set_cons_succ, i64_w, i32_w]
                      rfl
                    refine last_ (i := 17) (N := some 164) #[true, true, true, true, true, true, true, true, true, true, true, true, true, true, true, true, true, true] rfl rfl (by kernel_rfl) (by decide) (fun K hK => ?_)
                    refine goes_ Tryz.func85 (by kernel_rfl) rfl #[.pointer (some ⟨g, 0, none⟩), .bool (Op.bytesLess k1.toList k2.toList)] (by rfl) rfl rfl (by simp only [List.map_toArray, List.map_cons, List.map_nil]; rfl) ?_
                    with_reducible refine ((want_any g _ _ _ _ _ (by first | exact St.lk HS6.out | exact Lk.drew (St.lk HS6.out) | exact Lk.drewN (St.lk HS6.out) _))).mono ?_
                    rintro e w7 ⟨rfl, hl, hg⟩
                    refine ⟨_, rfl, ?_⟩
                    refine hK.out _ _ ?_
                    clear hK K
                    refine norm_ (a' := ?_) ?_ ?_
                    rotate_left
                    · show Act.put _ (some 164) _ = _
                      simp only [Act.put, List.setIfInBounds_toArray, List.set_cons_zero, List.set_cons_succ, i64_w, i32_w]
                      rfl
                    refine done_ (by kernel_rfl) ?_
                    clear y y4 x1 x2 em1 em2 es
                    have HS7 := Lib.hid (show St w0 w g w.heap.size _ p5 (wrap64 (q5 + ((rdOf ByteArray.empty l4 j).size : Int))) (b6 || !Op.bytesLess k1.toList k2.toList) w7 from (by first | exact St.step HS6.out HG.out.1 HG.out.2 hl hg | exact St.step (St.drew HS6.out) HG.out.1 HG.out.2 hl hg | exact St.step (St.drewN HS6.out _) HG.out.1 HG.out.2 hl hg))
                    clear hl hg
                    have y := six_cells HS7.out.2.2.1
                    obtain ⟨ad, B3, e3, B4, e4, B5, e5, eA5, x0, x1, x2, x3, x4, x5, hK⟩ := elem_at HC.out.2.2 HS7.out.1 j HJ5.out
                    subst eA5
                    have HL5 := Lib.hid (HI5.out _ (rd_mem l5 j (by have := HN.out.2.2; have := HJ5.out; omega)) _ hK)
                    have hlt6 : (j : Int) < (n5 : Int) := by have := HJ5.out; omega
                    clear hK HS6
                    go_wp2_with fail
                    refine (HL5.out p5 _ _ _ _ HS7.out.1 HS7.out.2.2.2).mono ?_
                    rintro e w8 ⟨p8, q8, b8, hc, rfl, hl, hg⟩
                    have HS8 := Lib.hid (HS7.out.step HG.out.1 HG.out.2 hl hg)
                    have HC8 := Lib.hid hc
                    clear hl hg hc HS7 x0 x1 x2 x3 x4 x5 y hlt6
                    go_wp2_with fail
                    go_roundg (gk - 1)
                    case measure => have := HR.out.1; have := HN.out; have := HJ4.out; omega
                    case rel =>
                      refine ⟨j + 1, p8, q8, b8, by go_num, by have := HR.out.1; have := HN.out; have := HJ4.out; omega, (by rw [hcs]; exact HS8.out), fun e => ?_⟩
                      obtain ⟨g0, g1, g2⟩ := HC8.out e
                      simp only [Bool.or_eq_false_iff, Bool.not_eq_false'] at g0
                      obtain ⟨f1, f2, f3⟩ := HR.out.2 (by first | rfl | trivial)
                      refine ⟨f1, g1, fun a1 a2 => ?_⟩
                      obtain ⟨f4, f5⟩ := f3 a1 a2
                      obtain ⟨g3, g4⟩ := g2 (by omega) f2
                      refine ⟨by omega, fun t ht => ?_⟩
                      by_cases htj : t < j
                      · exact f5 t htj
                      · have htj2 : t = j := by omega
                        rw [htj2]
                        exact ⟨g4, fun h0 => by
                          have := g0.2
                          rw [HK.out.1, HK.out.2.1] at this
                          rw [show j - 1 = m by have := HK.out.2.2; omega]
                          exact this⟩
                | true =>
                  have hlt2 : (j : Int) < (n4 : Int) := by omega
                  clear hS hF hkj hn
                  go_wp2_with fail
                  go_end0
                  exact ⟨p5, q5, true, fun e => absurd e (by simp), rfl, HSr.out.2.2.2, HSr.out.2.1⟩
              · have hlt2 : ¬ (j : Int) < (n4 : Int) := by omega
                have hlt3 : decide ((j : Int) < (n4 : Int)) = false := decide_eq_false hlt2
                have hlt4 : decide (j < n4) = false := decide_eq_false hlt
                have HNL := Lib.hid hlt
                clear hS hF hkj hn hlt hlt2
                go_wp2_with fail
                go_end0
                refine ⟨p5, q5, b, fun e => ?_, rfl, HSr.out.2.2.2, HSr.out.2.1⟩
                obtain ⟨f1, f2, f3⟩ := HR.out.2 e
                refine ⟨rfl, f2, fun a1 a2 => ?_⟩
                have hpp := HP.out
                obtain ⟨x1, x2, x3⟩ := HX.out f1
                rw [HB2.out, Bool.or_eq_false_iff, HB1.out, Bool.not_eq_false', Bool.not_eq_false'] at x1
                have hw : wrap64 (p + 1) = p + 1 := by unfold wrap64; omega
                obtain ⟨x4, x5⟩ := x3 (by omega) hpp
                obtain ⟨f4, f5⟩ := f3 (by omega) x2
                have hj : j = l4.length := by have := HR.out.1; have := HN.out; have := HNL.out; omega
                have hn := HN.out
                refine ⟨by omega, WF.mk _ ?_ x1.2 (by show l3.length ≤ 400; omega) (by show l4.length ≤ 400; omega) ?_ x5 ?_⟩
                · show c1B K H s l3.length l4.length l5.length = true
                  rw [← hn.1, ← hn.2.1, ← hn.2.2]
                  exact x1.1
                · intro i hi hil
                  exact (f5 i (by have : i < l4.length := hil; omega)).2 hi
                · intro y hy
                  have h45 := HEQ.out f1
                  obtain ⟨t, ht, rfl⟩ := List.getElem_of_mem hy
                  have := (f5 t (by have : t < l5.length := ht; omega)).1
                  unfold rd_T26 at this
                  rwa [Int.toNat_natCast, List.getD_eq_getElem?_getD, List.getElem?_eq_getElem ht, Option.getD_some] at this
end Go.Proofs.YtbnfeicpjmfooaaGreatDoor.ValA
/-
spec.Fit and laws.num at any value.
-/
namespace Go.Proofs.YtbnfeicpjmfooaaGreatDoor.ValA
open Go.RowKit Go.Lib Go.Proofs.YtbnfeicpjmfooaaGreatDoorW.PrintWords Go.Proofs.YtbnfeicpjmfooaaGreatDoorW.PrintLast Go.Proofs.YtbnfeicpjmfooaaGreatDoorW.PrintMore Go.Proofs.YtbnfeicpjmfooaaGreatDoor.PzzFits1
theorem looks_any (w0 : World) (hE : Env w0) (g : Nat) (hg0 : w0.heap.size ≤ g) : ∀ (N : Nat) (x : V), SizeOf.sizeOf x < N → Sz x → ∀ cs, k26.K w0 x cs → Looks w0 g x cs
  | 0, _, h, _, _, _ => absurd h (Nat.not_lt_zero _)
  | N + 1, x, hN, hz, cs, hK => by
    obtain ⟨A3, c3, A4, c4, A5, c5, rfl, l3, g3, l4, g4, l5, g5⟩ := k26_open hK
    obtain ⟨_, z2, z4, z3, z5⟩ := hz
    intro p q d b w hb h
    have ih3 : ∀ y ∈ x.f3, ∀ cs, k26.K w0 y cs → Looks w0 g y cs := fun y hy cs hc => looks_any w0 hE g hg0 N y (by
      have h1 := List.sizeOf_lt_of_mem hy
      have h2 : SizeOf.sizeOf x.f3 < SizeOf.sizeOf x := by cases x; simp; omega
      omega) (z3 y hy) cs hc
    have ih5 : ∀ y ∈ x.f5, ∀ cs, k26.K w0 y cs → Looks w0 g y cs := fun y hy cs hc => looks_any w0 hE g hg0 N y (by
      have h1 := List.sizeOf_lt_of_mem hy
      have h2 : SizeOf.sizeOf x.f5 < SizeOf.sizeOf x := by cases x; simp; omega
      omega) (z5 y hy) cs hc
    have e : LookPost w g x p b = LookPost w g ⟨x.f0, x.f1, x.f2, x.f3, x.f4, x.f5⟩ p b := by cases x; rfl
    rw [e]
    exact value_t w0 hE g hg0 p q d b x.f0 x.f1 x.f2 z2 A3 A4 A5 x.f3.length c3 x.f4.length c4 x.f5.length c5 x.f3 x.f4 x.f5 g3 g4 g5 z4 ih3 ih5 w hb h
/-- What a bool says of a value, if it is true. -/
def Says (Q : Prop) (w : World) (e : Ending) (w' : World) : Prop := ∃ r, e = .returned (.bool r) ∧ (r = true → Q) ∧ Below w.heap.size w w'
set_option maxHeartbeats 1000000 in
theorem fit_any (w0 : World) (hE : Env w0) (x : V) (hz : Sz x) (K H : Int) (s : ByteArray) (A3 A4 A5 : Option Addr) (n3 c3 n4 c4 n5 c5 : Nat) (hK : k26.K w0 x [.int .i64 K, .int .i64 H, .string s, .slice A3 n3 c3, .slice A4 n4 c4, .slice A5 n5 c5]) (w : World) (hb : Below w0.heap.size w0 w) :
    Calls Tryz.prog 16 #[.agg #[.int .i64 K, .int .i64 H, .string s, .slice A3 n3 c3, .slice A4 n4 c4, .slice A5 n5 c5]] w (Says (WF x) w) := by
  have HL := Lib.hid (fun g hg => looks_any w0 hE g hg _ x (Nat.lt_succ_self _) hz _ hK)
  have HB := Lib.hid hb
  clear hE hz hK hb
  go_enter Tryz.func16, Tryz.ntmps16
  go_wp2_with fail
  have hbx : Below w.heap.size w ((w.alloc (.cells #[.int .i64 K, .int .i64 H, .string s, .slice A3 n3 c3, .slice A4 n4 c4, .slice A5 n5 c5] 26)).alloc (.cells #[.int .i64 0, .int .i64 0, .bool false] 62)) := ((Below.refl _ w).alloc (Nat.le_refl _) _).alloc (by simp) _
  have hlk : Lk ((w.alloc (.cells #[.int .i64 K, .int .i64 H, .string s, .slice A3 n3 c3, .slice A4 n4 c4, .slice A5 n5 c5] 26)).alloc (.cells #[.int .i64 0, .int .i64 0, .bool false] 62)) (w.heap.size + 1) 0 0 false := by
    have := heap_alloc_new (w.alloc (.cells #[.int .i64 K, .int .i64 H, .string s, .slice A3 n3 c3, .slice A4 n4 c4, .slice A5 n5 c5] 26)) (.cells #[.int .i64 0, .int .i64 0, .bool false] 62)
    unfold Lk
    simpa using this
  obtain ⟨w1, hw1⟩ : ∃ w1, w1 = ((w.alloc (.cells #[.int .i64 K, .int .i64 H, .string s, .slice A3 n3 c3, .slice A4 n4 c4, .slice A5 n5 c5] 26)).alloc (.cells #[.int .i64 0, .int .i64 0, .bool false] 62)) := ⟨_, rfl⟩
  rw [← hw1] at hbx hlk ⊢
  have H1 := Lib.hid (And.intro hbx hlk)
  clear hw1 hbx hlk
  refine (HL.out (w.heap.size + 1) (by have := HB.out.size; omega) 0 0 0 false w1 (HB.out.trans (H1.out.1.mono HB.out.size)) H1.out.2).mono ?_
  rintro e w2 ⟨p', q', c, hc, rfl, hl, hg⟩
  have H2 := Lib.hid (And.intro hc (H1.out.1.grown hg H1.out.1.size (fun k hk => by cases hk; omega)))
  obtain ⟨y0, y1, y2, k0, k1, k2⟩ := hl.cells
  clear hc hl hg H1 HL HB
  go_wp2_with fail
  go_ret
  exact ⟨!c, rfl, fun e => ((H2.out.1 (by cases c <;> simp_all)).2.2 (by omega) (by omega)).2, H2.out.2⟩
end Go.Proofs.YtbnfeicpjmfooaaGreatDoor.ValA
