/-
Parts of the proof, one behind the other: ImpA, IdxP, FrO, RevA.
-/
import Derived.Test.YtbnfeicpjmfooaaGreatDoorMJ
import Derived.Test.YtbnfeicpjmfooaaGreatDoorME
import Derived.Test.YtbnfeicpjmfooaaGreatDoorMH
/-
impl's functions of values, out of what gojq's function gives.
-/
set_option linter.unusedSimpArgs false
set_option linter.unusedVariables false
namespace Go.Proofs.YtbnfeicpjmfooaaGreatDoor.NumA
open Go.RowKit Go.Lib Go.Proofs.YtbnfeicpjmfooaaGreatDoor.ValA Go.Proofs.YtbnfeicpjmfooaaGreatDoor.FloH Go.Proofs.YtbnfeicpjmfooaaGreatDoorW.PrintWords Go.Proofs.YtbnfeicpjmfooaaGreatDoorW.PrintLast Go.Proofs.YtbnfeicpjmfooaaGreatDoorW.PrintMore Go.Proofs.YtbnfeicpjmfooaaGreatDoor.PzzFits1
/-- r is x's Go value as far as fromGo and result look at it, now and later. -/
def Shows (x : V) (r : Value) (w : World) : Prop := (∀ w, (Instr.typeAssert r 20 94 true).run Tryz.prog w = .ok (.tuple #[.nilIface, .bool false]) w) ∧ ∀ w1, Below w.heap.size w w1 → FromGo x r w1
theorem Shows.later {x : V} {r : Value} {w w1 : World} (h : Shows x r w) (hb : Below w.heap.size w w1) : Shows x r w1 := ⟨h.1, fun w2 hb2 => h.2 w2 (hb.trans (hb2.mono hb.size))⟩
def ShowsIs (x : V) (w : World) (e : Ending) (w' : World) : Prop := ∃ r, e = .returned r ∧ Shows x r w' ∧ Below w.heap.size w w'
end Go.Proofs.YtbnfeicpjmfooaaGreatDoor.NumA
/-
Plain: what index and slice give of a list.
-/
set_option linter.unusedSimpArgs false
set_option linter.unusedVariables false
namespace Go.Proofs.YtbnfeicpjmfooaaGreatDoor.NumA
open Go.RowKit Go.Lib Go.Proofs.YtbnfeicpjmfooaaGreatDoor.ValA Go.Proofs.YtbnfeicpjmfooaaGreatDoor.FloH Go.Proofs.YtbnfeicpjmfooaaGreatDoorW.PrintWords Go.Proofs.YtbnfeicpjmfooaaGreatDoorW.PrintLast Go.Proofs.YtbnfeicpjmfooaaGreatDoorW.PrintMore Go.Proofs.YtbnfeicpjmfooaaGreatDoor.PzzFits1
def nullV : V := ⟨0, 0, ⟨#[]⟩, [], [], []⟩
/-- An array of values. -/
def lV (l : List V) : V := ⟨5, 0, ⟨#[]⟩, l, [], []⟩
/-- clampIndex. -/
def clampI (i lo hi : Int) : Int := if (if i < 0 then i + hi else i) < lo then lo else if (if i < 0 then i + hi else i) < hi then (if i < 0 then i + hi else i) else hi
/-- The element at an index, null if there is none. -/
def ixV (l : List V) (i : Int) : V := if (if i < 0 then i + l.length else i) < 0 then nullV else l.getD (if i < 0 then i + l.length else i).toNat nullV
/-- A slice's ends. -/
def loI (s : Option Int) (n : Nat) : Nat := match s with | none => 0 | some i => (clampI i 0 n).toNat
def hiI (s e : Option Int) (n : Nat) : Nat := match e with | none => n | some i => (clampI i (loI s n) n).toNat
def sliceL (l : List V) (s e : Option Int) : List V := (l.drop (loI s l.length)).take (hiI s e l.length - loI s l.length)
end Go.Proofs.YtbnfeicpjmfooaaGreatDoor.NumA
/-
impl.fromGo at a part of an array.
-/
set_option linter.unusedSimpArgs false
set_option linter.unusedVariables false
namespace Go.Proofs.YtbnfeicpjmfooaaGreatDoor.NumA
open Go.RowKit Go.Lib Go.Proofs.YtbnfeicpjmfooaaGreatDoor.ValA Go.Proofs.YtbnfeicpjmfooaaGreatDoor.FloH Go.Proofs.YtbnfeicpjmfooaaGreatDoorW.PrintWords Go.Proofs.YtbnfeicpjmfooaaGreatDoorW.PrintLast Go.Proofs.YtbnfeicpjmfooaaGreatDoorW.PrintMore Go.Proofs.YtbnfeicpjmfooaaGreatDoor.PzzFits1
set_option maxRecDepth 100000 in
set_option maxHeartbeats 4000000 in
theorem listFromGo_off (w : World) (b o n c0 : Nat) (l : List V) (vs : List Value) (hl : l.length = n) (hn : n ≤ 1000000) (hvs : o + n ≤ vs.length) (hb : w.heap[b]? = some (.cells vs.toArray 20 (0, 0)))
    (IH : ∀ (j : Nat) (v : Value), j < n → vs[o + j]? = some v → ∀ w', Below w.heap.size w w' → FromGo (rd_T26 l j) v w') :
    Calls Tryz.prog 115 #[.slice (some ⟨b, o, none⟩) n c0] w fun e w' => ∃ cs, e = .returned (.tuple #[.agg cs.toArray, .bool true]) ∧ k26.M w' w.heap.size (fun k => w.heap.size ≤ k) ⟨5, 0, ⟨#[]⟩, l, [], []⟩ cs ∧ Below w.heap.size w w' := by
  have HI := Lib.hid (fun j v hj h w' hw => IH j v hj h w' hw)
  have HBV := Lib.hid (And.intro hb hvs)
  have HN := Lib.hid (And.intro hn hl)
  clear IH hb hvs hl
  go_enter Tryz.func115, Tryz.ntmps115
  go_wp2_with fail
  obtain ⟨W0, hW0⟩ : ∃ W0, W0 = (w.alloc (.cells #[.int .i64 0, .int .i64 0, .string ⟨#[]⟩, .slice none 0 0, .slice none 0 0, .slice none 0 0] 26)).alloc (.cells #[.int .i64 5, .int .i64 0, .string ⟨#[]⟩, .slice none 0 0, .slice none 0 0, .slice none 0 0] 26) := ⟨_, rfl⟩
  have H0 := Lib.hid (show RFr w l n n (.int .i64 ((0 : Nat) : Int)) W0 by
    rw [hW0]
    have h2 := SPL.two w #[.int .i64 0, .int .i64 0, .string ⟨#[]⟩, .slice none 0 0, .slice none 0 0, .slice none 0 0] #[.int .i64 5, .int .i64 0, .string ⟨#[]⟩, .slice none 0 0, .slice none 0 0, .slice none 0 0] 26 26
    exact ⟨0, none, 0, 0, rfl, by omega, h2.1, h2.get 0 rfl, h2.get 1 rfl, by rw [List.take_zero]; exact Kd.R_nil _ _ _ _ _⟩)
  rw [← hW0]
  clear hW0
  go_loopg [12] n (fun k i wr => RFr w l n k i wr)
  case atStart => exact H0.out
  case round =>
    clear H0
    obtain ⟨j, A, m, c, rfl, hkj, hbr, hR0, hO, hRR⟩ := hrel
    have HR := Lib.hid (And.intro hbr (And.intro hR0 (And.intro hO hRR)))
    have HK := Lib.hid hkj
    by_cases hlt : j < n
    · obtain ⟨v, hv⟩ : ∃ v, vs[o + j]? = some v := ⟨_, List.getElem?_eq_getElem (by have := HBV.out.2; omega)⟩
      have HL := Lib.hid (HI.out j v hlt hv wr hbr)
      have x0 : wr.cell? ⟨b, o + j, none⟩ = some v := by
        have h := list_cell ((hbr.block _ (lt_of_heap HBV.out.1)).trans HBV.out.1) (by have := HBV.out.2; omega : o + j < vs.length)
        rw [List.getElem?_eq_getElem (by have := HBV.out.2; omega)] at hv
        rw [h.1, Option.some.inj hv]
      have hlt2 : (j : Int) < (n : Int) := by omega
      have HLT := Lib.hid hlt
      clear hbr hR0 hO hRR hkj hv hlt hn
      unfold FromGo at HL
      go_wp2_with fail
      refine HL.out.mono ?_
      rintro e w4 ⟨cs, rfl, hM, hb4⟩
      obtain ⟨v3, v4, v5, rfl, g3, g4, g5⟩ := k26_openM hM
      obtain ⟨B3, d3, rfl⟩ := Kd.R_slice g3
      obtain ⟨B4, d4, rfl⟩ := Kd.R_slice g4
      obtain ⟨B5, d5, rfl⟩ := Kd.R_slice g5
      have hO4 := (hb4.block _ (lt_of_heap HR.out.2.2.1)).trans HR.out.2.2.1
      have hR4 := (hb4.block _ (lt_of_heap HR.out.2.1)).trans HR.out.2.1
      have hlt4 := lt_of_heap HR.out.2.2.1
      obtain ⟨A1, m1, c1, w6, hrun, hR6, hkeep, hb6⟩ := fr_append HN.out.2 HN.out.1 HLT.out HR.out.1 hlt4 HR.out.2.2.2 hb4 hM (.cells #[.int .i64 (rd_T26 l j).f0, .int .i64 (rd_T26 l j).f1, .string (rd_T26 l j).f2, .slice B3 (rd_T26 l j).f3.length d3, .slice B4 (rd_T26 l j).f4.length d4, .slice B5 (rd_T26 l j).f5.length d5] 26)
      have y : ∀ o, (w4.alloc o).cell? ⟨w.heap.size + 1, 3, none⟩ = some (.slice A m c) := fun o => by
        have h := (Below.heap_alloc w4 o (w.heap.size + 1) (lt_of_heap hO4)).trans hO4
        exact (six_cells h).2.2.2.1
      have hO6 := (hkeep (w.heap.size + 1) (by omega) hlt4).trans hO4
      have hR6' := (hkeep w.heap.size (by omega) (lt_of_heap HR.out.2.1)).trans hR4
      have q0 := (six_cells hO6).2.2.2.1
      have q1 := (six_cells hO6).2.2.2.2.2.2.2.2.2.1
      have H4 := Lib.hid (show RFr w l n (gk - 1) (.int .i64 ((j + 1 : Nat) : Int)) (w6.setCell ⟨w.heap.size + 1, 3, none⟩ (.slice A1 m1 c1)) by
        have hgr : w6.grownBy (w6.setCell ⟨w.heap.size + 1, 3, none⟩ (.slice A1 m1 c1)) (some (w.heap.size + 1)) := grown_set (World.grownBy.refl w6 _) 3 _
        refine ⟨j + 1, A1, m1, c1, rfl, by have := HK.out; have := HLT.out; omega, hb6.grown hgr hb6.size (fun k hk => by cases hk; omega), (hgr.block _ (lt_of_heap hR6') (by simp)).trans hR6', ?_, Kd.R_far hR6 (fun k hk => by show k ≠ w.heap.size + 1; omega) _⟩
        rw [heap_set hO6 3 _]
        rfl)
      clear hM g3 g4 g5 hO4 hR4 hlt4 hR6 hkeep hb6 hO6 hR6' hb4 x0
      have HRUN := Lib.hid hrun
      clear hrun
      go_wp2_with ((with_reducible refine gate_builtin (b := .append) (xs := #[.tmp 25, .tmp 27]) rfl ?_); at_builtin; refine wp_append_run rfl (.tmp 25) (.tmp 27) 22 rfl _ _ rfl rfl HRUN.out ?_)
      go_roundg (gk - 1)
      case measure => have := HK.out; have := HLT.out; omega
      case rel =>
        have hw : wrap64 ((j : Int) + 1) = ((j + 1 : Nat) : Int) := by have := HN.out.1; have := HLT.out; unfold wrap64; omega
        rw [hw]
        exact H4.out
    · have hlt2 : ¬ (j : Int) < (n : Int) := by omega
      have hlt3 : decide ((j : Int) < (n : Int)) = false := decide_eq_false hlt2
      have hlt4 : decide (j < n) = false := decide_eq_false hlt
      have HNL := Lib.hid hlt
      have yO := six_cells hO
      have yR := six_cells hR0
      clear hbr hR0 hO hRR hkj hn hlt hlt2
      go_wp2_with fail
      obtain ⟨W9, hW9⟩ : ∃ W9, W9 = (((((wr.setCell ⟨w.heap.size, 0, none⟩ (.int .i64 5)).setCell ⟨w.heap.size, 1, none⟩ (.int .i64 0)).setCell ⟨w.heap.size, 2, none⟩ (.string ⟨#[]⟩)).setCell ⟨w.heap.size, 3, none⟩ (.slice A m c)).setCell ⟨w.heap.size, 4, none⟩ (.slice none 0 0)).setCell ⟨w.heap.size, 5, none⟩ (.slice none 0 0) := ⟨_, rfl⟩
      have hz : W9.heap[w.heap.size]? = some (.cells #[.int .i64 5, .int .i64 0, .string ⟨#[]⟩, .slice A m c, .slice none 0 0, .slice none 0 0] 26 (0, 0)) := by rw [hW9]; exact six_set HR.out.2.1 _ _ _ _ _ _
      have hg : wr.grownBy W9 (some w.heap.size) := by rw [hW9]; exact six_grown _ _ _ _ _ _ _ _
      rw [← hW9]
      clear hW9 yO yR
      obtain ⟨q0, q1, q2, q3, q4, q5, _⟩ := six_cells hz
      refine bodyPost_ret (v := .tuple #[.agg #[.int .i64 5, .int .i64 0, .string ⟨#[]⟩, .slice A m c, .slice none 0 0, .slice none 0 0], .bool true]) (by simp [results, Tryz.results115, go_sem, q0, q1, q2, q3, q4, q5]) rfl ?_
      have hj : j = n := by have := HK.out; have := HNL.out; omega
      have hR9 : k26.R 26 W9 w.heap.size (fun k => w.heap.size ≤ k) (.slice A m c) l := by
        have h := Kd.R_grown HR.out.2.2.2 hg (fun k hk e => by cases e; omega)
        rw [hj, List.take_of_length_le (by have := HN.out.2; omega)] at h
        exact Kd.R_mono (Kd.R_lower h (by omega)) (fun k hk => by show w.heap.size ≤ k; have : w.heap.size + 2 ≤ k := hk; omega)
      exact ⟨[.int .i64 5, .int .i64 0, .string ⟨#[]⟩, .slice A m c, .slice none 0 0, .slice none 0 0], rfl, k26_mkM W9 w.heap.size _ ⟨5, 0, ⟨#[]⟩, l, [], []⟩ hR9 (Kd.R_nil _ _ _ _ _) (Kd.R_nil _ _ _ _ _), HR.out.1.grown hg HR.out.1.size (fun k hk => by cases hk; exact Nat.le_refl _)⟩
/-- The tail of fromGo: what a part has given is handed on. -/
theorem fromGo_of_slice (w : World) (x : V) (A : Option Addr) (n c0 : Nat) (H : ∀ w1, Below w.heap.size w w1 → Calls Tryz.prog 115 #[.slice A n c0] w1 fun e w' => ∃ cs, e = .returned (.tuple #[.agg cs.toArray, .bool true]) ∧ k26.M w' w1.heap.size (fun k => w1.heap.size ≤ k) x cs ∧ Below w1.heap.size w1 w') : FromGo x (.iface 81 (.slice A n c0)) w := by
  have HH := Lib.hid (H (w.alloc (.cells #[.int .i64 0, .int .i64 0, .string ⟨#[]⟩, .slice none 0 0, .slice none 0 0, .slice none 0 0] 26)) ((Below.refl _ w).alloc (Nat.le_refl _) _))
  clear H
  have fT := fun w => qLT (.slice A n c0) w
  have fI := fun w => qLI (.slice A n c0) w
  have fF := fun w => qLF (.slice A n c0) w
  have fS := fun w => qLS (.slice A n c0) w
  have gL := fun w => qL (.slice A n c0) w
  unfold FromGo
  go_enter Tryz.func88, Tryz.ntmps88
  go_wp2_with fail
  refine HH.out.mono ?_
  rintro e w4 ⟨cs, rfl, hM, hb4⟩
  obtain ⟨v3, v4, v5, rfl, g3, g4, g5⟩ := k26_openM hM
  obtain ⟨B3, d3, rfl⟩ := Kd.R_slice g3
  obtain ⟨B4, d4, rfl⟩ := Kd.R_slice g4
  obtain ⟨B5, d5, rfl⟩ := Kd.R_slice g5
  have hx := (hb4.block _ (by rw [World.size_alloc]; omega)).trans (heap_alloc_new w (.cells #[.int .i64 0, .int .i64 0, .string ⟨#[]⟩, .slice none 0 0, .slice none 0 0, .slice none 0 0] 26))
  have H4 := Lib.hid (show k26.M w4 (w.heap.size + 1) (fun k => w.heap.size + 1 ≤ k) x _ ∧ Below w.heap.size w w4 from ⟨by rw [World.size_alloc] at hM; exact hM, ((Below.refl _ w).alloc (Nat.le_refl _) _).trans (hb4.mono (by rw [World.size_alloc]; omega))⟩)
  have y := six_cells hx
  clear hM hb4 g3 g4 g5
  go_wp2_with fail
  have hz := six_set hx (.int .i64 x.f0) (.int .i64 x.f1) (.string x.f2) (.slice B3 x.f3.length d3) (.slice B4 x.f4.length d4) (.slice B5 x.f5.length d5)
  have hg := six_grown w4 w.heap.size (.int .i64 x.f0) (.int .i64 x.f1) (.string x.f2) (.slice B3 x.f3.length d3) (.slice B4 x.f4.length d4) (.slice B5 x.f5.length d5)
  obtain ⟨W2, hW⟩ : ∃ W2, W2 = ((((((w4.setCell ⟨w.heap.size, 0, none⟩ (.int .i64 x.f0)).setCell ⟨w.heap.size, 1, none⟩ (.int .i64 x.f1)).setCell ⟨w.heap.size, 2, none⟩ (.string x.f2)).setCell ⟨w.heap.size, 3, none⟩ (.slice B3 x.f3.length d3)).setCell ⟨w.heap.size, 4, none⟩ (.slice B4 x.f4.length d4)).setCell ⟨w.heap.size, 5, none⟩ (.slice B5 x.f5.length d5)) := ⟨_, rfl⟩
  rw [← hW] at hz hg ⊢
  clear hW y hx
  obtain ⟨q0, q1, q2, q3, q4, q5, _⟩ := six_cells hz
  refine bodyPost_ret (v := .tuple #[.agg #[.int .i64 x.f0, .int .i64 x.f1, .string x.f2, .slice B3 x.f3.length d3, .slice B4 x.f4.length d4, .slice B5 x.f5.length d5], .bool true]) (by simp [results, Tryz.results88, go_sem, q0, q1, q2, q3, q4, q5]) rfl ?_
  have hM2 := Kd.M_grown H4.out.1 hg (fun k hk e => by cases e; have : w.heap.size + 1 ≤ w.heap.size := hk; omega)
  exact ⟨[.int .i64 x.f0, .int .i64 x.f1, .string x.f2, .slice B3 x.f3.length d3, .slice B4 x.f4.length d4, .slice B5 x.f5.length d5], rfl, k26.M_mono (fun k hk => by show w.heap.size ≤ k; have : w.heap.size + 1 ≤ k := hk; omega) (k26.M_lower (by omega) hM2), H4.out.2.grown hg H4.out.2.size (fun k hk => by cases hk; exact Nat.le_refl _)⟩
/-- A part of a slice of values is an array as fromGo looks at it. -/
theorem shows_part {w : World} {b o c0 k : Nat} {l : List V} {vs : List Value} (hn : l.length ≤ 1000000) (hvs : o + l.length ≤ vs.length) (hb : w.heap[b]? = some (.cells vs.toArray 20 (0, 0)))
    (hl : ∀ y ∈ l, WL y ∧ Sz y) (he : ∀ (i : Nat) (y : V) (v : Value), l[i]? = some y → vs[o + i]? = some v → G k w y v) : Shows (lV l) (.iface 81 (.slice (some ⟨b, o, none⟩) l.length c0)) w := by
  refine ⟨fun w => noErrL _ w, fun w1 hb1 => ?_⟩
  refine fromGo_of_slice w1 _ _ _ _ fun w2 hb2 => ?_
  have h2 := (hb2.block _ (lt_of_heap ((hb1.block _ (lt_of_heap hb)).trans hb))).trans ((hb1.block _ (lt_of_heap hb)).trans hb)
  refine listFromGo_off w2 b o l.length c0 l vs rfl hn hvs h2 fun j v hj hv w' hb' => ?_
  have hm := rd_mem l j hj
  exact fromGo_any _ _ (Nat.lt_succ_self _) (hl _ hm).1 (hl _ hm).2 v k w' ((he j _ v (rd_at l j hj) hv).keepB (hb1.trans ((hb2.trans (hb'.mono hb2.size)).mono hb1.size)))
end Go.Proofs.YtbnfeicpjmfooaaGreatDoor.NumA
/-
gojq's reverse, index and slice at arrays.
-/
set_option linter.unusedSimpArgs false
set_option linter.unusedVariables false
namespace Go.Proofs.YtbnfeicpjmfooaaGreatDoor.NumA
open Go.RowKit Go.Lib Go.Proofs.YtbnfeicpjmfooaaGreatDoor.ValA Go.Proofs.YtbnfeicpjmfooaaGreatDoor.FloH Go.Proofs.YtbnfeicpjmfooaaGreatDoorW.PrintWords Go.Proofs.YtbnfeicpjmfooaaGreatDoorW.PrintLast Go.Proofs.YtbnfeicpjmfooaaGreatDoorW.PrintMore Go.Proofs.YtbnfeicpjmfooaaGreatDoor.PzzFits1
theorem wl_lV {l : List V} (hn : l.length ≤ 1000000) (h : ∀ y ∈ l, WL y) : WL (lV l) :=
  .mk _ (by simp [lV, c1B]) (show c2B 0 = true by decide) (by simpa [lV] using hn) (by simp [lV]) (fun i _ h => by simp [lV] at h) h (fun y hy => by cases hy)
theorem sz_lV {l : List V} (h : ∀ y ∈ l, Sz y) : Sz (lV l) :=
  .mk _ (show (0 : Nat) ≤ 9223372036854775807 by omega) (fun s hs => by cases hs) h (fun y hy => by cases hy)
def RV (w : World) (l : List Value) (n k : Nat) (i : Value) (wr : World) : Prop :=
  ∃ (j : Nat), i = .int .i64 j ∧ k + j = n ∧ Below w.heap.size w wr ∧ wr.heap[w.heap.size]? = some (.cells (List.replicate (n - j) Value.nilIface ++ (l.take j).reverse).toArray 20 (0, 0))
def atG (l : List Value) (i : Int) : Value := if (if i < 0 then i + l.length else i) < 0 then .nilIface else l.getD (if i < 0 then i + l.length else i).toNat .nilIface
end Go.Proofs.YtbnfeicpjmfooaaGreatDoor.NumA
