/-
Parts of the proof, one behind the other: IdxP, ImpA.
-/
import Derived.Test.YtcoahpcjhhnkkaaGreatDoorME
import Derived.Test.YtcoahpcjhhnkkaaGreatDoorMJ
/-
Plain: what index and slice give of a list.
-/
set_option linter.unusedSimpArgs false
set_option linter.unusedVariables false
namespace Go.Proofs.YtcoahpcjhhnkkaaGreatDoor.NumA
open Go.RowKit Go.Lib Go.Proofs.YtcoahpcjhhnkkaaGreatDoor.ValA Go.Proofs.YtcoahpcjhhnkkaaGreatDoor.FloH Go.Proofs.YtcoahpcjhhnkkaaGreatDoorW.PrintWords Go.Proofs.YtcoahpcjhhnkkaaGreatDoorW.PrintLast Go.Proofs.YtcoahpcjhhnkkaaGreatDoorW.PrintMore Go.Proofs.YtcoahpcjhhnkkaaGreatDoor.PzzFits1
def nullV : V := ⟨0, 0, ⟨#[]⟩, [], [], []⟩
/-- An array of values. -/
def lV (l : List V) : V := ⟨5, 0, ⟨#[]⟩, l, [], []⟩
/-- clampIndex. -/
def clampI (i lo hi : Int) : Int := if (if i < 0 then i + hi else i) < lo then lo else if (if i < 0 then i + hi else i) < hi then (if i < 0 then i + hi else i) else hi
theorem clamp_in {i lo hi : Int} (h : lo ≤ hi) : lo ≤ clampI i lo hi ∧ clampI i lo hi ≤ hi := by unfold clampI; repeat' split <;> omega
/-- The element at an index, null if there is none. -/
def ixV (l : List V) (i : Int) : V := if (if i < 0 then i + l.length else i) < 0 then nullV else l.getD (if i < 0 then i + l.length else i).toNat nullV
theorem at_rev (l : List V) (i : Int) : ixV l.reverse (-1 - i) = ixV l i := by
  unfold ixV
  rw [List.length_reverse]
  by_cases h : i < 0
  · rw [if_neg (show ¬ (-1 - i < 0) by omega), if_pos h, if_neg (by omega)]
    by_cases h2 : i + (l.length : Int) < 0
    · rw [if_pos h2, List.getD_eq_getElem?_getD, List.getElem?_eq_none (by simp; omega)]
      rfl
    · rw [if_neg h2, List.getD_eq_getElem?_getD, List.getD_eq_getElem?_getD, List.getElem?_reverse (by omega)]
      congr 2
      omega
  · rw [if_pos (show -1 - i < 0 by omega), if_neg h, if_neg h]
    by_cases h2 : -1 - i + (l.length : Int) < 0
    · rw [if_pos h2, List.getD_eq_getElem?_getD, List.getElem?_eq_none (by omega)]
      rfl
    · rw [if_neg h2, List.getD_eq_getElem?_getD, List.getD_eq_getElem?_getD, List.getElem?_reverse (by omega)]
      congr 2
      omega
/-- A slice's ends. -/
def loI (s : Option Int) (n : Nat) : Nat := match s with | none => 0 | some i => (clampI i 0 n).toNat
def hiI (s e : Option Int) (n : Nat) : Nat := match e with | none => n | some i => (clampI i (loI s n) n).toNat
def sliceL (l : List V) (s e : Option Int) : List V := (l.drop (loI s l.length)).take (hiI s e l.length - loI s l.length)
theorem lo_le (s : Option Int) (n : Nat) : loI s n ≤ n := by
  cases s with
  | none => exact Nat.zero_le _
  | some i => have := @clamp_in i 0 n (by omega); show (clampI i 0 n).toNat ≤ n; omega
theorem hi_in (s e : Option Int) (n : Nat) : loI s n ≤ hiI s e n ∧ hiI s e n ≤ n := by
  have h := lo_le s n
  cases e with
  | none => exact ⟨h, Nat.le_refl _⟩
  | some i => have := @clamp_in i (loI s n) n (by omega); show loI s n ≤ (clampI i (loI s n) n).toNat ∧ (clampI i (loI s n) n).toNat ≤ n; omega
theorem slice_len (l : List V) (s e : Option Int) : (sliceL l s e).length = hiI s e l.length - loI s l.length := by
  have := hi_in s e l.length
  unfold sliceL
  rw [List.length_take, List.length_drop]
  omega
theorem slice_at (l : List V) (s e : Option Int) {i : Nat} (hi : i < (sliceL l s e).length) : (sliceL l s e)[i]? = l[loI s l.length + i]? := by
  rw [slice_len] at hi
  unfold sliceL
  rw [List.getElem?_take_of_lt hi, List.getElem?_drop]
theorem slice_all (l : List V) : sliceL l none none = l := by
  show (l.drop 0).take (l.length - 0) = l
  simp
theorem slice_mem {l : List V} {s e : Option Int} {y : V} (h : y ∈ sliceL l s e) : y ∈ l := List.mem_of_mem_drop (List.mem_of_mem_take h)
/-- An index of the rest. -/
theorem at_rest (l : List V) {f i : Int} (hf : 0 ≤ f) (hi : 0 ≤ i) : ixV (sliceL l (some f) none) i = ixV l (f + i) := by
  have h0 : loI (some f) l.length = min f.toNat l.length := by
    show (clampI f 0 l.length).toNat = _
    unfold clampI
    rw [if_neg (show ¬ f < 0 by omega), if_neg (by omega)]
    split <;> omega
  unfold ixV
  rw [if_neg (show ¬ i < 0 by omega), if_neg (show ¬ i < 0 by omega), if_neg (show ¬ f + i < 0 by omega), if_neg (show ¬ f + i < 0 by omega)]
  have e : sliceL l (some f) none = l.drop (loI (some f) l.length) := by
    show (l.drop (loI (some f) l.length)).take (l.length - loI (some f) l.length) = _
    rw [List.take_of_length_le (by rw [List.length_drop]; omega)]
  rw [e, h0, List.getD_eq_getElem?_getD, List.getD_eq_getElem?_getD, List.getElem?_drop]
  by_cases c : f.toNat ≤ l.length
  · rw [Nat.min_eq_left c]
    congr 2
    omega
  · rw [Nat.min_eq_right (by omega), List.getElem?_eq_none (by omega), List.getElem?_eq_none (by omega)]
/-- A slice of the reversed list. -/
theorem slice_rev (l : List V) {i k : Int} (h0 : 0 ≤ i) (h1 : i ≤ k) (h2 : k ≤ l.length) : sliceL l.reverse (some i) (some k) = (sliceL l (some (l.length - k)) (some (l.length - i))).reverse := by
  have c : ∀ j lo : Int, 0 ≤ j → lo ≤ j → j ≤ l.length → clampI j lo l.length = j := fun j lo a b d => by
    unfold clampI
    rw [if_neg (show ¬ j < 0 by omega), if_neg (by omega)]
    split <;> omega
  have a1 : loI (some i) l.length = i.toNat := by show (clampI i 0 l.length).toNat = _; rw [c i 0 h0 h0 (by omega)]
  have a2 : hiI (some i) (some k) l.length = k.toNat := by show (clampI k (loI (some i) l.length) l.length).toNat = _; rw [a1, c k _ (by omega) (by omega) h2]
  have b1 : loI (some ((l.length : Int) - k)) l.length = ((l.length : Int) - k).toNat := by show (clampI _ 0 l.length).toNat = _; rw [c _ 0 (by omega) (by omega) (by omega)]
  have b2 : hiI (some ((l.length : Int) - k)) (some ((l.length : Int) - i)) l.length = ((l.length : Int) - i).toNat := by show (clampI _ (loI _ l.length) l.length).toNat = _; rw [b1, c _ _ (by omega) (by omega) (by omega)]
  unfold sliceL
  rw [List.length_reverse, a1, a2, b1, b2]
  apply List.ext_getElem?
  intro j
  by_cases hj : j < k.toNat - i.toNat
  · rw [List.getElem?_take_of_lt hj, List.getElem?_drop, List.getElem?_reverse (by omega), List.getElem?_reverse (by rw [List.length_take, List.length_drop]; omega), List.getElem?_take_of_lt (by rw [List.length_take, List.length_drop]; omega), List.getElem?_drop]
    congr 1
    rw [List.length_take, List.length_drop]
    omega
  · rw [List.getElem?_eq_none (by rw [List.length_take]; omega), List.getElem?_eq_none (by rw [List.length_reverse, List.length_take, List.length_drop]; omega)]
end Go.Proofs.YtcoahpcjhhnkkaaGreatDoor.NumA
/-
impl's functions of values, out of what gojq's function gives.
-/
set_option linter.unusedSimpArgs false
set_option linter.unusedVariables false
namespace Go.Proofs.YtcoahpcjhhnkkaaGreatDoor.NumA
open Go.RowKit Go.Lib Go.Proofs.YtcoahpcjhhnkkaaGreatDoor.ValA Go.Proofs.YtcoahpcjhhnkkaaGreatDoor.FloH Go.Proofs.YtcoahpcjhhnkkaaGreatDoorW.PrintWords Go.Proofs.YtcoahpcjhhnkkaaGreatDoorW.PrintLast Go.Proofs.YtcoahpcjhhnkkaaGreatDoorW.PrintMore Go.Proofs.YtcoahpcjhhnkkaaGreatDoor.PzzFits1
/-- r is x's Go value as far as fromGo and result look at it, now and later. -/
def Shows (x : V) (r : Value) (w : World) : Prop := (∀ w, (Instr.typeAssert r 20 94 true).run Tryz.prog w = .ok (.tuple #[.nilIface, .bool false]) w) ∧ ∀ w1, Below w.heap.size w w1 → FromGo x r w1
theorem G.shows {n : Nat} {w : World} {x : V} {g : Value} (h : G n w x g) (hx : WL x) (zx : Sz x) : Shows x g w :=
  ⟨fun w => (h.cl (wf_facts hx).1).noErr w, fun w1 hb => fromGo_any _ x (Nat.lt_succ_self _) hx zx g n w1 (h.keepB hb)⟩
theorem Shows.later {x : V} {r : Value} {w w1 : World} (h : Shows x r w) (hb : Below w.heap.size w w1) : Shows x r w1 := ⟨h.1, fun w2 hb2 => h.2 w2 (hb.trans (hb2.mono hb.size))⟩
def ShowsIs (x : V) (w : World) (e : Ending) (w' : World) : Prop := ∃ r, e = .returned r ∧ Shows x r w' ∧ Below w.heap.size w w'
theorem SPL.four (w : World) (c d e f : Array Value) (t u v s : TypeId) : SPL w [(w.heap.size, c, t), (w.heap.size + 1, d, u), (w.heap.size + 1 + 1, e, v), (w.heap.size + 1 + 1 + 1, f, s)] ((((w.alloc (.cells c t)).alloc (.cells d u)).alloc (.cells e v)).alloc (.cells f s)) := by
  have h := (SPL.three w c d e t u v).more f s
  rw [size_alloc, size_alloc, size_alloc] at h
  exact h
set_option maxHeartbeats 4000000 in
theorem impl_Slice (w0 : World) (a b c x : V) (Ka Ha : Int) (sa : ByteArray) (A3a A4a A5a : Option Addr) (n3a c3a n4a c4a n5a c5a : Nat) (Kb Hb : Int) (sb : ByteArray) (A3b A4b A5b : Option Addr) (n3b c3b n4b c4b n5b c5b : Nat) (Kc Hc : Int) (sc : ByteArray) (A3c A4c A5c : Option Addr) (n3c c3c n4c c4c n5c c5c : Nat) (Ta : ToGo w0 a [.int .i64 Ka, .int .i64 Ha, .string sa, .slice A3a n3a c3a, .slice A4a n4a c4a, .slice A5a n5a c5a]) (Tb : ToGo w0 b [.int .i64 Kb, .int .i64 Hb, .string sb, .slice A3b n3b c3b, .slice A4b n4b c4b, .slice A5b n5b c5b]) (Tc : ToGo w0 c [.int .i64 Kc, .int .i64 Hc, .string sc, .slice A3c n3c c3c, .slice A4c n4c c4c, .slice A5c n5c c5c])
    (HC : ∀ g h i n m o w, G n w a g → G m w b h → G o w c i → Calls Tryz.prog 43 #[g, h, i] w (ShowsIs x w)) (w : World) (hb : Below w0.heap.size w0 w) :
    Calls Tryz.prog 25 #[.agg #[.int .i64 Ka, .int .i64 Ha, .string sa, .slice A3a n3a c3a, .slice A4a n4a c4a, .slice A5a n5a c5a], .agg #[.int .i64 Kb, .int .i64 Hb, .string sb, .slice A3b n3b c3b, .slice A4b n4b c4b, .slice A5b n5b c5b], .agg #[.int .i64 Kc, .int .i64 Hc, .string sc, .slice A3c n3c c3c, .slice A4c n4c c4c, .slice A5c n5c c5c]] w (ResIs x w) := by
  have HXa := Lib.hid Ta
  have HXb := Lib.hid Tb
  have HXc := Lib.hid Tc
  have HCC := Lib.hid HC
  have HB := Lib.hid hb
  clear Ta Tb Tc HC hb
  go_enter Tryz.func25, Tryz.ntmps25
  go_wp2_with fail
  obtain ⟨W0, hw0⟩ : ∃ W0, W0 = (((w.alloc (.cells #[.int .i64 Ka, .int .i64 Ha, .string sa, .slice A3a n3a c3a, .slice A4a n4a c4a, .slice A5a n5a c5a] 26)).alloc (.cells #[.int .i64 Kb, .int .i64 Hb, .string sb, .slice A3b n3b c3b, .slice A4b n4b c4b, .slice A5b n5b c5b] 26)).alloc (.cells #[.int .i64 Kc, .int .i64 Hc, .string sc, .slice A3c n3c c3c, .slice A4c n4c c4c, .slice A5c n5c c5c] 26)).alloc (.cells #[.int .i64 0, .int .i64 0, .string ⟨#[]⟩, .slice none 0 0, .slice none 0 0, .slice none 0 0, .int .i64 0] 36) := ⟨_, rfl⟩
  have h0 : SPL w [(w.heap.size, #[.int .i64 Ka, .int .i64 Ha, .string sa, .slice A3a n3a c3a, .slice A4a n4a c4a, .slice A5a n5a c5a], 26), (w.heap.size + 1, #[.int .i64 Kb, .int .i64 Hb, .string sb, .slice A3b n3b c3b, .slice A4b n4b c4b, .slice A5b n5b c5b], 26), (w.heap.size + 1 + 1, #[.int .i64 Kc, .int .i64 Hc, .string sc, .slice A3c n3c c3c, .slice A4c n4c c4c, .slice A5c n5c c5c], 26), (w.heap.size + 1 + 1 + 1, #[.int .i64 0, .int .i64 0, .string ⟨#[]⟩, .slice none 0 0, .slice none 0 0, .slice none 0 0, .int .i64 0], 36)] W0 := by rw [hw0]; exact SPL.four w _ _ _ _ _ _ _ _
  rw [← hw0]
  clear hw0
  have H0 := Lib.hid (And.intro h0 True.intro)
  clear h0
  refine (HXa.out W0 (HB.out.trans (H0.out.1.1.mono HB.out.size))).mono ?_
  rintro e w1 ⟨g, rfl, hG, hb⟩
  have H1 := Lib.hid (And.intro (H0.out.1.below hb) (And.intro hG True.intro))
  clear hb H0 hG
  have y := six_cells (H1.out.1.get 1 rfl)
  go_wp2_with fail
  refine (HXb.out w1 (HB.out.trans (H1.out.1.1.mono HB.out.size))).mono ?_
  rintro e w2 ⟨h, rfl, hG, hb⟩
  clear y
  have H2 := Lib.hid (And.intro (H1.out.1.below hb) (And.intro (H1.out.2.1.keepB hb) (And.intro hG True.intro)))
  clear hb H1 hG
  have y := six_cells (H2.out.1.get 2 rfl)
  go_wp2_with fail
  refine (HXc.out w2 (HB.out.trans (H2.out.1.1.mono HB.out.size))).mono ?_
  rintro e w3 ⟨i, rfl, hG, hb⟩
  clear y
  have H3 := Lib.hid (And.intro (H2.out.1.below hb) (And.intro (H2.out.2.1.keepB hb) (And.intro (H2.out.2.2.1.keepB hb) (And.intro hG True.intro))))
  clear hb H2 hG
  go_wp2_with fail
  refine (HCC.out g h i _ _ _ w3 H3.out.2.1 H3.out.2.2.1 H3.out.2.2.2.1).mono ?_
  rintro e w4 ⟨r, rfl, hG, hb⟩
  have H4 := Lib.hid (H3.out.1.below hb)
  have HD := Lib.hid (result_any x r w4 hG.1 hG.2)
  clear hb H3 hG
  go_wp2_with fail
  refine HD.out.mono ?_
  rintro e w5 ⟨B3, d3, B4, d4, B5, d5, rfl, hM, hb⟩
  have hs := H4.out.below hb
  have hx := hs.get 3 rfl
  have hs3 : w.heap.size + 1 + 1 + 1 < w4.heap.size := lt_of_heap (H4.out.get 3 rfl)
  have H5 := Lib.hid (And.intro hs.1 (And.intro hM hs3))
  clear hb H4 hM hs3 hs
  have y := sev_cells hx
  go_wp2_with fail
  have hz := sev_set hx (.int .i64 x.f0) (.int .i64 x.f1) (.string x.f2) (.slice B3 x.f3.length d3) (.slice B4 x.f4.length d4) (.slice B5 x.f5.length d5) (.int .i64 0)
  have hg := sev_grown w5 (w.heap.size + 1 + 1 + 1) (.int .i64 x.f0) (.int .i64 x.f1) (.string x.f2) (.slice B3 x.f3.length d3) (.slice B4 x.f4.length d4) (.slice B5 x.f5.length d5) (.int .i64 0)
  obtain ⟨W2, hW⟩ : ∃ W2, W2 = ((((((w5.setCell ⟨w.heap.size + 1 + 1 + 1, 0, none⟩ (.int .i64 x.f0)).setCell ⟨w.heap.size + 1 + 1 + 1, 1, none⟩ (.int .i64 x.f1)).setCell ⟨w.heap.size + 1 + 1 + 1, 2, none⟩ (.string x.f2)).setCell ⟨w.heap.size + 1 + 1 + 1, 3, none⟩ (.slice B3 x.f3.length d3)).setCell ⟨w.heap.size + 1 + 1 + 1, 4, none⟩ (.slice B4 x.f4.length d4)).setCell ⟨w.heap.size + 1 + 1 + 1, 5, none⟩ (.slice B5 x.f5.length d5)).setCell ⟨w.heap.size + 1 + 1 + 1, 6, none⟩ (.int .i64 0) := ⟨_, rfl⟩
  rw [← hW] at hz hg ⊢
  clear hW y hx
  obtain ⟨q0, q1, q2, q3, q4, q5, q6, _⟩ := sev_cells hz
  refine bodyPost_ret (v := .agg #[.int .i64 x.f0, .int .i64 x.f1, .string x.f2, .slice B3 x.f3.length d3, .slice B4 x.f4.length d4, .slice B5 x.f5.length d5, .int .i64 0]) (by simp [results, Tryz.results25, go_sem, q0, q1, q2, q3, q4, q5, q6]) rfl ?_
  have hs3 := H5.out.2.2
  have hM4 := Kd.M_grown H5.out.2.1 hg (fun k hk e => by cases e; have : w4.heap.size ≤ w.heap.size + 1 + 1 + 1 := hk; omega)
  exact ⟨B3, d3, B4, d4, B5, d5, rfl, k26.M_mono (fun k hk => by show w.heap.size ≤ k; have : w4.heap.size ≤ k := hk; omega) (k26.M_lower (by omega) hM4), H5.out.1.grown hg H5.out.1.size (fun k hk => by cases hk; omega)⟩
end Go.Proofs.YtcoahpcjhhnkkaaGreatDoor.NumA
