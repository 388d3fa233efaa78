/-
Parts of the proof, one behind the other: ImpA, IdxP, FrO, RevA.
-/
import Derived.Test.YtcoahpcjhhnkkaaGreatDoorMJ
import Derived.Test.YtcoahpcjhhnkkaaGreatDoorME
import Derived.Test.YtcoahpcjhhnkkaaGreatDoorMH
/-
impl's functions of values, out of what gojq's function gives.
-/
set_option linter.unusedSimpArgs false
set_option linter.unusedVariables false
namespace Go.Proofs.YtcoahpcjhhnkkaaGreatDoor.NumA
open Go.RowKit Go.Lib Go.Proofs.YtcoahpcjhhnkkaaGreatDoor.ValA Go.Proofs.YtcoahpcjhhnkkaaGreatDoor.FloH Go.Proofs.YtcoahpcjhhnkkaaGreatDoorW.PrintWords Go.Proofs.YtcoahpcjhhnkkaaGreatDoorW.PrintLast Go.Proofs.YtcoahpcjhhnkkaaGreatDoorW.PrintMore Go.Proofs.YtcoahpcjhhnkkaaGreatDoor.PzzFits1
/-- r is x's Go value as far as fromGo and result look at it, now and later. -/
def Shows (x : V) (r : Value) (w : World) : Prop := (∀ w, (Instr.typeAssert r 20 94 true).run Tryz.prog w = .ok (.tuple #[.nilIface, .bool false]) w) ∧ ∀ w1, Below w.heap.size w w1 → FromGo x r w1
theorem G.shows {n : Nat} {w : World} {x : V} {g : Value} (h : G n w x g) (hx : WL x) (zx : Sz x) : Shows x g w :=
  ⟨fun w => (h.cl (wf_facts hx).1).noErr w, fun w1 hb => fromGo_any _ x (Nat.lt_succ_self _) hx zx g n w1 (h.keepB hb)⟩
theorem Shows.later {x : V} {r : Value} {w w1 : World} (h : Shows x r w) (hb : Below w.heap.size w w1) : Shows x r w1 := ⟨h.1, fun w2 hb2 => h.2 w2 (hb.trans (hb2.mono hb.size))⟩
def ShowsIs (x : V) (w : World) (e : Ending) (w' : World) : Prop := ∃ r, e = .returned r ∧ Shows x r w' ∧ Below w.heap.size w w'
theorem SPL.four (w : World) (c d e f : Array Value) (t u v s : TypeId) : SPL w [(w.heap.size, c, t), (w.heap.size + 1, d, u), (w.heap.size + 1 + 1, e, v), (w.heap.size + 1 + 1 + 1, f, s)] ((((w.alloc (.cells c t)).alloc (.cells d u)).alloc (.cells e v)).alloc (.cells f s)) := by
  have h := (SPL.three w c d e t u v).more f s
  rw [size_alloc, size_alloc, size_alloc] at h
  exact h
set_option maxHeartbeats 4000000 in
theorem impl_Slice (w0 : World) (a b c x : V) (Ka Ha : Int) (sa : ByteArray) (A3a A4a A5a : Option Addr) (n3a c3a n4a c4a n5a c5a : Nat) (Kb Hb : Int) (sb : ByteArray) (A3b A4b A5b : Option Addr) (n3b c3b n4b c4b n5b c5b : Nat) (Kc Hc : Int) (sc : ByteArray) (A3c A4c A5c : Option Addr) (n3c c3c n4c c4c n5c c5c : Nat) (Ta : ToGo w0 a [.int .i64 Ka, .int .i64 Ha, .string sa, .slice A3a n3a c3a, .slice A4a n4a c4a, .slice A5a n5a c5a]) (Tb : ToGo w0 b [.int .i64 Kb, .int .i64 Hb, .string sb, .slice A3b n3b c3b, .slice A4b n4b c4b, .slice A5b n5b c5b]) (Tc : ToGo w0 c [.int .i64 Kc, .int .i64 Hc, .string sc, .slice A3c n3c c3c, .slice A4c n4c c4c, .slice A5c n5c c5c])
    (HC : ∀ g h i n m o w, G n w a g → G m w b h → G o w c i → Calls Tryz.prog 43 #[g, h, i] w (ShowsIs x w)) (w : World) (hb : Below w0.heap.size w0 w) :
    Calls Tryz.prog 25 #[.agg #[.int .i64 Ka, .int .i64 Ha, .string sa, .slice A3a n3a c3a, .slice A4a n4a c4a, .slice A5a n5a c5a], .agg #[.int .i64 Kb, .int .i64 Hb, .string sb, .slice A3b n3b c3b, .slice A4b n4b c4b, .slice A5b n5b c5b], .agg #[.int .i64 Kc, .int .i64 Hc, .string sc, .slice A3c n3c c3c, .slice A4c n4c c4c, .slice A5c n5c c5c]] w (ResIs x w) := by
  have HXa := Lib.hid Ta
  have HXb := Lib.hid Tb
  have HXc := Lib.hid Tc
  have HCC := Lib.hid HC
  have HB := Lib.hid hb
  clear Ta Tb Tc HC hb
  go_enter Tryz.func25, Tryz.ntmps25
  go_wp2_with fail
  obtain ⟨W0, hw0⟩ : ∃ W0, W0 = (((w.alloc (.cells #[.int .i64 Ka, .int .i64 Ha, .string sa, .slice A3a n3a c3a, .slice A4a n4a c4a, .slice A5a n5a c5a] 26)).alloc (.cells #[.int .i64 Kb, .int .i64 Hb, .string sb, .slice A3b n3b c3b, .slice A4b n4b c4b, .slice A5b n5b c5b] 26)).alloc (.cells #[.int .i64 Kc, .int .i64 Hc, .string sc, .slice A3c n3c c3c, .slice A4c n4c c4c, .slice A5c n5c c5c] 26)).alloc (.cells #[.int .i64 0, .int .i64 0, .string ⟨#[]⟩, .slice none 0 0, .slice none 0 0, .slice none 0 0, .int .i64 0] 36) := ⟨_, rfl⟩
  have h0 : SPL w [(w.heap.size, #[.int .i64 Ka, .int .i64 Ha, .string sa, .slice A3a n3a c3a, .slice A4a n4a c4a, .slice A5a n5a c5a], 26), (w.heap.size + 1, #[.int .i64 Kb, .int .i64 Hb, .string sb, .slice A3b n3b c3b, .slice A4b n4b c4b, .slice A5b n5b c5b], 26), (w.heap.size + 1 + 1, #[.int .i64 Kc, .int .i64 Hc, .string sc, .slice A3c n3c c3c, .slice A4c n4c c4c, .slice A5c n5c c5c], 26), (w.heap.size + 1 + 1 + 1, #[.int .i64 0, .int .i64 0, .string ⟨#[]⟩, .slice none 0 0, .slice none 0 0, .slice none 0 0, .int .i64 0], 36)] W0 := by rw [hw0]; exact SPL.four w _ _ _ _ _ _ _ _
  rw [← hw0]
  clear hw0
  have H0 := Lib.hid (And.intro h0 True.intro)
  clear h0
  refine (HXa.out W0 (HB.out.trans (H0.out.1.1.mono HB.out.size))).mono ?_
  rintro e w1 ⟨g, rfl, hG, hb⟩
  have H1 := Lib.hid (And.intro (H0.out.1.below hb) (And.intro hG True.intro))
  clear hb H0 hG
  have y := six_cells (H1.out.1.get 1 rfl)
  go_wp2_with fail
  refine (HXb.out w1 (HB.out.trans (H1.out.1.1.mono HB.out.size))).mono ?_
  rintro e w2 ⟨h, rfl, hG, hb⟩
  clear y
  have H2 := Lib.hid (And.intro (H1.out.1.below hb) (And.intro (H1.out.2.1.keepB hb) (And.intro hG True.intro)))
  clear hb H1 hG
  have y := six_cells (H2.out.1.get 2 rfl)
  go_wp2_with fail
  refine (HXc.out w2 (HB.out.trans (H2.out.1.1.mono HB.out.size))).mono ?_
  rintro e w3 ⟨i, rfl, hG, hb⟩
  clear y
  have H3 := Lib.hid (And.intro (H2.out.1.below hb) (And.intro (H2.out.2.1.keepB hb) (And.intro (H2.out.2.2.1.keepB hb) (And.intro hG True.intro))))
  clear hb H2 hG
  go_wp2_with fail
  refine (HCC.out g h i _ _ _ w3 H3.out.2.1 H3.out.2.2.1 H3.out.2.2.2.1).mono ?_
  rintro e w4 ⟨r, rfl, hG, hb⟩
  have H4 := Lib.hid (H3.out.1.below hb)
  have HD := Lib.hid (result_any x r w4 hG.1 hG.2)
  clear hb H3 hG
  go_wp2_with fail
  refine HD.out.mono ?_
  rintro e w5 ⟨B3, d3, B4, d4, B5, d5, rfl, hM, hb⟩
  have hs := H4.out.below hb
  have hx := hs.get 3 rfl
  have hs3 : w.heap.size + 1 + 1 + 1 < w4.heap.size := lt_of_heap (H4.out.get 3 rfl)
  have H5 := Lib.hid (And.intro hs.1 (And.intro hM hs3))
  clear hb H4 hM hs3 hs
  have y := sev_cells hx
  go_wp2_with fail
  have hz := sev_set hx (.int .i64 x.f0) (.int .i64 x.f1) (.string x.f2) (.slice B3 x.f3.length d3) (.slice B4 x.f4.length d4) (.slice B5 x.f5.length d5) (.int .i64 0)
  have hg := sev_grown w5 (w.heap.size + 1 + 1 + 1) (.int .i64 x.f0) (.int .i64 x.f1) (.string x.f2) (.slice B3 x.f3.length d3) (.slice B4 x.f4.length d4) (.slice B5 x.f5.length d5) (.int .i64 0)
  obtain ⟨W2, hW⟩ : ∃ W2, W2 = ((((((w5.setCell ⟨w.heap.size + 1 + 1 + 1, 0, none⟩ (.int .i64 x.f0)).setCell ⟨w.heap.size + 1 + 1 + 1, 1, none⟩ (.int .i64 x.f1)).setCell ⟨w.heap.size + 1 + 1 + 1, 2, none⟩ (.string x.f2)).setCell ⟨w.heap.size + 1 + 1 + 1, 3, none⟩ (.slice B3 x.f3.length d3)).setCell ⟨w.heap.size + 1 + 1 + 1, 4, none⟩ (.slice B4 x.f4.length d4)).setCell ⟨w.heap.size + 1 + 1 + 1, 5, none⟩ (.slice B5 x.f5.length d5)).setCell ⟨w.heap.size + 1 + 1 + 1, 6, none⟩ (.int .i64 0) := ⟨_, rfl⟩
  rw [← hW] at hz hg ⊢
  clear hW y hx
  obtain ⟨q0, q1, q2, q3, q4, q5, q6, _⟩ := sev_cells hz
  refine bodyPost_ret (v := .agg #[.int .i64 x.f0, .int .i64 x.f1, .string x.f2, .slice B3 x.f3.length d3, .slice B4 x.f4.length d4, .slice B5 x.f5.length d5, .int .i64 0]) (by simp [results, Tryz.results25, go_sem, q0, q1, q2, q3, q4, q5, q6]) rfl ?_
  have hs3 := H5.out.2.2
  have hM4 := Kd.M_grown H5.out.2.1 hg (fun k hk e => by cases e; have : w4.heap.size ≤ w.heap.size + 1 + 1 + 1 := hk; omega)
  exact ⟨B3, d3, B4, d4, B5, d5, rfl, k26.M_mono (fun k hk => by show w.heap.size ≤ k; have : w4.heap.size ≤ k := hk; omega) (k26.M_lower (by omega) hM4), H5.out.1.grown hg H5.out.1.size (fun k hk => by cases hk; omega)⟩
end Go.Proofs.YtcoahpcjhhnkkaaGreatDoor.NumA
/-
Plain: what index and slice give of a list.
-/
set_option linter.unusedSimpArgs false
set_option linter.unusedVariables false
namespace Go.Proofs.YtcoahpcjhhnkkaaGreatDoor.NumA
open Go.RowKit Go.Lib Go.Proofs.YtcoahpcjhhnkkaaGreatDoor.ValA Go.Proofs.YtcoahpcjhhnkkaaGreatDoor.FloH Go.Proofs.YtcoahpcjhhnkkaaGreatDoorW.PrintWords Go.Proofs.YtcoahpcjhhnkkaaGreatDoorW.PrintLast Go.Proofs.YtcoahpcjhhnkkaaGreatDoorW.PrintMore Go.Proofs.YtcoahpcjhhnkkaaGreatDoor.PzzFits1
def nullV : V := ⟨0, 0, ⟨#[]⟩, [], [], []⟩
/-- An array of values. -/
def lV (l : List V) : V := ⟨5, 0, ⟨#[]⟩, l, [], []⟩
/-- clampIndex. -/
def clampI (i lo hi : Int) : Int := if (if i < 0 then i + hi else i) < lo then lo else if (if i < 0 then i + hi else i) < hi then (if i < 0 then i + hi else i) else hi
theorem clamp_in {i lo hi : Int} (h : lo ≤ hi) : lo ≤ clampI i lo hi ∧ clampI i lo hi ≤ hi := by unfold clampI; repeat' split <;> omega
/-- The element at an index, null if there is none. -/
def ixV (l : List V) (i : Int) : V := if (if i < 0 then i + l.length else i) < 0 then nullV else l.getD (if i < 0 then i + l.length else i).toNat nullV
theorem at_rev (l : List V) (i : Int) : ixV l.reverse (-1 - i) = ixV l i := by
  unfold ixV
  rw [List.length_reverse]
  by_cases h : i < 0
  · rw [if_neg (show ¬ (-1 - i < 0) by omega), if_pos h, if_neg (by omega)]
    by_cases h2 : i + (l.length : Int) < 0
    · rw [if_pos h2, List.getD_eq_getElem?_getD, List.getElem?_eq_none (by simp; omega)]
      rfl
    · rw [if_neg h2, List.getD_eq_getElem?_getD, List.getD_eq_getElem?_getD, List.getElem?_reverse (by omega)]
      congr 2
      omega
  · rw [if_pos (show -1 - i < 0 by omega), if_neg h, if_neg h]
    by_cases h2 : -1 - i + (l.length : Int) < 0
    · rw [if_pos h2, List.getD_eq_getElem?_getD, List.getElem?_eq_none (by omega)]
      rfl
    · rw [if_neg h2, List.getD_eq_getElem?_getD, List.getD_eq_getElem?_getD, List.getElem?_reverse (by omega)]
      congr 2
      omega
/-- A slice's ends. -/
def loI (s : Option Int) (n : Nat) : Nat := match s with | none => 0 | some i => (clampI i 0 n).toNat
def hiI (s e : Option Int) (n : Nat) : Nat := match e with | none => n | some i => (clampI i (loI s n) n).toNat
def sliceL (l : List V) (s e : Option Int) : List V := (l.drop (loI s l.length)).take (hiI s e l.length - loI s l.length)
theorem lo_le (s : Option Int) (n : Nat) : loI s n ≤ n := by
  cases s with
  | none => exact Nat.zero_le _
  | some i => have := @clamp_in i 0 n (by omega); show (clampI i 0 n).toNat ≤ n; omega
theorem hi_in (s e : Option Int) (n : Nat) : loI s n ≤ hiI s e n ∧ hiI s e n ≤ n := by
  have h := lo_le s n
  cases e with
  | none => exact ⟨h, Nat.le_refl _⟩
  | some i => have := @clamp_in i (loI s n) n (by omega); show loI s n ≤ (clampI i (loI s n) n).toNat ∧ (clampI i (loI s n) n).toNat ≤ n; omega
theorem slice_len (l : List V) (s e : Option Int) : (sliceL l s e).length = hiI s e l.length - loI s l.length := by
  have := hi_in s e l.length
  unfold sliceL
  rw [List.length_take, List.length_drop]
  omega
theorem slice_at (l : List V) (s e : Option Int) {i : Nat} (hi : i < (sliceL l s e).length) : (sliceL l s e)[i]? = l[loI s l.length + i]? := by
  rw [slice_len] at hi
  unfold sliceL
  rw [List.getElem?_take_of_lt hi, List.getElem?_drop]
theorem slice_all (l : List V) : sliceL l none none = l := by
  show (l.drop 0).take (l.length - 0) = l
  simp
theorem slice_mem {l : List V} {s e : Option Int} {y : V} (h : y ∈ sliceL l s e) : y ∈ l := List.mem_of_mem_drop (List.mem_of_mem_take h)
/-- An index of the rest. -/
theorem at_rest (l : List V) {f i : Int} (hf : 0 ≤ f) (hi : 0 ≤ i) : ixV (sliceL l (some f) none) i = ixV l (f + i) := by
  have h0 : loI (some f) l.length = min f.toNat l.length := by
    show (clampI f 0 l.length).toNat = _
    unfold clampI
    rw [if_neg (show ¬ f < 0 by omega), if_neg (by omega)]
    split <;> omega
  unfold ixV
  rw [if_neg (show ¬ i < 0 by omega), if_neg (show ¬ i < 0 by omega), if_neg (show ¬ f + i < 0 by omega), if_neg (show ¬ f + i < 0 by omega)]
  have e : sliceL l (some f) none = l.drop (loI (some f) l.length) := by
    show (l.drop (loI (some f) l.length)).take (l.length - loI (some f) l.length) = _
    rw [List.take_of_length_le (by rw [List.length_drop]; omega)]
  rw [e, h0, List.getD_eq_getElem?_getD, List.getD_eq_getElem?_getD, List.getElem?_drop]
  by_cases c : f.toNat ≤ l.length
  · rw [Nat.min_eq_left c]
    congr 2
    omega
  · rw [Nat.min_eq_right (by omega), List.getElem?_eq_none (by omega), List.getElem?_eq_none (by omega)]
/-- A slice of the reversed list. -/
theorem slice_rev (l : List V) {i k : Int} (h0 : 0 ≤ i) (h1 : i ≤ k) (h2 : k ≤ l.length) : sliceL l.reverse (some i) (some k) = (sliceL l (some (l.length - k)) (some (l.length - i))).reverse := by
  have c : ∀ j lo : Int, 0 ≤ j → lo ≤ j → j ≤ l.length → clampI j lo l.length = j := fun j lo a b d => by
    unfold clampI
    rw [if_neg (show ¬ j < 0 by omega), if_neg (by omega)]
    split <;> omega
  have a1 : loI (some i) l.length = i.toNat := by show (clampI i 0 l.length).toNat = _; rw [c i 0 h0 h0 (by omega)]
  have a2 : hiI (some i) (some k) l.length = k.toNat := by show (clampI k (loI (some i) l.length) l.length).toNat = _; rw [a1, c k _ (by omega) (by omega) h2]
  have b1 : loI (some ((l.length : Int) - k)) l.length = ((l.length : Int) - k).toNat := by show (clampI _ 0 l.length).toNat = _; rw [c _ 0 (by omega) (by omega) (by omega)]
  have b2 : hiI (some ((l.length : Int) - k)) (some ((l.length : Int) - i)) l.length = ((l.length : Int) - i).toNat := by show (clampI _ (loI _ l.length) l.length).toNat = _; rw [b1, c _ _ (by omega) (by omega) (by omega)]
  unfold sliceL
  rw [List.length_reverse, a1, a2, b1, b2]
  apply List.ext_getElem?
  intro j
  by_cases hj : j < k.toNat - i.toNat
  · rw [List.getElem?_take_of_lt hj, List.getElem?_drop, List.getElem?_reverse (by omega), List.getElem?_reverse (by rw [List.length_take, List.length_drop]; omega), List.getElem?_take_of_lt (by rw [List.length_take, List.length_drop]; omega), List.getElem?_drop]
    congr 1
    rw [List.length_take, List.length_drop]
    omega
  · rw [List.getElem?_eq_none (by rw [List.length_take]; omega), List.getElem?_eq_none (by rw [List.length_reverse, List.length_take, List.length_drop]; omega)]
end Go.Proofs.YtcoahpcjhhnkkaaGreatDoor.NumA
/-
impl.fromGo at a part of an array.
-/
set_option linter.unusedSimpArgs false
set_option linter.unusedVariables false
namespace Go.Proofs.YtcoahpcjhhnkkaaGreatDoor.NumA
open Go.RowKit Go.Lib Go.Proofs.YtcoahpcjhhnkkaaGreatDoor.ValA Go.Proofs.YtcoahpcjhhnkkaaGreatDoor.FloH Go.Proofs.YtcoahpcjhhnkkaaGreatDoorW.PrintWords Go.Proofs.YtcoahpcjhhnkkaaGreatDoorW.PrintLast Go.Proofs.YtcoahpcjhhnkkaaGreatDoorW.PrintMore Go.Proofs.YtcoahpcjhhnkkaaGreatDoor.PzzFits1
set_option maxRecDepth 100000 in
set_option maxHeartbeats 4000000 in
theorem listFromGo_off (w : World) (b o n c0 : Nat) (l : List V) (vs : List Value) (hl : l.length = n) (hn : n ≤ 1000000) (hvs : o + n ≤ vs.length) (hb : w.heap[b]? = some (.cells vs.toArray 20 (0, 0)))
    (IH : ∀ (j : Nat) (v : Value), j < n → vs[o + j]? = some v → ∀ w', Below w.heap.size w w' → FromGo (rd_T26 l j) v w') :
    Calls Tryz.prog 104 #[.slice (some ⟨b, o, none⟩) n c0] w fun e w' => ∃ cs, e = .returned (.tuple #[.agg cs.toArray, .bool true]) ∧ k26.M w' w.heap.size (fun k => w.heap.size ≤ k) ⟨5, 0, ⟨#[]⟩, l, [], []⟩ cs ∧ Below w.heap.size w w' := by
  have HI := Lib.hid (fun j v hj h w' hw => IH j v hj h w' hw)
  have HBV := Lib.hid (And.intro hb hvs)
  have HN := Lib.hid (And.intro hn hl)
  clear IH hb hvs hl
  go_enter Tryz.func104, Tryz.ntmps104
  go_wp2_with fail
  obtain ⟨W0, hW0⟩ : ∃ W0, W0 = (w.alloc (.cells #[.int .i64 0, .int .i64 0, .string ⟨#[]⟩, .slice none 0 0, .slice none 0 0, .slice none 0 0] 26)).alloc (.cells #[.int .i64 5, .int .i64 0, .string ⟨#[]⟩, .slice none 0 0, .slice none 0 0, .slice none 0 0] 26) := ⟨_, rfl⟩
  have H0 := Lib.hid (show RFr w l n n (.int .i64 ((0 : Nat) : Int)) W0 by
    rw [hW0]
    have h2 := SPL.two w #[.int .i64 0, .int .i64 0, .string ⟨#[]⟩, .slice none 0 0, .slice none 0 0, .slice none 0 0] #[.int .i64 5, .int .i64 0, .string ⟨#[]⟩, .slice none 0 0, .slice none 0 0, .slice none 0 0] 26 26
    exact ⟨0, none, 0, 0, rfl, by omega, h2.1, h2.get 0 rfl, h2.get 1 rfl, by rw [List.take_zero]; exact Kd.R_nil _ _ _ _ _⟩)
  rw [← hW0]
  clear hW0
  go_loopg [12] n (fun k i wr => RFr w l n k i wr)
  case atStart => exact H0.out
  case round =>
    clear H0
    obtain ⟨j, A, m, c, rfl, hkj, hbr, hR0, hO, hRR⟩ := hrel
    have HR := Lib.hid (And.intro hbr (And.intro hR0 (And.intro hO hRR)))
    have HK := Lib.hid hkj
    by_cases hlt : j < n
    · obtain ⟨v, hv⟩ : ∃ v, vs[o + j]? = some v := ⟨_, List.getElem?_eq_getElem (by have := HBV.out.2; omega)⟩
      have HL := Lib.hid (HI.out j v hlt hv wr hbr)
      have x0 : wr.cell? ⟨b, o + j, none⟩ = some v := by
        have h := list_cell ((hbr.block _ (lt_of_heap HBV.out.1)).trans HBV.out.1) (by have := HBV.out.2; omega : o + j < vs.length)
        rw [List.getElem?_eq_getElem (by have := HBV.out.2; omega)] at hv
        rw [h.1, Option.some.inj hv]
      have hlt2 : (j : Int) < (n : Int) := by omega
      have HLT := Lib.hid hlt
      clear hbr hR0 hO hRR hkj hv hlt hn
      unfold FromGo at HL
      go_wp2_with fail
      refine HL.out.mono ?_
      rintro e w4 ⟨cs, rfl, hM, hb4⟩
      obtain ⟨v3, v4, v5, rfl, g3, g4, g5⟩ := k26_openM hM
      obtain ⟨B3, d3, rfl⟩ := Kd.R_slice g3
      obtain ⟨B4, d4, rfl⟩ := Kd.R_slice g4
      obtain ⟨B5, d5, rfl⟩ := Kd.R_slice g5
      have hO4 := (hb4.block _ (lt_of_heap HR.out.2.2.1)).trans HR.out.2.2.1
      have hR4 := (hb4.block _ (lt_of_heap HR.out.2.1)).trans HR.out.2.1
      have hlt4 := lt_of_heap HR.out.2.2.1
      obtain ⟨A1, m1, c1, w6, hrun, hR6, hkeep, hb6⟩ := fr_append HN.out.2 HN.out.1 HLT.out HR.out.1 hlt4 HR.out.2.2.2 hb4 hM (.cells #[.int .i64 (rd_T26 l j).f0, .int .i64 (rd_T26 l j).f1, .string (rd_T26 l j).f2, .slice B3 (rd_T26 l j).f3.length d3, .slice B4 (rd_T26 l j).f4.length d4, .slice B5 (rd_T26 l j).f5.length d5] 26)
      have y : ∀ o, (w4.alloc o).cell? ⟨w.heap.size + 1, 3, none⟩ = some (.slice A m c) := fun o => by
        have h := (Below.heap_alloc w4 o (w.heap.size + 1) (lt_of_heap hO4)).trans hO4
        exact (six_cells h).2.2.2.1
      have hO6 := (hkeep (w.heap.size + 1) (by omega) hlt4).trans hO4
      have hR6' := (hkeep w.heap.size (by omega) (lt_of_heap HR.out.2.1)).trans hR4
      have q0 := (six_cells hO6).2.2.2.1
      have q1 := (six_cells hO6).2.2.2.2.2.2.2.2.2.1
      have H4 := Lib.hid (show RFr w l n (gk - 1) (.int .i64 ((j + 1 : Nat) : Int)) (w6.setCell ⟨w.heap.size + 1, 3, none⟩ (.slice A1 m1 c1)) by
        have hgr : w6.grownBy (w6.setCell ⟨w.heap.size + 1, 3, none⟩ (.slice A1 m1 c1)) (some (w.heap.size + 1)) := grown_set (World.grownBy.refl w6 _) 3 _
        refine ⟨j + 1, A1, m1, c1, rfl, by have := HK.out; have := HLT.out; omega, hb6.grown hgr hb6.size (fun k hk => by cases hk; omega), (hgr.block _ (lt_of_heap hR6') (by simp)).trans hR6', ?_, Kd.R_far hR6 (fun k hk => by show k ≠ w.heap.size + 1; omega) _⟩
        rw [heap_set hO6 3 _]
        rfl)
      clear hM g3 g4 g5 hO4 hR4 hlt4 hR6 hkeep hb6 hO6 hR6' hb4 x0
      have HRUN := Lib.hid hrun
      clear hrun
      go_wp2_with ((with_reducible refine gate_builtin (b := .append) (xs := #[.tmp 25, .tmp 27]) rfl ?_); at_builtin; refine wp_append_run rfl (.tmp 25) (.tmp 27) 22 rfl _ _ rfl rfl HRUN.out ?_)
      go_roundg (gk - 1)
      case measure => have := HK.out; have := HLT.out; omega
      case rel =>
        have hw : wrap64 ((j : Int) + 1) = ((j + 1 : Nat) : Int) := by have := HN.out.1; have := HLT.out; unfold wrap64; omega
        rw [hw]
        exact H4.out
    · have hlt2 : ¬ (j : Int) < (n : Int) := by omega
      have hlt3 : decide ((j : Int) < (n : Int)) = false := decide_eq_false hlt2
      have hlt4 : decide (j < n) = false := decide_eq_false hlt
      have HNL := Lib.hid hlt
      have yO := six_cells hO
      have yR := six_cells hR0
      clear hbr hR0 hO hRR hkj hn hlt hlt2
      go_wp2_with fail
      obtain ⟨W9, hW9⟩ : ∃ W9, W9 = (((((wr.setCell ⟨w.heap.size, 0, none⟩ (.int .i64 5)).setCell ⟨w.heap.size, 1, none⟩ (.int .i64 0)).setCell ⟨w.heap.size, 2, none⟩ (.string ⟨#[]⟩)).setCell ⟨w.heap.size, 3, none⟩ (.slice A m c)).setCell ⟨w.heap.size, 4, none⟩ (.slice none 0 0)).setCell ⟨w.heap.size, 5, none⟩ (.slice none 0 0) := ⟨_, rfl⟩
      have hz : W9.heap[w.heap.size]? = some (.cells #[.int .i64 5, .int .i64 0, .string ⟨#[]⟩, .slice A m c, .slice none 0 0, .slice none 0 0] 26 (0, 0)) := by rw [hW9]; exact six_set HR.out.2.1 _ _ _ _ _ _
      have hg : wr.grownBy W9 (some w.heap.size) := by rw [hW9]; exact six_grown _ _ _ _ _ _ _ _
      rw [← hW9]
      clear hW9 yO yR
      obtain ⟨q0, q1, q2, q3, q4, q5, _⟩ := six_cells hz
      refine bodyPost_ret (v := .tuple #[.agg #[.int .i64 5, .int .i64 0, .string ⟨#[]⟩, .slice A m c, .slice none 0 0, .slice none 0 0], .bool true]) (by simp [results, Tryz.results104, go_sem, q0, q1, q2, q3, q4, q5]) rfl ?_
      have hj : j = n := by have := HK.out; have := HNL.out; omega
      have hR9 : k26.R 26 W9 w.heap.size (fun k => w.heap.size ≤ k) (.slice A m c) l := by
        have h := Kd.R_grown HR.out.2.2.2 hg (fun k hk e => by cases e; omega)
        rw [hj, List.take_of_length_le (by have := HN.out.2; omega)] at h
        exact Kd.R_mono (Kd.R_lower h (by omega)) (fun k hk => by show w.heap.size ≤ k; have : w.heap.size + 2 ≤ k := hk; omega)
      exact ⟨[.int .i64 5, .int .i64 0, .string ⟨#[]⟩, .slice A m c, .slice none 0 0, .slice none 0 0], rfl, k26_mkM W9 w.heap.size _ ⟨5, 0, ⟨#[]⟩, l, [], []⟩ hR9 (Kd.R_nil _ _ _ _ _) (Kd.R_nil _ _ _ _ _), HR.out.1.grown hg HR.out.1.size (fun k hk => by cases hk; exact Nat.le_refl _)⟩
/-- The tail of fromGo: what a part has given is handed on. -/
theorem fromGo_of_slice (w : World) (x : V) (A : Option Addr) (n c0 : Nat) (H : ∀ w1, Below w.heap.size w w1 → Calls Tryz.prog 104 #[.slice A n c0] w1 fun e w' => ∃ cs, e = .returned (.tuple #[.agg cs.toArray, .bool true]) ∧ k26.M w' w1.heap.size (fun k => w1.heap.size ≤ k) x cs ∧ Below w1.heap.size w1 w') : FromGo x (.iface 78 (.slice A n c0)) w := by
  have HH := Lib.hid (H (w.alloc (.cells #[.int .i64 0, .int .i64 0, .string ⟨#[]⟩, .slice none 0 0, .slice none 0 0, .slice none 0 0] 26)) ((Below.refl _ w).alloc (Nat.le_refl _) _))
  clear H
  have fT := fun w => qLT (.slice A n c0) w
  have fI := fun w => qLI (.slice A n c0) w
  have fF := fun w => qLF (.slice A n c0) w
  have fS := fun w => qLS (.slice A n c0) w
  have gL := fun w => qL (.slice A n c0) w
  unfold FromGo
  go_enter Tryz.func74, Tryz.ntmps74
  go_wp2_with fail
  refine HH.out.mono ?_
  rintro e w4 ⟨cs, rfl, hM, hb4⟩
  obtain ⟨v3, v4, v5, rfl, g3, g4, g5⟩ := k26_openM hM
  obtain ⟨B3, d3, rfl⟩ := Kd.R_slice g3
  obtain ⟨B4, d4, rfl⟩ := Kd.R_slice g4
  obtain ⟨B5, d5, rfl⟩ := Kd.R_slice g5
  have hx := (hb4.block _ (by rw [World.size_alloc]; omega)).trans (heap_alloc_new w (.cells #[.int .i64 0, .int .i64 0, .string ⟨#[]⟩, .slice none 0 0, .slice none 0 0, .slice none 0 0] 26))
  have H4 := Lib.hid (show k26.M w4 (w.heap.size + 1) (fun k => w.heap.size + 1 ≤ k) x _ ∧ Below w.heap.size w w4 from ⟨by rw [World.size_alloc] at hM; exact hM, ((Below.refl _ w).alloc (Nat.le_refl _) _).trans (hb4.mono (by rw [World.size_alloc]; omega))⟩)
  have y := six_cells hx
  clear hM hb4 g3 g4 g5
  go_wp2_with fail
  have hz := six_set hx (.int .i64 x.f0) (.int .i64 x.f1) (.string x.f2) (.slice B3 x.f3.length d3) (.slice B4 x.f4.length d4) (.slice B5 x.f5.length d5)
  have hg := six_grown w4 w.heap.size (.int .i64 x.f0) (.int .i64 x.f1) (.string x.f2) (.slice B3 x.f3.length d3) (.slice B4 x.f4.length d4) (.slice B5 x.f5.length d5)
  obtain ⟨W2, hW⟩ : ∃ W2, W2 = ((((((w4.setCell ⟨w.heap.size, 0, none⟩ (.int .i64 x.f0)).setCell ⟨w.heap.size, 1, none⟩ (.int .i64 x.f1)).setCell ⟨w.heap.size, 2, none⟩ (.string x.f2)).setCell ⟨w.heap.size, 3, none⟩ (.slice B3 x.f3.length d3)).setCell ⟨w.heap.size, 4, none⟩ (.slice B4 x.f4.length d4)).setCell ⟨w.heap.size, 5, none⟩ (.slice B5 x.f5.length d5)) := ⟨_, rfl⟩
  rw [← hW] at hz hg ⊢
  clear hW y hx
  obtain ⟨q0, q1, q2, q3, q4, q5, _⟩ := six_cells hz
  refine bodyPost_ret (v := .tuple #[.agg #[.int .i64 x.f0, .int .i64 x.f1, .string x.f2, .slice B3 x.f3.length d3, .slice B4 x.f4.length d4, .slice B5 x.f5.length d5], .bool true]) (by simp [results, Tryz.results74, go_sem, q0, q1, q2, q3, q4, q5]) rfl ?_
  have hM2 := Kd.M_grown H4.out.1 hg (fun k hk e => by cases e; have : w.heap.size + 1 ≤ w.heap.size := hk; omega)
  exact ⟨[.int .i64 x.f0, .int .i64 x.f1, .string x.f2, .slice B3 x.f3.length d3, .slice B4 x.f4.length d4, .slice B5 x.f5.length d5], rfl, k26.M_mono (fun k hk => by show w.heap.size ≤ k; have : w.heap.size + 1 ≤ k := hk; omega) (k26.M_lower (by omega) hM2), H4.out.2.grown hg H4.out.2.size (fun k hk => by cases hk; exact Nat.le_refl _)⟩
/-- A part of a slice of values is an array as fromGo looks at it. -/
theorem shows_part {w : World} {b o c0 k : Nat} {l : List V} {vs : List Value} (hn : l.length ≤ 1000000) (hvs : o + l.length ≤ vs.length) (hb : w.heap[b]? = some (.cells vs.toArray 20 (0, 0)))
    (hl : ∀ y ∈ l, WL y ∧ Sz y) (he : ∀ (i : Nat) (y : V) (v : Value), l[i]? = some y → vs[o + i]? = some v → G k w y v) : Shows (lV l) (.iface 78 (.slice (some ⟨b, o, none⟩) l.length c0)) w := by
  refine ⟨fun w => noErrL _ w, fun w1 hb1 => ?_⟩
  refine fromGo_of_slice w1 _ _ _ _ fun w2 hb2 => ?_
  have h2 := (hb2.block _ (lt_of_heap ((hb1.block _ (lt_of_heap hb)).trans hb))).trans ((hb1.block _ (lt_of_heap hb)).trans hb)
  refine listFromGo_off w2 b o l.length c0 l vs rfl hn hvs h2 fun j v hj hv w' hb' => ?_
  have hm := rd_mem l j hj
  exact fromGo_any _ _ (Nat.lt_succ_self _) (hl _ hm).1 (hl _ hm).2 v k w' ((he j _ v (rd_at l j hj) hv).keepB (hb1.trans ((hb2.trans (hb'.mono hb2.size)).mono hb1.size)))
end Go.Proofs.YtcoahpcjhhnkkaaGreatDoor.NumA
/-
gojq's reverse, index and slice at arrays.
-/
set_option linter.unusedSimpArgs false
set_option linter.unusedVariables false
namespace Go.Proofs.YtcoahpcjhhnkkaaGreatDoor.NumA
open Go.RowKit Go.Lib Go.Proofs.YtcoahpcjhhnkkaaGreatDoor.ValA Go.Proofs.YtcoahpcjhhnkkaaGreatDoor.FloH Go.Proofs.YtcoahpcjhhnkkaaGreatDoorW.PrintWords Go.Proofs.YtcoahpcjhhnkkaaGreatDoorW.PrintLast Go.Proofs.YtcoahpcjhhnkkaaGreatDoorW.PrintMore Go.Proofs.YtcoahpcjhhnkkaaGreatDoor.PzzFits1
theorem wl_lV {l : List V} (hn : l.length ≤ 1000000) (h : ∀ y ∈ l, WL y) : WL (lV l) :=
  .mk _ (by simp [lV, c1B]) (show c2B 0 = true by decide) (by simpa [lV] using hn) (by simp [lV]) (fun i _ h => by simp [lV] at h) h (fun y hy => by cases hy)
theorem sz_lV {l : List V} (h : ∀ y ∈ l, Sz y) : Sz (lV l) :=
  .mk _ (show (0 : Nat) ≤ 9223372036854775807 by omega) (fun s hs => by cases hs) h (fun y hy => by cases hy)
def RV (w : World) (l : List Value) (n k : Nat) (i : Value) (wr : World) : Prop :=
  ∃ (j : Nat), i = .int .i64 j ∧ k + j = n ∧ Below w.heap.size w wr ∧ wr.heap[w.heap.size]? = some (.cells (List.replicate (n - j) Value.nilIface ++ (l.take j).reverse).toArray 20 (0, 0))
theorem rv_step {w w4 : World} {l : List Value} {n j : Nat} (hl : l.length = n) (hlt : j < n) (hb : Below w.heap.size w w4) (hbl : w4.heap[w.heap.size]? = some (.cells (List.replicate (n - j) Value.nilIface ++ (l.take j).reverse).toArray 20 (0, 0))) {v : Value} (hv : l[j]? = some v) :
    ∀ k, k + j = n → RV w l n (k - 1) (.int .i64 ((j + 1 : Nat) : Int)) (w4.setCell ⟨w.heap.size, n - j - 1, none⟩ v) := by
  intro k hk
  refine ⟨j + 1, rfl, by omega, hb.grown (grown_set (World.grownBy.refl w4 _) _ v) hb.size (fun k hk => by cases hk; exact Nat.le_refl _), ?_⟩
  rw [heap_set hbl _ v]
  obtain ⟨m, hm⟩ : ∃ m, n - j = m + 1 := ⟨n - j - 1, by omega⟩
  have e : (List.replicate (n - j) Value.nilIface ++ (l.take j).reverse).set (n - j - 1) v = List.replicate (n - (j + 1)) Value.nilIface ++ (l.take (j + 1)).reverse := by
    rw [List.take_add_one, hv, hm, show n - (j + 1) = m by omega, List.replicate_succ', List.append_assoc, List.set_append_right _ _ (by simp)]
    simp
  simp only [List.setIfInBounds_toArray, e]
theorem clamp_any (i lo hi : Int) (h1 : -4611686018427387904 ≤ i) (h2 : i ≤ 4611686018427387904) (h3 : 0 ≤ hi) (h4 : hi ≤ 4611686018427387904) (w : World) :
    Calls Tryz.prog 157 #[.int .i64 i, .int .i64 lo, .int .i64 hi] w fun e w' => e = .returned (.int .i64 (clampI i lo hi)) ∧ Below w.heap.size w w' := by
  obtain ⟨j, hj⟩ : ∃ j, j = (if i < 0 then i + hi else i) := ⟨_, rfl⟩
  have e : clampI i lo hi = if j < lo then lo else if j < hi then j else hi := by rw [hj]; rfl
  rw [e]
  have fin : ∀ w', Below w'.heap.size w' w' := fun w' => Below.refl _ _
  by_cases c1 : i < 0
  · have hw : wrap64 (i + hi) = j := by rw [hj, if_pos c1]; unfold wrap64; omega
    have d1 : decide (i < 0) = true := decide_eq_true c1
    clear hj e c1 h1 h2 h3 h4
    by_cases c2 : j < lo
    · rw [if_pos c2]
      have d2 : decide (j < lo) = true := decide_eq_true c2
      clear c2
      go_enter Tryz.func157, Tryz.ntmps157
      go_wp2_with fail
      go_ret
      exact ⟨by first | rfl | exact congrArg (fun z => Ending.returned (Value.int IntKind.i64 z)) hw, Below.refl _ _⟩
    · rw [if_neg c2]
      have d2 : decide (j < lo) = false := decide_eq_false c2
      clear c2
      by_cases c3 : j < hi
      · rw [if_pos c3]
        have d3 : decide (j < hi) = true := decide_eq_true c3
        clear c3
        go_enter Tryz.func157, Tryz.ntmps157
        go_wp2_with fail
        go_ret
        exact ⟨by first | rfl | exact congrArg (fun z => Ending.returned (Value.int IntKind.i64 z)) hw, Below.refl _ _⟩
      · rw [if_neg c3]
        have d3 : decide (j < hi) = false := decide_eq_false c3
        clear c3
        go_enter Tryz.func157, Tryz.ntmps157
        go_wp2_with fail
        go_ret
        exact ⟨by first | rfl | exact congrArg (fun z => Ending.returned (Value.int IntKind.i64 z)) hw, Below.refl _ _⟩
  · obtain rfl : j = i := by rw [hj, if_neg c1]
    have d1 : decide (j < 0) = false := decide_eq_false c1
    clear hj e c1 h1 h2 h3 h4
    by_cases c2 : j < lo
    · rw [if_pos c2]
      have d2 : decide (j < lo) = true := decide_eq_true c2
      clear c2
      go_enter Tryz.func157, Tryz.ntmps157
      go_wp2_with fail
      go_ret
      exact ⟨rfl, Below.refl _ _⟩
    · rw [if_neg c2]
      have d2 : decide (j < lo) = false := decide_eq_false c2
      clear c2
      by_cases c3 : j < hi
      · rw [if_pos c3]
        have d3 : decide (j < hi) = true := decide_eq_true c3
        clear c3
        go_enter Tryz.func157, Tryz.ntmps157
        go_wp2_with fail
        go_ret
        exact ⟨rfl, Below.refl _ _⟩
      · rw [if_neg c3]
        have d3 : decide (j < hi) = false := decide_eq_false c3
        clear c3
        go_enter Tryz.func157, Tryz.ntmps157
        go_wp2_with fail
        go_ret
        exact ⟨rfl, Below.refl _ _⟩
def atG (l : List Value) (i : Int) : Value := if (if i < 0 then i + l.length else i) < 0 then .nilIface else l.getD (if i < 0 then i + l.length else i).toNat .nilIface
end Go.Proofs.YtcoahpcjhhnkkaaGreatDoor.NumA
