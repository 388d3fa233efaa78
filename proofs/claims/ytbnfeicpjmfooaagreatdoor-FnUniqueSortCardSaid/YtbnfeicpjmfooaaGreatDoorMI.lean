/-
Parts of the proof, one behind the other: AddA, AddB, SprA.
-/
import Derived.Test.YtbnfeicpjmfooaaGreatDoorMH
import Derived.Test.YtbnfeicpjmfooaaGreatDoorMG
import Derived.Test.YtbnfeicpjmfooaaGreatDoorMD
/-
Sums where one side is null; impl.result, impl.OpAdd at any values.
-/
set_option linter.unusedSimpArgs false
set_option linter.unusedVariables false
namespace Go.Proofs.YtbnfeicpjmfooaaGreatDoor.NumA
open Go.RowKit Go.Lib Go.Proofs.YtbnfeicpjmfooaaGreatDoor.ValA Go.Proofs.YtbnfeicpjmfooaaGreatDoor.FloH Go.Proofs.YtbnfeicpjmfooaaGreatDoorW.PrintWords Go.Proofs.YtbnfeicpjmfooaaGreatDoorW.PrintLast Go.Proofs.YtbnfeicpjmfooaaGreatDoorW.PrintMore Go.Proofs.YtbnfeicpjmfooaaGreatDoor.PzzFits1
/-- The call gives v. -/
def Gv (v : Value) (w : World) (e : Ending) (w' : World) : Prop := e = .returned v ∧ Below w.heap.size w w'
/-- The call gives x as a result, in memory of its own. -/
def ResIs (x : V) (w : World) (e : Ending) (w' : World) : Prop := ∃ (B3 : Option Addr) (d3 : Nat) (B4 : Option Addr) (d4 : Nat) (B5 : Option Addr) (d5 : Nat), e = .returned (.agg #[.int .i64 x.f0, .int .i64 x.f1, .string x.f2, .slice B3 x.f3.length d3, .slice B4 x.f4.length d4, .slice B5 x.f5.length d5, .int .i64 0]) ∧ k26.M w' w.heap.size (fun k => w.heap.size ≤ k) x [.int .i64 x.f0, .int .i64 x.f1, .string x.f2, .slice B3 x.f3.length d3, .slice B4 x.f4.length d4, .slice B5 x.f5.length d5] ∧ Below w.heap.size w w'
set_option maxHeartbeats 1000000 in
theorem result_any (x : V) (v : Value) (w : World) (HN : ∀ w, (Instr.typeAssert v 20 94 true).run Tryz.prog w = .ok (.tuple #[.nilIface, .bool false]) w) (HG : ∀ w1, Below w.heap.size w w1 → FromGo x v w1) :
    Calls Tryz.prog 50 #[v] w (ResIs x w) := by
  have a1 := HN
  obtain ⟨w0, hw0⟩ : ∃ w0, w0 = w.alloc (.cells #[.int .i64 0, .int .i64 0, .string ⟨#[]⟩, .slice none 0 0, .slice none 0 0, .slice none 0 0, .int .i64 0] 30) := ⟨_, rfl⟩
  have hx : w0.heap[w.heap.size]? = some (.cells #[.int .i64 0, .int .i64 0, .string ⟨#[]⟩, .slice none 0 0, .slice none 0 0, .slice none 0 0, .int .i64 0] 30 (0, 0)) := by rw [hw0]; exact heap_alloc_new w _
  have hb : Below w.heap.size w w0 := by rw [hw0]; exact (Below.refl _ w).alloc (Nat.le_refl _) _
  have HT := Lib.hid (HG w0 hb)
  have H0 := Lib.hid (And.intro hx hb)
  clear HG hx hb
  unfold FromGo at HT
  go_enter Tryz.func50, Tryz.ntmps50
  go_wp2_with fail
  rw [← hw0]
  clear hw0
  refine HT.out.mono ?_
  rintro e w1 ⟨cs, rfl, hM, hb⟩
  obtain ⟨v3, v4, v5, rfl, g3, g4, g5⟩ := k26_openM hM
  obtain ⟨B3, d3, rfl⟩ := Kd.R_slice g3
  obtain ⟨B4, d4, rfl⟩ := Kd.R_slice g4
  obtain ⟨B5, d5, rfl⟩ := Kd.R_slice g5
  have hx : w1.heap[w.heap.size]? = some (.cells #[.int .i64 0, .int .i64 0, .string ⟨#[]⟩, .slice none 0 0, .slice none 0 0, .slice none 0 0, .int .i64 0] 30 (0, 0)) := by rw [hb.block _ (lt_of_heap H0.out.1)]; exact H0.out.1
  have hlt : w.heap.size < w0.heap.size := lt_of_heap H0.out.1
  have H1 := Lib.hid (And.intro (H0.out.2.trans (hb.mono H0.out.2.size)) (And.intro hM hlt))
  clear hb hM g3 g4 g5 hlt
  have y := sev_cells hx
  have hlt1 : w.heap.size < w1.heap.size := lt_of_heap hx
  go_wp2_with fail
  have hz := sev_set hx (.int .i64 x.f0) (.int .i64 x.f1) (.string x.f2) (.slice B3 x.f3.length d3) (.slice B4 x.f4.length d4) (.slice B5 x.f5.length d5) (.int .i64 0)
  have hg := sev_grown w1 w.heap.size (.int .i64 x.f0) (.int .i64 x.f1) (.string x.f2) (.slice B3 x.f3.length d3) (.slice B4 x.f4.length d4) (.slice B5 x.f5.length d5) (.int .i64 0)
  obtain ⟨W2, hW⟩ : ∃ W2, W2 = ((((((w1.setCell ⟨w.heap.size, 0, none⟩ (.int .i64 x.f0)).setCell ⟨w.heap.size, 1, none⟩ (.int .i64 x.f1)).setCell ⟨w.heap.size, 2, none⟩ (.string x.f2)).setCell ⟨w.heap.size, 3, none⟩ (.slice B3 x.f3.length d3)).setCell ⟨w.heap.size, 4, none⟩ (.slice B4 x.f4.length d4)).setCell ⟨w.heap.size, 5, none⟩ (.slice B5 x.f5.length d5)).setCell ⟨w.heap.size, 6, none⟩ (.int .i64 0) := ⟨_, rfl⟩
  rw [← hW] at hz hg ⊢
  obtain ⟨W3, hW3⟩ : ∃ W3, W3 = W2.alloc (.cells #[.int .i64 x.f0, .int .i64 x.f1, .string x.f2, .slice B3 x.f3.length d3, .slice B4 x.f4.length d4, .slice B5 x.f5.length d5] 26) := ⟨_, rfl⟩
  have hz3 : W3.heap[w.heap.size]? = some (.cells #[.int .i64 x.f0, .int .i64 x.f1, .string x.f2, .slice B3 x.f3.length d3, .slice B4 x.f4.length d4, .slice B5 x.f5.length d5, .int .i64 0] 30 (0, 0)) := by rw [hW3]; exact ((World.grownBy_alloc W2 _ none).block _ (lt_of_heap hz) (by simp)).trans hz
  have hb3 : Below w.heap.size w W3 := by rw [hW3]; exact (H1.out.1.grown hg H1.out.1.size (fun k hk => by cases hk; exact Nat.le_refl _)).alloc (Nat.le_trans H1.out.1.size hg.size) _
  have hM3 : k26.M W3 w.heap.size (fun k => w.heap.size ≤ k) x [.int .i64 x.f0, .int .i64 x.f1, .string x.f2, .slice B3 x.f3.length d3, .slice B4 x.f4.length d4, .slice B5 x.f5.length d5] := by
    have hlt := H1.out.2.2
    have h := Kd.M_grown H1.out.2.1 hg (fun k hk e => by cases e; have : w0.heap.size ≤ w.heap.size := hk; omega)
    have h2 := k26.M_mono (ok' := fun k => w.heap.size ≤ k) (fun k hk => by show w.heap.size ≤ k; have : w0.heap.size ≤ k := hk; omega) (k26.M_lower (base' := w.heap.size) (by omega) h)
    rw [hW3]
    exact Kd.M_below h2 ((Below.refl _ W2).alloc (Nat.le_refl _) _)
  rw [← hW3]
  clear hW hW3 hz hg
  obtain ⟨q0, q1, q2, q3, q4, q5, q6, _⟩ := sev_cells hz3
  refine bodyPost_ret (v := .agg #[.int .i64 x.f0, .int .i64 x.f1, .string x.f2, .slice B3 x.f3.length d3, .slice B4 x.f4.length d4, .slice B5 x.f5.length d5, .int .i64 0]) (by simp [results, Tryz.results50, go_sem, q0, q1, q2, q3, q4, q5, q6]) rfl ?_
  exact ⟨B3, d3, B4, d4, B5, d5, rfl, hM3, hb3⟩
end Go.Proofs.YtbnfeicpjmfooaaGreatDoor.NumA
/-
spec.Same, laws.told, laws.given at any two values.
-/
set_option linter.unusedSimpArgs false
set_option linter.unusedVariables false
namespace Go.Proofs.YtbnfeicpjmfooaaGreatDoor.NumA
open Go.RowKit Go.Lib Go.Proofs.YtbnfeicpjmfooaaGreatDoor.ValA Go.Proofs.YtbnfeicpjmfooaaGreatDoor.FloH Go.Proofs.YtbnfeicpjmfooaaGreatDoorW.PrintWords Go.Proofs.YtbnfeicpjmfooaaGreatDoorW.PrintLast Go.Proofs.YtbnfeicpjmfooaaGreatDoorW.PrintMore Go.Proofs.YtbnfeicpjmfooaaGreatDoor.PzzFits1
theorem same_at (kx ky h k : Int) (r r' : Rest) (c0 : Int) (w : World) (HC : ∀ w1, Below w.heap.size w w1 → Calls Tryz.prog 21 #[vl kx h r, vl ky k r'] w1 fun e w' => e = .returned (.int .i64 c0) ∧ Below w1.heap.size w1 w') :
    Calls Tryz.prog 22 #[vl kx h r, vl ky k r'] w fun e w' => e = .returned (.bool (c0 == 0)) ∧ Below w.heap.size w w' := by
  replace HC := Lib.hid HC
  obtain ⟨s, a, l, c, a1, l1, c1, a2, l2, c2⟩ := r
  obtain ⟨s', a', l', c', a1', l1', c1', a2', l2', c2'⟩ := r'
  simp only [vl] at HC ⊢
  go_enter Tryz.func22, Tryz.ntmps22
  go_wp2_with fail
  refine (HC.out _ (((Below.refl _ w).alloc (Nat.le_refl _) _).alloc (by simp) _)).mono ?_
  rintro e w1 ⟨rfl, hb⟩
  have HB := Lib.hid (Below.trans (((Below.refl _ w).alloc (Nat.le_refl _) (.cells #[.int .i64 kx, .int .i64 h, .string s, .slice a l c, .slice a1 l1 c1, .slice a2 l2 c2] 26)).alloc (by simp) (.cells #[.int .i64 ky, .int .i64 k, .string s', .slice a' l' c', .slice a1' l1' c1', .slice a2' l2' c2'] 26)) (hb.mono (by simp; omega)))
  clear hb
  go_wp2_with fail
  go_ret
  exact ⟨rfl, HB.out⟩
theorem told_at (kx ky h k : Int) (r r' : Rest) (t0 : Bool) (w : World) (HC : ∀ w1, Below w.heap.size w w1 → Calls Tryz.prog 22 #[vl kx h r, vl ky k r'] w1 fun e w' => e = .returned (.bool t0) ∧ Below w1.heap.size w1 w') :
    Calls Tryz.prog 28 #[rv kx h 0 r, vl ky k r', .int .i64 0] w fun e w' => e = .returned (.bool t0) ∧ Below w.heap.size w w' := by
  replace HC := Lib.hid HC
  obtain ⟨s, a, l, c, a1, l1, c1, a2, l2, c2⟩ := r
  obtain ⟨s', a', l', c', a1', l1', c1', a2', l2', c2'⟩ := r'
  simp only [vl, rv] at HC ⊢
  go_enter Tryz.func28, Tryz.ntmps28
  go_wp2_with fail
  refine (HC.out _ (((Below.refl _ w).alloc (Nat.le_refl _) _).alloc (by simp) _)).mono ?_
  rintro e w1 ⟨rfl, hb⟩
  have HB := Lib.hid (Below.trans (((Below.refl _ w).alloc (Nat.le_refl _) (.cells #[.int .i64 kx, .int .i64 h, .string s, .slice a l c, .slice a1 l1 c1, .slice a2 l2 c2, .int .i64 0] 30)).alloc (by simp) (.cells #[.int .i64 ky, .int .i64 k, .string s', .slice a' l' c', .slice a1' l1' c1', .slice a2' l2' c2'] 26)) (hb.mono (by simp; omega)))
  clear hb
  go_wp2_with fail
  go_ret
  exact ⟨rfl, HB.out⟩
theorem given_at (kx ky h k : Int) (r r' : Rest) (t0 : Bool) (w : World) (HC : ∀ w1, Below w.heap.size w w1 → Calls Tryz.prog 22 #[vl kx h r, vl ky k r'] w1 fun e w' => e = .returned (.bool t0) ∧ Below w1.heap.size w1 w') :
    Calls Tryz.prog 18 #[rv kx h 0 r, vl ky k r'] w fun e w' => e = .returned (.bool t0) ∧ Below w.heap.size w w' := by
  replace HC := Lib.hid (fun w1 (hb : Below w.heap.size w w1) => told_at kx ky h k r r' t0 w1 (fun w2 hb2 => HC w2 (hb.trans (hb2.mono hb.size))))
  obtain ⟨s, a, l, c, a1, l1, c1, a2, l2, c2⟩ := r
  obtain ⟨s', a', l', c', a1', l1', c1', a2', l2', c2'⟩ := r'
  simp only [vl, rv] at HC ⊢
  go_enter Tryz.func18, Tryz.ntmps18
  go_wp2_with fail
  refine (HC.out _ (((Below.refl _ w).alloc (Nat.le_refl _) _).alloc (by simp) _)).mono ?_
  rintro e w1 ⟨rfl, hb⟩
  have HB := Lib.hid (Below.trans (((Below.refl _ w).alloc (Nat.le_refl _) (.cells #[.int .i64 kx, .int .i64 h, .string s, .slice a l c, .slice a1 l1 c1, .slice a2 l2 c2, .int .i64 0] 30)).alloc (by simp) (.cells #[.int .i64 ky, .int .i64 k, .string s', .slice a' l' c', .slice a1' l1' c1', .slice a2' l2' c2'] 26)) (hb.mono (by simp; omega)))
  clear hb
  go_wp2_with fail
  go_ret
  exact ⟨rfl, HB.out⟩
/-- Same at any two values. -/
theorem same_any (w0 : World) (x y : V) (hx : WL x) (hy : WL y) {A3 A4 A5 B3 B4 B5 : Option Addr} {c3 c4 c5 d3 d4 d5 : Nat} (hKx : k26.K w0 x [.int .i64 x.f0, .int .i64 x.f1, .string x.f2, .slice A3 x.f3.length c3, .slice A4 x.f4.length c4, .slice A5 x.f5.length c5])
    (hKy : k26.K w0 y [.int .i64 y.f0, .int .i64 y.f1, .string y.f2, .slice B3 y.f3.length d3, .slice B4 y.f4.length d4, .slice B5 y.f5.length d5]) (w : World) (hb : Below w0.heap.size w0 w) :
    Calls Tryz.prog 22 #[vl x.f0 x.f1 ⟨x.f2, A3, x.f3.length, c3, A4, x.f4.length, c4, A5, x.f5.length, c5⟩, vl y.f0 y.f1 ⟨y.f2, B3, y.f3.length, d3, B4, y.f4.length, d4, B5, y.f5.length, d5⟩] w fun e w' => e = .returned (.bool (cmpV x y == 0)) ∧ Below w.heap.size w w' :=
  same_at x.f0 y.f0 x.f1 y.f1 _ _ (cmpV x y) w fun w1 hb1 => cmp_any w0 _ x (Nat.lt_succ_self _) hx y hy _ _ hKx hKy w1 (hb.trans (hb1.mono hb.size))
theorem given_any (w0 : World) (x y : V) (hx : WL x) (hy : WL y) {A3 A4 A5 B3 B4 B5 : Option Addr} {c3 c4 c5 d3 d4 d5 : Nat} (hKx : k26.K w0 x [.int .i64 x.f0, .int .i64 x.f1, .string x.f2, .slice A3 x.f3.length c3, .slice A4 x.f4.length c4, .slice A5 x.f5.length c5])
    (hKy : k26.K w0 y [.int .i64 y.f0, .int .i64 y.f1, .string y.f2, .slice B3 y.f3.length d3, .slice B4 y.f4.length d4, .slice B5 y.f5.length d5]) (w : World) (hb : Below w0.heap.size w0 w) :
    Calls Tryz.prog 18 #[rv x.f0 x.f1 0 ⟨x.f2, A3, x.f3.length, c3, A4, x.f4.length, c4, A5, x.f5.length, c5⟩, vl y.f0 y.f1 ⟨y.f2, B3, y.f3.length, d3, B4, y.f4.length, d4, B5, y.f5.length, d5⟩] w fun e w' => e = .returned (.bool (cmpV x y == 0)) ∧ Below w.heap.size w w' :=
  given_at x.f0 y.f0 x.f1 y.f1 _ _ _ w fun w1 hb1 => same_any w0 x y hx hy hKx hKy w1 (hb.trans (hb1.mono hb.size))
end Go.Proofs.YtbnfeicpjmfooaaGreatDoor.NumA
/-
Results that stand in memory while blocks are laid and written.
-/
set_option linter.unusedSimpArgs false
set_option linter.unusedVariables false
namespace Go.Proofs.YtbnfeicpjmfooaaGreatDoor.NumA
open Go.RowKit Go.Lib Go.Proofs.YtbnfeicpjmfooaaGreatDoor.ValA Go.Proofs.YtbnfeicpjmfooaaGreatDoor.FloH Go.Proofs.YtbnfeicpjmfooaaGreatDoorW.PrintWords Go.Proofs.YtbnfeicpjmfooaaGreatDoorW.PrintLast Go.Proofs.YtbnfeicpjmfooaaGreatDoorW.PrintMore Go.Proofs.YtbnfeicpjmfooaaGreatDoor.PzzFits1
theorem WL.h3 {x : V} (h : WL x) : ∀ y ∈ x.f3, WL y := by cases h; assumption
theorem WL.h5 {x : V} (h : WL x) : ∀ y ∈ x.f5, WL y := by cases h; assumption
theorem sz_h3 {x : V} (h : Sz x) : ∀ y ∈ x.f3, Sz y := by cases h; assumption
theorem map_eq {x : V} (hx : WL x) (h0 : x.f0 = 6) : x = ⟨6, 0, ⟨#[]⟩, [], x.f4, x.f5⟩ := by
  have hs := wf_shape hx
  obtain ⟨f0, f1, f2, f3, f4, f5⟩ := x
  obtain rfl : f0 = 6 := h0
  obtain rfl : f1 = 0 := hs.1 (by show (6 : Int) ≠ 3; omega)
  obtain rfl : f2 = ⟨#[]⟩ := hs.2.1 (by show (6 : Int) ≠ 4; omega)
  obtain rfl : f3 = [] := hs.2.2.1 (by show (6 : Int) ≠ 5; omega)
  rfl
theorem list_eq {x : V} (hx : WL x) (h0 : x.f0 = 5) : x = ⟨5, 0, ⟨#[]⟩, x.f3, [], []⟩ := by
  have hs := wf_shape hx
  obtain ⟨f0, f1, f2, f3, f4, f5⟩ := x
  obtain rfl : f0 = 5 := h0
  obtain rfl : f1 = 0 := hs.1 (by show (5 : Int) ≠ 3; omega)
  obtain rfl : f2 = ⟨#[]⟩ := hs.2.1 (by show (5 : Int) ≠ 4; omega)
  obtain ⟨rfl, rfl⟩ : f4 = [] ∧ f5 = [] := hs.2.2.2 (by show (5 : Int) ≠ 6; omega)
  rfl
end Go.Proofs.YtbnfeicpjmfooaaGreatDoor.NumA
namespace Go.Proofs.YtbnfeicpjmfooaaGreatDoor.ValA
open Go.RowKit Go.Lib Go.Proofs.YtbnfeicpjmfooaaGreatDoorW.PrintWords Go.Proofs.YtbnfeicpjmfooaaGreatDoorW.PrintLast Go.Proofs.YtbnfeicpjmfooaaGreatDoorW.PrintMore Go.Proofs.YtbnfeicpjmfooaaGreatDoor.PzzFits1 Go.Proofs.YtbnfeicpjmfooaaGreatDoor.NumA
/-- cs is x as a result, in blocks that are none of L's. -/
def ResAt (L : List (Nat × Array Value × TypeId)) (x : V) (cs : Array Value) (w : World) : Prop :=
  ∃ (B3 : Option Addr) (d3 : Nat) (B4 : Option Addr) (d4 : Nat) (B5 : Option Addr) (d5 : Nat) (base : Nat) (ok : Nat → Prop), cs = #[.int .i64 x.f0, .int .i64 x.f1, .string x.f2, .slice B3 x.f3.length d3, .slice B4 x.f4.length d4, .slice B5 x.f5.length d5, .int .i64 0] ∧
    k26.M w base ok x [.int .i64 x.f0, .int .i64 x.f1, .string x.f2, .slice B3 x.f3.length d3, .slice B4 x.f4.length d4, .slice B5 x.f5.length d5] ∧ ∀ k, ok k → k < w.heap.size ∧ ∀ p ∈ L, p.1 ≠ k
/-- And results that stand. -/
def SPR (w : World) (L : List (Nat × Array Value × TypeId)) (rs : List (V × Array Value)) (w' : World) : Prop := SPN w L w' ∧ ∀ r ∈ rs, ResAt L r.1 r.2 w'
theorem ResAt.below {L : List (Nat × Array Value × TypeId)} {x : V} {cs : Array Value} {w w' : World} (h : ResAt L x cs w) (hb : Below w.heap.size w w') : ResAt L x cs w' := by
  obtain ⟨B3, d3, B4, d4, B5, d5, base, ok, h1, h2, h3⟩ := h
  exact ⟨B3, d3, B4, d4, B5, d5, base, ok, h1, Kd.M_below h2 hb, fun k hk => ⟨Nat.lt_of_lt_of_le (h3 k hk).1 hb.size, (h3 k hk).2⟩⟩
theorem SPR.below {w w1 w2 : World} {L : List (Nat × Array Value × TypeId)} {rs : List (V × Array Value)} (h : SPR w L rs w1) (hb : Below w1.heap.size w1 w2) : SPR w L rs w2 := ⟨h.1.below hb, fun r hr => (h.2 r hr).below hb⟩
theorem SPR.drew {w w1 : World} {L : List (Nat × Array Value × TypeId)} {rs : List (V × Array Value)} (h : SPR w L rs w1) : SPR w L rs w1.drew := h.below (pw_below_drewN (Below.refl _ _) 1)
theorem SPR.bel {w w1 : World} {L : List (Nat × Array Value × TypeId)} {rs : List (V × Array Value)} (h : SPR w L rs w1) : Below w.heap.size w w1 := h.1.1.1
theorem SPR.get {w w1 : World} {L : List (Nat × Array Value × TypeId)} {rs : List (V × Array Value)} (h : SPR w L rs w1) (i : Nat) {p : Nat × Array Value × TypeId} (hp : L[i]? = some p) : w1.heap[p.1]? = some (.cells p.2.1 p.2.2 (0, 0)) := h.1.1.get i hp
theorem SPR.start {w w1 : World} {L : List (Nat × Array Value × TypeId)} (h : SPN w L w1) : SPR w L [] w1 := ⟨h, fun r hr => by cases hr⟩
/-- A call gives one result more. -/
theorem SPR.res {w w1 : World} {L : List (Nat × Array Value × TypeId)} {rs : List (V × Array Value)} (h : SPR w L rs w1) {f : FuncId} {xs : Array Value} {x : V} (HC : Calls Tryz.prog f xs w1 (ResIs x w1)) :
    Calls Tryz.prog f xs w1 fun e w' => ∃ cs, e = .returned (.agg cs) ∧ SPR w L (rs ++ [(x, cs)]) w' := by
  refine HC.mono ?_
  rintro e w2 ⟨B3, d3, B4, d4, B5, d5, rfl, hM, hb⟩
  refine ⟨_, rfl, h.1.below hb, fun r hr => ?_⟩
  rcases List.mem_append.1 hr with hr | hr
  · exact (h.2 r hr).below hb
  · obtain rfl := List.mem_singleton.1 hr
    refine ⟨B3, d3, B4, d4, B5, d5, _, _, rfl, k26.M_bound hM, fun k hk => ⟨hk.2.2.1, fun p hp e => ?_⟩⟩
    have h1 := lt_of_heap (h.1.1.2 p hp)
    have h2 : w1.heap.size ≤ k := hk.1
    omega
theorem SPR.more {w w1 : World} {L : List (Nat × Array Value × TypeId)} {rs : List (V × Array Value)} (h : SPR w L rs w1) (c : Array Value) (t : TypeId) : SPR w (L ++ [(w1.heap.size, c, t)]) rs (w1.alloc (.cells c t)) := by
  refine ⟨h.1.more c t, fun r hr => ?_⟩
  obtain ⟨B3, d3, B4, d4, B5, d5, base, ok, h1, h2, h3⟩ := (h.2 r hr).below ((Below.refl _ w1).alloc (Nat.le_refl _) (.cells c t))
  obtain ⟨_, _, _, _, _, _, _, _, _, _, _⟩ := h.2 r hr
  obtain ⟨C3, e3, C4, e4, C5, e5, base', ok', i1, i2, i3⟩ := h.2 r hr
  refine ⟨C3, e3, C4, e4, C5, e5, base', ok', i1, Kd.M_below i2 ((Below.refl _ w1).alloc (Nat.le_refl _) (.cells c t)), fun k hk => ⟨by rw [World.size_alloc]; have := (i3 k hk).1; omega, fun p hp => ?_⟩⟩
  rcases List.mem_append.1 hp with hp | hp
  · exact (i3 k hk).2 p hp
  · obtain rfl := List.mem_singleton.1 hp
    have := (i3 k hk).1
    show w1.heap.size ≠ k
    omega
theorem SPR.put {w w1 : World} {L : List (Nat × Array Value × TypeId)} {rs : List (V × Array Value)} (h : SPR w L rs w1) (i : Nat) {R : Nat} {c0 c1 c2 c3 c4 c5 c6 : Value} {t : TypeId} (hi : L[i]? = some (R, #[c0, c1, c2, c3, c4, c5, c6], t)) (v0 v1 v2 v3 v4 v5 v6 : Value) :
    SPR w (L.set i (R, #[v0, v1, v2, v3, v4, v5, v6], t)) rs (((((((w1.setCell ⟨R, 0, none⟩ v0).setCell ⟨R, 1, none⟩ v1).setCell ⟨R, 2, none⟩ v2).setCell ⟨R, 3, none⟩ v3).setCell ⟨R, 4, none⟩ v4).setCell ⟨R, 5, none⟩ v5).setCell ⟨R, 6, none⟩ v6) := by
  have hm := List.mem_of_getElem? hi
  have hgr := sev_grown w1 R v0 v1 v2 v3 v4 v5 v6
  refine ⟨h.1.put i hi v0 v1 v2 v3 v4 v5 v6, fun r hr => ?_⟩
  obtain ⟨C3, e3, C4, e4, C5, e5, base', ok', i1, i2, i3⟩ := h.2 r hr
  refine ⟨C3, e3, C4, e4, C5, e5, base', ok', i1, Kd.M_grown i2 hgr (fun k hk e => (i3 k hk).2 _ hm (by cases e; rfl)), fun k hk => ⟨Nat.lt_of_lt_of_le (i3 k hk).1 hgr.size, fun p hp => ?_⟩⟩
  rcases List.mem_or_eq_of_mem_set hp with hp | rfl
  · exact (i3 k hk).2 p hp
  · have := (i3 k hk).2 _ hm
    exact this
theorem ResAt.perm {L L' : List (Nat × Array Value × TypeId)} (hs : ∀ p ∈ L', p ∈ L) {x : V} {cs : Array Value} {w : World} (h : ResAt L x cs w) : ResAt L' x cs w := by
  obtain ⟨C3, e3, C4, e4, C5, e5, base', ok', i1, i2, i3⟩ := h
  exact ⟨C3, e3, C4, e4, C5, e5, base', ok', i1, i2, fun k hk => ⟨(i3 k hk).1, fun p hp => (i3 k hk).2 p (hs p hp)⟩⟩
/-- The last two blocks exchanged. -/
theorem SPR.swap {w w1 : World} {L : List (Nat × Array Value × TypeId)} {x y : Nat × Array Value × TypeId} {rs : List (V × Array Value)} (h : SPR w (L ++ [x] ++ [y]) rs w1) : SPR w (L ++ [y] ++ [x]) rs w1 := by
  have hp : (L ++ [y] ++ [x]).Perm (L ++ [x] ++ [y]) := by
    rw [List.append_assoc, List.append_assoc]
    exact List.Perm.append_left L (List.Perm.swap x y [])
  have hs : ∀ p ∈ L ++ [y] ++ [x], p ∈ L ++ [x] ++ [y] := fun p hm => hp.mem_iff.1 hm
  exact ⟨⟨⟨h.1.1.1, fun p hm => h.1.1.2 p (hs p hm)⟩, (hp.map (·.1)).nodup_iff.2 h.1.2.1, fun p hm => h.1.2.2 p (hs p hm)⟩, fun r hr => (h.2 r hr).perm hs⟩
/-- A result's cells, and what toGo gives of it. -/
theorem SPR.cells {w w1 : World} {L : List (Nat × Array Value × TypeId)} {rs : List (V × Array Value)} (h : SPR w L rs w1) (i : Nat) {x : V} {cs : Array Value} (hi : rs[i]? = some (x, cs)) :
    ∃ (B3 : Option Addr) (d3 : Nat) (B4 : Option Addr) (d4 : Nat) (B5 : Option Addr) (d5 : Nat), cs = #[.int .i64 x.f0, .int .i64 x.f1, .string x.f2, .slice B3 x.f3.length d3, .slice B4 x.f4.length d4, .slice B5 x.f5.length d5, .int .i64 0] := by
  obtain ⟨C3, e3, C4, e4, C5, e5, _, _, i1, _, _⟩ := h.2 _ (List.mem_of_getElem? hi)
  exact ⟨C3, e3, C4, e4, C5, e5, i1⟩
theorem SPR.held {w w1 : World} {L : List (Nat × Array Value × TypeId)} {rs : List (V × Array Value)} (h : SPR w L rs w1) (i : Nat) {x : V} {B3 : Option Addr} {d3 : Nat} {B4 : Option Addr} {d4 : Nat} {B5 : Option Addr} {d5 : Nat} (hi : rs[i]? = some (x, #[.int .i64 x.f0, .int .i64 x.f1, .string x.f2, .slice B3 x.f3.length d3, .slice B4 x.f4.length d4, .slice B5 x.f5.length d5, .int .i64 0])) :
    k26.K w1 x [.int .i64 x.f0, .int .i64 x.f1, .string x.f2, .slice B3 x.f3.length d3, .slice B4 x.f4.length d4, .slice B5 x.f5.length d5] := by
  obtain ⟨C3, e3, C4, e4, C5, e5, _, _, i1, i2, _⟩ := h.2 _ (List.mem_of_getElem? hi)
  simp only [Array.mk.injEq, List.cons.injEq, Value.slice.injEq, true_and, and_true] at i1
  obtain ⟨⟨rfl, rfl⟩, ⟨rfl, rfl⟩, ⟨rfl, rfl⟩⟩ := i1
  exact k26.K_of_M i2
section
variable {P : Program} {ops : Array Oper} {Q : Exit → Act → World → Prop}
/-- A new block. -/
theorem freshR_ {oi : Oper} {N : Option Tmp} {a : Act} {w w0 : World} {K : Act → World → Prop} {L : List (Nat × Array Value × TypeId)} {rs : List (V × Array Value)} {c : Array Value} {t : TypeId} (hL : SPR w0 L rs w) (hw : Region.wanted oi (yielded ops a.tmps) = true) (hN : oi.dst = N)
    (hrun : (execOp a.eval oi).run P w = .ok (.value (.pointer (some ⟨w.heap.size, 0, none⟩))) (w.alloc (.cells c t))) (h : ∀ R w1, SPR w0 (L ++ [(R, c, t)]) rs w1 → K (a.put N (.pointer (some ⟨R, 0, none⟩))) w1) :
    if Region.wanted oi (yielded ops a.tmps) = true then Oper.wp P oi a w K Q else K (a.put N undef) w := value_ hw hN hrun (h _ _ (hL.more c t))
/-- A result is stored. -/
theorem put7R_ {oi : Oper} {a : Act} {w w0 : World} {K : Act → World → Prop} {L : List (Nat × Array Value × TypeId)} {rs : List (V × Array Value)} {R : Nat} {c0 c1 c2 c3 c4 c5 c6 v0 v1 v2 v3 v4 v5 v6 : Value} {t : TypeId} (hL : SPR w0 L rs w) (i : Nat) (hi : L[i]? = some (R, #[c0, c1, c2, c3, c4, c5, c6], t)) (hw : Region.wanted oi (yielded ops a.tmps) = true) (hN : oi.dst = none)
    (hrun : (execOp a.eval oi).run P w = .ok .skip (((((((w.setCell ⟨R, 0, none⟩ v0).setCell ⟨R, 1, none⟩ v1).setCell ⟨R, 2, none⟩ v2).setCell ⟨R, 3, none⟩ v3).setCell ⟨R, 4, none⟩ v4).setCell ⟨R, 5, none⟩ v5).setCell ⟨R, 6, none⟩ v6)) (h : ∀ w1, SPR w0 (L.set i (R, #[v0, v1, v2, v3, v4, v5, v6], t)) rs w1 → K a w1) :
    if Region.wanted oi (yielded ops a.tmps) = true then Oper.wp P oi a w K Q else K (a.put none undef) w := skip_ hw hN hrun (h _ (hL.put i hi v0 v1 v2 v3 v4 v5 v6))
end
/-- toGo at a result. -/
theorem SPR.toGo {w w1 : World} {L : List (Nat × Array Value × TypeId)} {rs : List (V × Array Value)} (h : SPR w L rs w1) (i : Nat) {x : V} {B3 : Option Addr} {d3 : Nat} {B4 : Option Addr} {d4 : Nat} {B5 : Option Addr} {d5 : Nat} (hi : rs[i]? = some (x, #[.int .i64 x.f0, .int .i64 x.f1, .string x.f2, .slice B3 x.f3.length d3, .slice B4 x.f4.length d4, .slice B5 x.f5.length d5, .int .i64 0])) (hx : WL x) (zx : Sz x) :
    ToGo w1 x [.int .i64 x.f0, .int .i64 x.f1, .string x.f2, .slice B3 x.f3.length d3, .slice B4 x.f4.length d4, .slice B5 x.f5.length d5] := toGo_any w1 _ x (Nat.lt_succ_self _) zx hx _ (h.held i hi)
theorem ToGo.later {w0 w1 : World} {x : V} {cs : List Value} (h : ToGo w0 x cs) (hb : Below w0.heap.size w0 w1) : ToGo w1 x cs := fun w hb2 => h w (hb.trans (hb2.mono hb.size))
theorem wf_n3 {x : V} (h : WF x) : x.f3.length ≤ 400 := by cases h; assumption
/-- A value's cells, a result's, those of a new result: short names for long texts. -/
abbrev cv (x : V) (A3 : Option Addr) (c3 : Nat) (A4 : Option Addr) (c4 : Nat) (A5 : Option Addr) (c5 : Nat) : Array Value := #[.int .i64 x.f0, .int .i64 x.f1, .string x.f2, .slice A3 x.f3.length c3, .slice A4 x.f4.length c4, .slice A5 x.f5.length c5]
abbrev rc (x : V) (A3 : Option Addr) (c3 : Nat) (A4 : Option Addr) (c4 : Nat) (A5 : Option Addr) (c5 : Nat) : Array Value := #[.int .i64 x.f0, .int .i64 x.f1, .string x.f2, .slice A3 x.f3.length c3, .slice A4 x.f4.length c4, .slice A5 x.f5.length c5, .int .i64 0]
abbrev z7 : Array Value := #[.int .i64 0, .int .i64 0, .string ⟨#[]⟩, .slice none 0 0, .slice none 0 0, .slice none 0 0, .int .i64 0]
end Go.Proofs.YtbnfeicpjmfooaaGreatDoor.ValA
