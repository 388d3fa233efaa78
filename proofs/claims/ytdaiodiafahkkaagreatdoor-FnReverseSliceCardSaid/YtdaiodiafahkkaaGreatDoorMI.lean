/-
Parts of the proof, one behind the other: AddA, AddB, AddC, CopyV, AddD.
-/
import Derived.Test.YtdaiodiafahkkaaGreatDoorMH
import Derived.Test.YtdaiodiafahkkaaGreatDoorMG
import Derived.Laws.CopyRow
import Derived.Laws.CopyOwn
import Derived.Laws.Concat
import Derived.Shelf.SlMaps.Copy
import Derived.Test.YtdaiodiafahkkaaGreatDoorProg
/-
Sums where one side is null; impl.result, impl.OpAdd at any values.
-/
set_option linter.unusedSimpArgs false
set_option linter.unusedVariables false
namespace Go.Proofs.YtdaiodiafahkkaaGreatDoor.NumA
open Go.RowKit Go.Lib Go.Proofs.YtdaiodiafahkkaaGreatDoor.ValA Go.Proofs.YtdaiodiafahkkaaGreatDoor.FloH Go.Proofs.YtdaiodiafahkkaaGreatDoorW.PrintWords Go.Proofs.YtdaiodiafahkkaaGreatDoorW.PrintLast Go.Proofs.YtdaiodiafahkkaaGreatDoorW.PrintMore Go.Proofs.YtdaiodiafahkkaaGreatDoor.PzzFits1
/-- The call gives v. -/
def Gv (v : Value) (w : World) (e : Ending) (w' : World) : Prop := e = .returned v ∧ Below w.heap.size w w'
theorem addfb_l (g : Value) (w : World) : Calls Tryz.prog 100 #[.nilIface, g] w (Gv g w) := by
  go_enter Tryz.func100, Tryz.ntmps100
  go_wp2_with fail
  go_ret
  exact ⟨rfl, Below.refl _ _⟩
theorem addfb_bool (b : Bool) (w : World) : Calls Tryz.prog 100 #[.iface 4 (.bool b), .nilIface] w (Gv (.iface 4 (.bool b)) w) := by
  go_enter Tryz.func100, Tryz.ntmps100
  go_wp2_with fail
  go_ret
  exact ⟨rfl, Below.refl _ _⟩
theorem addfb_int (n : Int) (w : World) : Calls Tryz.prog 100 #[.iface 3 (.int .i64 n), .nilIface] w (Gv (.iface 3 (.int .i64 n)) w) := by
  go_enter Tryz.func100, Tryz.ntmps100
  go_wp2_with fail
  go_ret
  exact ⟨rfl, Below.refl _ _⟩
theorem addfb_flt (n : Nat) (w : World) : Calls Tryz.prog 100 #[.iface 84 (.float .f64 n), .nilIface] w (Gv (.iface 84 (.float .f64 n)) w) := by
  go_enter Tryz.func100, Tryz.ntmps100
  go_wp2_with fail
  go_ret
  exact ⟨rfl, Below.refl _ _⟩
theorem addfb_str (s : ByteArray) (w : World) : Calls Tryz.prog 100 #[.iface 9 (.string s), .nilIface] w (Gv (.iface 9 (.string s)) w) := by
  go_enter Tryz.func100, Tryz.ntmps100
  go_wp2_with fail
  go_ret
  exact ⟨rfl, Below.refl _ _⟩
theorem addfb_list (A : Option Addr) (n : Nat) (w : World) : Calls Tryz.prog 100 #[.iface 85 (.slice A n n), .nilIface] w (Gv (.iface 85 (.slice A n n)) w) := by
  go_enter Tryz.func100, Tryz.ntmps100
  go_wp2_with fail
  go_ret
  exact ⟨rfl, Below.refl _ _⟩
theorem addfb_map (b : Option Nat) (w : World) : Calls Tryz.prog 100 #[.iface 88 (.map b), .nilIface] w (Gv (.iface 88 (.map b)) w) := by
  go_enter Tryz.func100, Tryz.ntmps100
  go_wp2_with fail
  go_ret
  exact ⟨rfl, Below.refl _ _⟩
set_option maxRecDepth 100000 in
set_option maxHeartbeats 4000000 in
theorem add_nil (g : Value) (hJ : NoJ g) (w : World) : Calls Tryz.prog 90 #[.nilIface, g, Value.func (Fn.func 91) #[] #[], Value.func (Fn.func 94) #[] #[], Value.func (Fn.func 95) #[] #[], Value.func (Fn.func 96) #[] #[], Value.func (Fn.func 97) #[] #[], Value.func (Fn.func 98) #[] #[], Value.func (Fn.func 100) #[] #[]] w (Gv (g) w) := by
  have H := Lib.hid (addfb_l g w)
  unfold NoJ at hJ
  have fJ := fun w => noNJ w
  have fI := fun w => noNI w
  have fF := fun w => noNF w
  have fB := fun w => noNB w
  have fS := fun w => noNS w
  have fL := fun w => noNL w
  have fM := fun w => noNM w
  go_enter Tryz.func90, Tryz.ntmps90
  go_wp2_with fail
  refine H.out.mono ?_
  rintro e w1 ⟨rfl, hb⟩
  have HB := Lib.hid hb; clear hb
  go_wp2_with fail
  go_ret
  exact ⟨rfl, HB.out⟩
set_option maxRecDepth 100000 in
set_option maxHeartbeats 4000000 in
theorem add_bool (b : Bool)  (w : World) : Calls Tryz.prog 90 #[.iface 4 (.bool b), .nilIface, Value.func (Fn.func 91) #[] #[], Value.func (Fn.func 94) #[] #[], Value.func (Fn.func 95) #[] #[], Value.func (Fn.func 96) #[] #[], Value.func (Fn.func 97) #[] #[], Value.func (Fn.func 98) #[] #[], Value.func (Fn.func 100) #[] #[]] w (Gv (.iface 4 (.bool b)) w) := by
  have H := Lib.hid (addfb_bool b w)
  have eJ := fun w => qTJ (.bool b) w
  have eI := fun w => qTI (.bool b) w
  have eF := fun w => qTF (.bool b) w
  have eB := fun w => qTB (.bool b) w
  have eS := fun w => qTS (.bool b) w
  have eL := fun w => qTL (.bool b) w
  have eM := fun w => qTM (.bool b) w
  have fJ := fun w => noNJ w
  have fI := fun w => noNI w
  have fF := fun w => noNF w
  have fB := fun w => noNB w
  have fS := fun w => noNS w
  have fL := fun w => noNL w
  have fM := fun w => noNM w
  go_enter Tryz.func90, Tryz.ntmps90
  go_wp2_with fail
  refine H.out.mono ?_
  rintro e w1 ⟨rfl, hb⟩
  have HB := Lib.hid hb; clear hb
  go_wp2_with fail
  go_ret
  exact ⟨rfl, HB.out⟩
set_option maxRecDepth 100000 in
set_option maxHeartbeats 4000000 in
theorem add_int (n : Int)  (w : World) : Calls Tryz.prog 90 #[.iface 3 (.int .i64 n), .nilIface, Value.func (Fn.func 91) #[] #[], Value.func (Fn.func 94) #[] #[], Value.func (Fn.func 95) #[] #[], Value.func (Fn.func 96) #[] #[], Value.func (Fn.func 97) #[] #[], Value.func (Fn.func 98) #[] #[], Value.func (Fn.func 100) #[] #[]] w (Gv (.iface 3 (.int .i64 n)) w) := by
  have H := Lib.hid (addfb_int n w)
  have eJ := fun w => qIJ (.int .i64 n) w
  have gI := fun w => qI (.int .i64 n) w
  have fJ := fun w => noNJ w
  have fI := fun w => noNI w
  have fF := fun w => noNF w
  have fB := fun w => noNB w
  have fS := fun w => noNS w
  have fL := fun w => noNL w
  have fM := fun w => noNM w
  go_enter Tryz.func90, Tryz.ntmps90
  go_wp2_with fail
  refine H.out.mono ?_
  rintro e w1 ⟨rfl, hb⟩
  have HB := Lib.hid hb; clear hb
  go_wp2_with fail
  go_ret
  exact ⟨rfl, HB.out⟩
set_option maxRecDepth 100000 in
set_option maxHeartbeats 4000000 in
theorem add_flt (n : Nat)  (w : World) : Calls Tryz.prog 90 #[.iface 84 (.float .f64 n), .nilIface, Value.func (Fn.func 91) #[] #[], Value.func (Fn.func 94) #[] #[], Value.func (Fn.func 95) #[] #[], Value.func (Fn.func 96) #[] #[], Value.func (Fn.func 97) #[] #[], Value.func (Fn.func 98) #[] #[], Value.func (Fn.func 100) #[] #[]] w (Gv (.iface 84 (.float .f64 n)) w) := by
  have H := Lib.hid (addfb_flt n w)
  have eJ := fun w => qFJ (.float .f64 n) w
  have eI := fun w => qFI (.float .f64 n) w
  have gF := fun w => qF (.float .f64 n) w
  have fJ := fun w => noNJ w
  have fI := fun w => noNI w
  have fF := fun w => noNF w
  have fB := fun w => noNB w
  have fS := fun w => noNS w
  have fL := fun w => noNL w
  have fM := fun w => noNM w
  go_enter Tryz.func90, Tryz.ntmps90
  go_wp2_with fail
  refine H.out.mono ?_
  rintro e w1 ⟨rfl, hb⟩
  have HB := Lib.hid hb; clear hb
  go_wp2_with fail
  go_ret
  exact ⟨rfl, HB.out⟩
set_option maxRecDepth 100000 in
set_option maxHeartbeats 4000000 in
theorem add_str (s : ByteArray)  (w : World) : Calls Tryz.prog 90 #[.iface 9 (.string s), .nilIface, Value.func (Fn.func 91) #[] #[], Value.func (Fn.func 94) #[] #[], Value.func (Fn.func 95) #[] #[], Value.func (Fn.func 96) #[] #[], Value.func (Fn.func 97) #[] #[], Value.func (Fn.func 98) #[] #[], Value.func (Fn.func 100) #[] #[]] w (Gv (.iface 9 (.string s)) w) := by
  have H := Lib.hid (addfb_str s w)
  have eJ := fun w => qSJ (.string s) w
  have eI := fun w => qSI (.string s) w
  have eF := fun w => qSF (.string s) w
  have eB := fun w => qSB (.string s) w
  have gS := fun w => qS (.string s) w
  have fJ := fun w => noNJ w
  have fI := fun w => noNI w
  have fF := fun w => noNF w
  have fB := fun w => noNB w
  have fS := fun w => noNS w
  have fL := fun w => noNL w
  have fM := fun w => noNM w
  go_enter Tryz.func90, Tryz.ntmps90
  go_wp2_with fail
  refine H.out.mono ?_
  rintro e w1 ⟨rfl, hb⟩
  have HB := Lib.hid hb; clear hb
  go_wp2_with fail
  go_ret
  exact ⟨rfl, HB.out⟩
set_option maxRecDepth 100000 in
set_option maxHeartbeats 4000000 in
theorem add_list (A : Option Addr) (n : Nat)  (w : World) : Calls Tryz.prog 90 #[.iface 85 (.slice A n n), .nilIface, Value.func (Fn.func 91) #[] #[], Value.func (Fn.func 94) #[] #[], Value.func (Fn.func 95) #[] #[], Value.func (Fn.func 96) #[] #[], Value.func (Fn.func 97) #[] #[], Value.func (Fn.func 98) #[] #[], Value.func (Fn.func 100) #[] #[]] w (Gv (.iface 85 (.slice A n n)) w) := by
  have H := Lib.hid (addfb_list A n w)
  have eJ := fun w => qLJ (.slice A n n) w
  have eI := fun w => qLI (.slice A n n) w
  have eF := fun w => qLF (.slice A n n) w
  have eB := fun w => qLB (.slice A n n) w
  have eS := fun w => qLS (.slice A n n) w
  have gL := fun w => qL (.slice A n n) w
  have fJ := fun w => noNJ w
  have fI := fun w => noNI w
  have fF := fun w => noNF w
  have fB := fun w => noNB w
  have fS := fun w => noNS w
  have fL := fun w => noNL w
  have fM := fun w => noNM w
  go_enter Tryz.func90, Tryz.ntmps90
  go_wp2_with fail
  refine H.out.mono ?_
  rintro e w1 ⟨rfl, hb⟩
  have HB := Lib.hid hb; clear hb
  go_wp2_with fail
  go_ret
  exact ⟨rfl, HB.out⟩
set_option maxRecDepth 100000 in
set_option maxHeartbeats 4000000 in
theorem add_map (b : Option Nat)  (w : World) : Calls Tryz.prog 90 #[.iface 88 (.map b), .nilIface, Value.func (Fn.func 91) #[] #[], Value.func (Fn.func 94) #[] #[], Value.func (Fn.func 95) #[] #[], Value.func (Fn.func 96) #[] #[], Value.func (Fn.func 97) #[] #[], Value.func (Fn.func 98) #[] #[], Value.func (Fn.func 100) #[] #[]] w (Gv (.iface 88 (.map b)) w) := by
  have H := Lib.hid (addfb_map b w)
  have eJ := fun w => qMJ (.map b) w
  have eI := fun w => qMI (.map b) w
  have eF := fun w => qMF (.map b) w
  have eB := fun w => qMB (.map b) w
  have eS := fun w => qMS (.map b) w
  have eL := fun w => qML (.map b) w
  have gM := fun w => qM (.map b) w
  have fJ := fun w => noNJ w
  have fI := fun w => noNI w
  have fF := fun w => noNF w
  have fB := fun w => noNB w
  have fS := fun w => noNS w
  have fL := fun w => noNL w
  have fM := fun w => noNM w
  go_enter Tryz.func90, Tryz.ntmps90
  go_wp2_with fail
  refine H.out.mono ?_
  rintro e w1 ⟨rfl, hb⟩
  have HB := Lib.hid hb; clear hb
  go_wp2_with fail
  go_ret
  exact ⟨rfl, HB.out⟩
theorem zz_add_of (l r R : Value) (w : World) (HB : Calls Tryz.prog 90 #[l, r, Value.func (Fn.func 91) #[] #[], Value.func (Fn.func 94) #[] #[], Value.func (Fn.func 95) #[] #[], Value.func (Fn.func 96) #[] #[], Value.func (Fn.func 97) #[] #[], Value.func (Fn.func 98) #[] #[], Value.func (Fn.func 100) #[] #[]] w (Gv R w)) : Calls Tryz.prog 43 #[l, r] w (Gv R w) := by
  have H := Lib.hid HB
  clear HB
  have H1 : Hid (Calls Tryz.prog 62 #[.nilIface, l, r] w (Gv R w)) := by
    refine Lib.hid ?_
    go_enter Tryz.func62, Tryz.ntmps62
    go_wp2_with fail
    refine H.out.mono ?_
    rintro e w1 ⟨rfl, hb⟩
    have HB := Lib.hid hb; clear hb
    go_wp2_with fail
    go_ret
    exact ⟨rfl, HB.out⟩
  clear H
  go_enter Tryz.func43, Tryz.ntmps43
  go_wp2_with fail
  refine H1.out.mono ?_
  rintro e w1 ⟨rfl, hb⟩
  have HB := Lib.hid hb; clear hb
  go_wp2_with fail
  go_ret
  exact ⟨rfl, HB.out⟩
theorem zz_add_nil (k : Int) (g : Value) (h : Cl k g) (w : World) : Calls Tryz.prog 43 #[.nilIface, g] w (Gv g w) := zz_add_of _ _ _ w (add_nil g h.noJ w)
theorem zz_nil_add (k : Int) (g : Value) (h : Cl k g) (w : World) : Calls Tryz.prog 43 #[g, .nilIface] w (Gv g w) := by
  refine zz_add_of _ _ _ w ?_
  have h0 := h
  cases h with
  | nil => exact add_nil _ h0.noJ w
  | no => exact add_bool false w
  | yes => exact add_bool true w
  | int n => exact add_int n w
  | flt n => exact add_flt n w
  | str s => exact add_str s w
  | list A n => exact add_list A n w
  | map b => exact add_map b w
/-- The call gives x as a result, in memory of its own. -/
def ResIs (x : V) (w : World) (e : Ending) (w' : World) : Prop := ∃ (B3 : Option Addr) (d3 : Nat) (B4 : Option Addr) (d4 : Nat) (B5 : Option Addr) (d5 : Nat), e = .returned (.agg #[.int .i64 x.f0, .int .i64 x.f1, .string x.f2, .slice B3 x.f3.length d3, .slice B4 x.f4.length d4, .slice B5 x.f5.length d5, .int .i64 0]) ∧ k26.M w' w.heap.size (fun k => w.heap.size ≤ k) x [.int .i64 x.f0, .int .i64 x.f1, .string x.f2, .slice B3 x.f3.length d3, .slice B4 x.f4.length d4, .slice B5 x.f5.length d5] ∧ Below w.heap.size w w'
set_option maxHeartbeats 1000000 in
theorem result_any (x : V) (v : Value) (w : World) (HN : ∀ w, (Instr.typeAssert v 20 92 true).run Tryz.prog w = .ok (.tuple #[.nilIface, .bool false]) w) (HG : ∀ w1, Below w.heap.size w w1 → FromGo x v w1) :
    Calls Tryz.prog 42 #[v] w (ResIs x w) := by
  have a1 := HN
  obtain ⟨w0, hw0⟩ : ∃ w0, w0 = w.alloc (.cells #[.int .i64 0, .int .i64 0, .string ⟨#[]⟩, .slice none 0 0, .slice none 0 0, .slice none 0 0, .int .i64 0] 30) := ⟨_, rfl⟩
  have hx : w0.heap[w.heap.size]? = some (.cells #[.int .i64 0, .int .i64 0, .string ⟨#[]⟩, .slice none 0 0, .slice none 0 0, .slice none 0 0, .int .i64 0] 30 (0, 0)) := by rw [hw0]; exact heap_alloc_new w _
  have hb : Below w.heap.size w w0 := by rw [hw0]; exact (Below.refl _ w).alloc (Nat.le_refl _) _
  have HT := Lib.hid (HG w0 hb)
  have H0 := Lib.hid (And.intro hx hb)
  clear HG hx hb
  unfold FromGo at HT
  go_enter Tryz.func42, Tryz.ntmps42
  go_wp2_with fail
  rw [← hw0]
  clear hw0
  refine HT.out.mono ?_
  rintro e w1 ⟨cs, rfl, hM, hb⟩
  obtain ⟨v3, v4, v5, rfl, g3, g4, g5⟩ := k26_openM hM
  obtain ⟨B3, d3, rfl⟩ := Kd.R_slice g3
  obtain ⟨B4, d4, rfl⟩ := Kd.R_slice g4
  obtain ⟨B5, d5, rfl⟩ := Kd.R_slice g5
  have hx : w1.heap[w.heap.size]? = some (.cells #[.int .i64 0, .int .i64 0, .string ⟨#[]⟩, .slice none 0 0, .slice none 0 0, .slice none 0 0, .int .i64 0] 30 (0, 0)) := by rw [hb.block _ (lt_of_heap H0.out.1)]; exact H0.out.1
  have hlt : w.heap.size < w0.heap.size := lt_of_heap H0.out.1
  have H1 := Lib.hid (And.intro (H0.out.2.trans (hb.mono H0.out.2.size)) (And.intro hM hlt))
  clear hb hM g3 g4 g5 hlt
  have y := sev_cells hx
  have hlt1 : w.heap.size < w1.heap.size := lt_of_heap hx
  go_wp2_with fail
  have hz := sev_set hx (.int .i64 x.f0) (.int .i64 x.f1) (.string x.f2) (.slice B3 x.f3.length d3) (.slice B4 x.f4.length d4) (.slice B5 x.f5.length d5) (.int .i64 0)
  have hg := sev_grown w1 w.heap.size (.int .i64 x.f0) (.int .i64 x.f1) (.string x.f2) (.slice B3 x.f3.length d3) (.slice B4 x.f4.length d4) (.slice B5 x.f5.length d5) (.int .i64 0)
  obtain ⟨W2, hW⟩ : ∃ W2, W2 = ((((((w1.setCell ⟨w.heap.size, 0, none⟩ (.int .i64 x.f0)).setCell ⟨w.heap.size, 1, none⟩ (.int .i64 x.f1)).setCell ⟨w.heap.size, 2, none⟩ (.string x.f2)).setCell ⟨w.heap.size, 3, none⟩ (.slice B3 x.f3.length d3)).setCell ⟨w.heap.size, 4, none⟩ (.slice B4 x.f4.length d4)).setCell ⟨w.heap.size, 5, none⟩ (.slice B5 x.f5.length d5)).setCell ⟨w.heap.size, 6, none⟩ (.int .i64 0) := ⟨_, rfl⟩
  rw [← hW] at hz hg ⊢
  obtain ⟨W3, hW3⟩ : ∃ W3, W3 = W2.alloc (.cells #[.int .i64 x.f0, .int .i64 x.f1, .string x.f2, .slice B3 x.f3.length d3, .slice B4 x.f4.length d4, .slice B5 x.f5.length d5] 26) := ⟨_, rfl⟩
  have hz3 : W3.heap[w.heap.size]? = some (.cells #[.int .i64 x.f0, .int .i64 x.f1, .string x.f2, .slice B3 x.f3.length d3, .slice B4 x.f4.length d4, .slice B5 x.f5.length d5, .int .i64 0] 30 (0, 0)) := by rw [hW3]; exact ((World.grownBy_alloc W2 _ none).block _ (lt_of_heap hz) (by simp)).trans hz
  have hb3 : Below w.heap.size w W3 := by rw [hW3]; exact (H1.out.1.grown hg H1.out.1.size (fun k hk => by cases hk; exact Nat.le_refl _)).alloc (Nat.le_trans H1.out.1.size hg.size) _
  have hM3 : k26.M W3 w.heap.size (fun k => w.heap.size ≤ k) x [.int .i64 x.f0, .int .i64 x.f1, .string x.f2, .slice B3 x.f3.length d3, .slice B4 x.f4.length d4, .slice B5 x.f5.length d5] := by
    have hlt := H1.out.2.2
    have h := Kd.M_grown H1.out.2.1 hg (fun k hk e => by cases e; have : w0.heap.size ≤ w.heap.size := hk; omega)
    have h2 := k26.M_mono (ok' := fun k => w.heap.size ≤ k) (fun k hk => by show w.heap.size ≤ k; have : w0.heap.size ≤ k := hk; omega) (k26.M_lower (base' := w.heap.size) (by omega) h)
    rw [hW3]
    exact Kd.M_below h2 ((Below.refl _ W2).alloc (Nat.le_refl _) _)
  rw [← hW3]
  clear hW hW3 hz hg
  obtain ⟨q0, q1, q2, q3, q4, q5, q6, _⟩ := sev_cells hz3
  refine bodyPost_ret (v := .agg #[.int .i64 x.f0, .int .i64 x.f1, .string x.f2, .slice B3 x.f3.length d3, .slice B4 x.f4.length d4, .slice B5 x.f5.length d5, .int .i64 0]) (by simp [results, Tryz.results42, go_sem, q0, q1, q2, q3, q4, q5, q6]) rfl ?_
  exact ⟨B3, d3, B4, d4, B5, d5, rfl, hM3, hb3⟩
set_option maxHeartbeats 4000000 in
theorem impl_opAdd (w0 : World) (a b x : V) (Ka Ha : Int) (sa : ByteArray) (A3a A4a A5a : Option Addr) (n3a c3a n4a c4a n5a c5a : Nat) (Kb Hb : Int) (sb : ByteArray) (A3b A4b A5b : Option Addr) (n3b c3b n4b c4b n5b c5b : Nat) (Tx : ToGo w0 a [.int .i64 Ka, .int .i64 Ha, .string sa, .slice A3a n3a c3a, .slice A4a n4a c4a, .slice A5a n5a c5a]) (Ty : ToGo w0 b [.int .i64 Kb, .int .i64 Hb, .string sb, .slice A3b n3b c3b, .slice A4b n4b c4b, .slice A5b n5b c5b]) (hx : WL x) (zx : Sz x)
    (HC : ∀ g h n m w, G n w a g → G m w b h → Calls Tryz.prog 43 #[g, h] w fun e w' => ∃ r k, e = .returned r ∧ G k w' x r ∧ Below w.heap.size w w') (w : World) (hb : Below w0.heap.size w0 w) :
    Calls Tryz.prog 18 #[.agg #[.int .i64 Ka, .int .i64 Ha, .string sa, .slice A3a n3a c3a, .slice A4a n4a c4a, .slice A5a n5a c5a], .agg #[.int .i64 Kb, .int .i64 Hb, .string sb, .slice A3b n3b c3b, .slice A4b n4b c4b, .slice A5b n5b c5b]] w (ResIs x w) := by
  have HX := Lib.hid Tx
  have HY := Lib.hid Ty
  have HCC := Lib.hid HC
  have HB := Lib.hid hb
  have HWF := Lib.hid (And.intro hx zx)
  clear Tx Ty HC hb hx zx
  go_enter Tryz.func18, Tryz.ntmps18
  go_wp2_with fail
  have h3 := three_boxes w #[.int .i64 Ka, .int .i64 Ha, .string sa, .slice A3a n3a c3a, .slice A4a n4a c4a, .slice A5a n5a c5a] #[.int .i64 Kb, .int .i64 Hb, .string sb, .slice A3b n3b c3b, .slice A4b n4b c4b, .slice A5b n5b c5b] #[.int .i64 0, .int .i64 0, .string ⟨#[]⟩, .slice none 0 0, .slice none 0 0, .slice none 0 0, .int .i64 0] 26 26 30
  obtain ⟨W0, hw0⟩ : ∃ W0, W0 = (((w.alloc (.cells #[.int .i64 Ka, .int .i64 Ha, .string sa, .slice A3a n3a c3a, .slice A4a n4a c4a, .slice A5a n5a c5a] 26)).alloc (.cells #[.int .i64 Kb, .int .i64 Hb, .string sb, .slice A3b n3b c3b, .slice A4b n4b c4b, .slice A5b n5b c5b] 26)).alloc (.cells #[.int .i64 0, .int .i64 0, .string ⟨#[]⟩, .slice none 0 0, .slice none 0 0, .slice none 0 0, .int .i64 0] 30)) := ⟨_, rfl⟩
  rw [← hw0] at h3 ⊢
  clear hw0
  have H0 := Lib.hid h3
  clear h3
  refine (HX.out W0 (HB.out.trans (H0.out.1.mono HB.out.size))).mono ?_
  rintro e w1 ⟨g, rfl, hG, hb⟩
  have hy := (hb.block _ (lt_of_heap H0.out.2.2)).trans H0.out.2.2
  have H1 := Lib.hid (And.intro (H0.out.1.trans (hb.mono H0.out.1.size)) (And.intro ((hb.block _ (lt_of_heap H0.out.2.1)).trans H0.out.2.1) hG))
  clear hb H0 hG
  have y := six_cells hy
  clear hy
  go_wp2_with fail
  refine (HY.out w1 (HB.out.trans (H1.out.1.mono HB.out.size))).mono ?_
  rintro e w2 ⟨h, rfl, hG, hb⟩
  clear y
  have H2 := Lib.hid (And.intro (H1.out.1.trans (hb.mono H1.out.1.size)) (And.intro ((hb.block _ (lt_of_heap H1.out.2.1)).trans H1.out.2.1) (And.intro (H1.out.2.2.keepB hb) hG)))
  clear hb H1 hG
  go_wp2_with fail
  refine (HCC.out g h _ _ w2 H2.out.2.2.1 H2.out.2.2.2).mono ?_
  rintro e w3 ⟨r, kr, rfl, hG, hb⟩
  have H3 := Lib.hid (And.intro (H2.out.1.trans (hb.mono H2.out.1.size)) (And.intro ((hb.block _ (lt_of_heap H2.out.2.1)).trans H2.out.2.1) hG))
  have HD := Lib.hid (result_any x r w3 (fun w => (hG.cl (wf_facts HWF.out.1).1).noErr w) (fun w1 hb1 => fromGo_any _ x (Nat.lt_succ_self _) HWF.out.1 HWF.out.2 r kr w1 (hG.keepB hb1)))
  clear hb H2 hG
  go_wp2_with fail
  refine HD.out.mono ?_
  rintro e w4 ⟨B3, d3, B4, d4, B5, d5, rfl, hM, hb⟩
  have hx := (hb.block _ (lt_of_heap H3.out.2.1)).trans H3.out.2.1
  have hs3 : w.heap.size + 2 < w3.heap.size := lt_of_heap H3.out.2.1
  have H4 := Lib.hid (And.intro (H3.out.1.trans (hb.mono H3.out.1.size)) (And.intro hM hs3))
  clear hb H3 hM hs3
  have y := sev_cells hx
  go_wp2_with fail
  have hz := sev_set hx (.int .i64 x.f0) (.int .i64 x.f1) (.string x.f2) (.slice B3 x.f3.length d3) (.slice B4 x.f4.length d4) (.slice B5 x.f5.length d5) (.int .i64 0)
  have hg := sev_grown w4 (w.heap.size + 1 + 1) (.int .i64 x.f0) (.int .i64 x.f1) (.string x.f2) (.slice B3 x.f3.length d3) (.slice B4 x.f4.length d4) (.slice B5 x.f5.length d5) (.int .i64 0)
  obtain ⟨W2, hW⟩ : ∃ W2, W2 = ((((((w4.setCell ⟨w.heap.size + 1 + 1, 0, none⟩ (.int .i64 x.f0)).setCell ⟨w.heap.size + 1 + 1, 1, none⟩ (.int .i64 x.f1)).setCell ⟨w.heap.size + 1 + 1, 2, none⟩ (.string x.f2)).setCell ⟨w.heap.size + 1 + 1, 3, none⟩ (.slice B3 x.f3.length d3)).setCell ⟨w.heap.size + 1 + 1, 4, none⟩ (.slice B4 x.f4.length d4)).setCell ⟨w.heap.size + 1 + 1, 5, none⟩ (.slice B5 x.f5.length d5)).setCell ⟨w.heap.size + 1 + 1, 6, none⟩ (.int .i64 0) := ⟨_, rfl⟩
  rw [← hW] at hz hg ⊢
  clear hW y hx
  obtain ⟨q0, q1, q2, q3, q4, q5, q6, _⟩ := sev_cells hz
  refine bodyPost_ret (v := .agg #[.int .i64 x.f0, .int .i64 x.f1, .string x.f2, .slice B3 x.f3.length d3, .slice B4 x.f4.length d4, .slice B5 x.f5.length d5, .int .i64 0]) (by simp [results, Tryz.results18, go_sem, q0, q1, q2, q3, q4, q5, q6]) rfl ?_
  have hs3 := H4.out.2.2
  have hM4 := Kd.M_grown H4.out.2.1 hg (fun k hk e => by cases e; have : w3.heap.size ≤ w.heap.size + 1 + 1 := hk; omega)
  exact ⟨B3, d3, B4, d4, B5, d5, rfl, k26.M_mono (fun k hk => by show w.heap.size ≤ k; have : w3.heap.size ≤ k := hk; omega) (k26.M_lower (by omega) hM4), H4.out.1.grown hg H4.out.1.size (fun k hk => by cases hk; omega)⟩
end Go.Proofs.YtdaiodiafahkkaaGreatDoor.NumA
/-
spec.Same, laws.told, laws.given at any two values.
-/
set_option linter.unusedSimpArgs false
set_option linter.unusedVariables false
namespace Go.Proofs.YtdaiodiafahkkaaGreatDoor.NumA
open Go.RowKit Go.Lib Go.Proofs.YtdaiodiafahkkaaGreatDoor.ValA Go.Proofs.YtdaiodiafahkkaaGreatDoor.FloH Go.Proofs.YtdaiodiafahkkaaGreatDoorW.PrintWords Go.Proofs.YtdaiodiafahkkaaGreatDoorW.PrintLast Go.Proofs.YtdaiodiafahkkaaGreatDoorW.PrintMore Go.Proofs.YtdaiodiafahkkaaGreatDoor.PzzFits1
theorem same_at (kx ky h k : Int) (r r' : Rest) (c0 : Int) (w : World) (HC : ∀ w1, Below w.heap.size w w1 → Calls Tryz.prog 45 #[vl kx h r, vl ky k r'] w1 fun e w' => e = .returned (.int .i64 c0) ∧ Below w1.heap.size w1 w') :
    Calls Tryz.prog 22 #[vl kx h r, vl ky k r'] w fun e w' => e = .returned (.bool (c0 == 0)) ∧ Below w.heap.size w w' := by
  replace HC := Lib.hid HC
  obtain ⟨s, a, l, c, a1, l1, c1, a2, l2, c2⟩ := r
  obtain ⟨s', a', l', c', a1', l1', c1', a2', l2', c2'⟩ := r'
  simp only [vl] at HC ⊢
  go_enter Tryz.func22, Tryz.ntmps22
  go_wp2_with fail
  refine (HC.out _ (((Below.refl _ w).alloc (Nat.le_refl _) _).alloc (by simp) _)).mono ?_
  rintro e w1 ⟨rfl, hb⟩
  have HB := Lib.hid (Below.trans (((Below.refl _ w).alloc (Nat.le_refl _) (.cells #[.int .i64 kx, .int .i64 h, .string s, .slice a l c, .slice a1 l1 c1, .slice a2 l2 c2] 26)).alloc (by simp) (.cells #[.int .i64 ky, .int .i64 k, .string s', .slice a' l' c', .slice a1' l1' c1', .slice a2' l2' c2'] 26)) (hb.mono (by simp; omega)))
  clear hb
  go_wp2_with fail
  go_ret
  exact ⟨rfl, HB.out⟩
theorem told_at (kx ky h k : Int) (r r' : Rest) (t0 : Bool) (w : World) (HC : ∀ w1, Below w.heap.size w w1 → Calls Tryz.prog 22 #[vl kx h r, vl ky k r'] w1 fun e w' => e = .returned (.bool t0) ∧ Below w1.heap.size w1 w') :
    Calls Tryz.prog 32 #[rv kx h 0 r, vl ky k r', .int .i64 0] w fun e w' => e = .returned (.bool t0) ∧ Below w.heap.size w w' := by
  replace HC := Lib.hid HC
  obtain ⟨s, a, l, c, a1, l1, c1, a2, l2, c2⟩ := r
  obtain ⟨s', a', l', c', a1', l1', c1', a2', l2', c2'⟩ := r'
  simp only [vl, rv] at HC ⊢
  go_enter Tryz.func32, Tryz.ntmps32
  go_wp2_with fail
  refine (HC.out _ (((Below.refl _ w).alloc (Nat.le_refl _) _).alloc (by simp) _)).mono ?_
  rintro e w1 ⟨rfl, hb⟩
  have HB := Lib.hid (Below.trans (((Below.refl _ w).alloc (Nat.le_refl _) (.cells #[.int .i64 kx, .int .i64 h, .string s, .slice a l c, .slice a1 l1 c1, .slice a2 l2 c2, .int .i64 0] 30)).alloc (by simp) (.cells #[.int .i64 ky, .int .i64 k, .string s', .slice a' l' c', .slice a1' l1' c1', .slice a2' l2' c2'] 26)) (hb.mono (by simp; omega)))
  clear hb
  go_wp2_with fail
  go_ret
  exact ⟨rfl, HB.out⟩
theorem given_at (kx ky h k : Int) (r r' : Rest) (t0 : Bool) (w : World) (HC : ∀ w1, Below w.heap.size w w1 → Calls Tryz.prog 22 #[vl kx h r, vl ky k r'] w1 fun e w' => e = .returned (.bool t0) ∧ Below w1.heap.size w1 w') :
    Calls Tryz.prog 19 #[rv kx h 0 r, vl ky k r'] w fun e w' => e = .returned (.bool t0) ∧ Below w.heap.size w w' := by
  replace HC := Lib.hid (fun w1 (hb : Below w.heap.size w w1) => told_at kx ky h k r r' t0 w1 (fun w2 hb2 => HC w2 (hb.trans (hb2.mono hb.size))))
  obtain ⟨s, a, l, c, a1, l1, c1, a2, l2, c2⟩ := r
  obtain ⟨s', a', l', c', a1', l1', c1', a2', l2', c2'⟩ := r'
  simp only [vl, rv] at HC ⊢
  go_enter Tryz.func19, Tryz.ntmps19
  go_wp2_with fail
  refine (HC.out _ (((Below.refl _ w).alloc (Nat.le_refl _) _).alloc (by simp) _)).mono ?_
  rintro e w1 ⟨rfl, hb⟩
  have HB := Lib.hid (Below.trans (((Below.refl _ w).alloc (Nat.le_refl _) (.cells #[.int .i64 kx, .int .i64 h, .string s, .slice a l c, .slice a1 l1 c1, .slice a2 l2 c2, .int .i64 0] 30)).alloc (by simp) (.cells #[.int .i64 ky, .int .i64 k, .string s', .slice a' l' c', .slice a1' l1' c1', .slice a2' l2' c2'] 26)) (hb.mono (by simp; omega)))
  clear hb
  go_wp2_with fail
  go_ret
  exact ⟨rfl, HB.out⟩
/-- Same at any two values. -/
theorem same_any (w0 : World) (x y : V) (hx : WL x) (hy : WL y) {A3 A4 A5 B3 B4 B5 : Option Addr} {c3 c4 c5 d3 d4 d5 : Nat} (hKx : k26.K w0 x [.int .i64 x.f0, .int .i64 x.f1, .string x.f2, .slice A3 x.f3.length c3, .slice A4 x.f4.length c4, .slice A5 x.f5.length c5])
    (hKy : k26.K w0 y [.int .i64 y.f0, .int .i64 y.f1, .string y.f2, .slice B3 y.f3.length d3, .slice B4 y.f4.length d4, .slice B5 y.f5.length d5]) (w : World) (hb : Below w0.heap.size w0 w) :
    Calls Tryz.prog 22 #[vl x.f0 x.f1 ⟨x.f2, A3, x.f3.length, c3, A4, x.f4.length, c4, A5, x.f5.length, c5⟩, vl y.f0 y.f1 ⟨y.f2, B3, y.f3.length, d3, B4, y.f4.length, d4, B5, y.f5.length, d5⟩] w fun e w' => e = .returned (.bool (cmpV x y == 0)) ∧ Below w.heap.size w w' :=
  same_at x.f0 y.f0 x.f1 y.f1 _ _ (cmpV x y) w fun w1 hb1 => cmp_any w0 _ x (Nat.lt_succ_self _) hx y hy _ _ hKx hKy w1 (hb.trans (hb1.mono hb.size))
theorem given_any (w0 : World) (x y : V) (hx : WL x) (hy : WL y) {A3 A4 A5 B3 B4 B5 : Option Addr} {c3 c4 c5 d3 d4 d5 : Nat} (hKx : k26.K w0 x [.int .i64 x.f0, .int .i64 x.f1, .string x.f2, .slice A3 x.f3.length c3, .slice A4 x.f4.length c4, .slice A5 x.f5.length c5])
    (hKy : k26.K w0 y [.int .i64 y.f0, .int .i64 y.f1, .string y.f2, .slice B3 y.f3.length d3, .slice B4 y.f4.length d4, .slice B5 y.f5.length d5]) (w : World) (hb : Below w0.heap.size w0 w) :
    Calls Tryz.prog 19 #[rv x.f0 x.f1 0 ⟨x.f2, A3, x.f3.length, c3, A4, x.f4.length, c4, A5, x.f5.length, c5⟩, vl y.f0 y.f1 ⟨y.f2, B3, y.f3.length, d3, B4, y.f4.length, d4, B5, y.f5.length, d5⟩] w fun e w' => e = .returned (.bool (cmpV x y == 0)) ∧ Below w.heap.size w w' :=
  given_at x.f0 y.f0 x.f1 y.f1 _ _ _ w fun w1 hb1 => same_any w0 x y hx hy hKx hKy w1 (hb.trans (hb1.mono hb.size))
end Go.Proofs.YtdaiodiafahkkaaGreatDoor.NumA
/-
Sums of two strings, of two arrays.
-/
set_option linter.unusedSimpArgs false
set_option linter.unusedVariables false
namespace Go.Proofs.YtdaiodiafahkkaaGreatDoor.NumA
open Go.RowKit Go.Lib Go.Proofs.YtdaiodiafahkkaaGreatDoor.ValA Go.Proofs.YtdaiodiafahkkaaGreatDoor.FloH Go.Proofs.YtdaiodiafahkkaaGreatDoorW.PrintWords Go.Proofs.YtdaiodiafahkkaaGreatDoorW.PrintLast Go.Proofs.YtdaiodiafahkkaaGreatDoorW.PrintMore Go.Proofs.YtdaiodiafahkkaaGreatDoor.PzzFits1
set_option maxRecDepth 100000 in
set_option maxHeartbeats 4000000 in
theorem bin_add_ss (Q : Ending → World → Prop) (s t : ByteArray) (w : World) (HC : Calls Tryz.prog 96 #[.string s, .string t] w fun e w' => ∃ v, e = .returned v ∧ Q e w') :
    Calls Tryz.prog 90 #[.iface 9 (.string s), .iface 9 (.string t), Value.func (Fn.func 91) #[] #[], Value.func (Fn.func 94) #[] #[], Value.func (Fn.func 95) #[] #[], Value.func (Fn.func 96) #[] #[], Value.func (Fn.func 97) #[] #[], Value.func (Fn.func 98) #[] #[], Value.func (Fn.func 100) #[] #[]] w fun e w' => ∃ v, e = .returned v ∧ Q e w' := by
  have H := Lib.hid HC
  clear HC
  have faJ := fun w => qSJ (.string s) w
  have faI := fun w => qSI (.string s) w
  have faF := fun w => qSF (.string s) w
  have faB := fun w => qSB (.string s) w
  have gaS := fun w => qS (.string s) w
  have fbJ := fun w => qSJ (.string t) w
  have gbS := fun w => qS (.string t) w
  go_enter Tryz.func90, Tryz.ntmps90
  go_wp2_with fail
  refine H.out.mono ?_
  rintro e w1 ⟨v, rfl, hq⟩
  have HB := Lib.hid hq; clear hq
  go_wp2_with fail
  go_ret
  exact ⟨_, rfl, HB.out⟩
set_option maxRecDepth 100000 in
set_option maxHeartbeats 4000000 in
theorem bin_add_ll (Q : Ending → World → Prop) (A B : Option Addr) (n m : Nat) (w : World) (HC : Calls Tryz.prog 97 #[.slice A n n, .slice B m m] w fun e w' => ∃ v, e = .returned v ∧ Q e w') :
    Calls Tryz.prog 90 #[.iface 85 (.slice A n n), .iface 85 (.slice B m m), Value.func (Fn.func 91) #[] #[], Value.func (Fn.func 94) #[] #[], Value.func (Fn.func 95) #[] #[], Value.func (Fn.func 96) #[] #[], Value.func (Fn.func 97) #[] #[], Value.func (Fn.func 98) #[] #[], Value.func (Fn.func 100) #[] #[]] w fun e w' => ∃ v, e = .returned v ∧ Q e w' := by
  have H := Lib.hid HC
  clear HC
  have faJ := fun w => qLJ (.slice A n n) w
  have faI := fun w => qLI (.slice A n n) w
  have faF := fun w => qLF (.slice A n n) w
  have faB := fun w => qLB (.slice A n n) w
  have faS := fun w => qLS (.slice A n n) w
  have gaL := fun w => qL (.slice A n n) w
  have fbJ := fun w => qLJ (.slice B m m) w
  have gbL := fun w => qL (.slice B m m) w
  go_enter Tryz.func90, Tryz.ntmps90
  go_wp2_with fail
  refine H.out.mono ?_
  rintro e w1 ⟨v, rfl, hq⟩
  have HB := Lib.hid hq; clear hq
  go_wp2_with fail
  go_ret
  exact ⟨_, rfl, HB.out⟩
set_option maxRecDepth 100000 in
set_option maxHeartbeats 4000000 in
theorem bin_add_mm (Q : Ending → World → Prop) (b c : Option Nat) (w : World) (HC : Calls Tryz.prog 98 #[.map b, .map c] w fun e w' => ∃ v, e = .returned v ∧ Q e w') :
    Calls Tryz.prog 90 #[.iface 88 (.map b), .iface 88 (.map c), Value.func (Fn.func 91) #[] #[], Value.func (Fn.func 94) #[] #[], Value.func (Fn.func 95) #[] #[], Value.func (Fn.func 96) #[] #[], Value.func (Fn.func 97) #[] #[], Value.func (Fn.func 98) #[] #[], Value.func (Fn.func 100) #[] #[]] w fun e w' => ∃ v, e = .returned v ∧ Q e w' := by
  have H := Lib.hid HC
  clear HC
  have faJ := fun w => qMJ (.map b) w
  have faI := fun w => qMI (.map b) w
  have faF := fun w => qMF (.map b) w
  have faB := fun w => qMB (.map b) w
  have faS := fun w => qMS (.map b) w
  have faL := fun w => qML (.map b) w
  have gaM := fun w => qM (.map b) w
  have fbJ := fun w => qMJ (.map c) w
  have gbM := fun w => qM (.map c) w
  go_enter Tryz.func90, Tryz.ntmps90
  go_wp2_with fail
  refine H.out.mono ?_
  rintro e w1 ⟨v, rfl, hq⟩
  have HB := Lib.hid hq; clear hq
  go_wp2_with fail
  go_ret
  exact ⟨_, rfl, HB.out⟩
theorem add_strs (s t : ByteArray) (hs : s.size + t.size ≤ 9223372036854775807) (w : World) : Calls Tryz.prog 96 #[.string s, .string t] w (Gv (.iface 9 (.string (s ++ t))) w) := by
  have hr : ∀ w, (Op.stringOp .add s t).run Tryz.prog w = .ok (.string (s ++ t)) w := fun w => run_string_add_sum w s t hs
  clear hs
  go_enter Tryz.func96, Tryz.ntmps96
  go_wp2_with fail
  go_ret
  exact ⟨rfl, Below.refl _ _⟩
theorem wp_copy_run {P : Program} {ops : Array Oper} {rest : List Oper} {o : Oper} {a : Act} {Q : Exit → Act → World → Prop} (hgd : o.guard = none) (s x : Operand) (t : TypeId) (ho : o.op = .call { callee := .builtin .copy, args := #[s, x], argTypes := #[t, t] })
    (v y : Value) (hs : a.eval s = v) (hx : a.eval x = y) {W w1 : World} {v1 : Value} (hrun : (Builtin.copy_ #[t, t] o.type #[v, y]).run P W = .ok v1 w1) (h : wpList P ops Q rest (a.put o.dst v1) w1) : wpList P ops Q (o :: rest) a W := by
  refine wpList_plain hgd fun K' hK' => ?_
  unfold Oper.wp
  simp [execOp, ho, resolve, invoke, builtin, hs, hx, hrun, Result.andThen]
  exact hK' _ _ h
theorem runMakeB (n : Nat) (hn : n ≤ 10000000) (w : World) : (Instr.makeSlice 85 (.int .i64 n) (.int .i64 n)).run Tryz.prog w = .ok (.slice (some ⟨w.heap.size, 0, none⟩) n n) (w.alloc (.cells (List.replicate n Value.nilIface).toArray 20)) := by
  have hi := info_any
  cases h : Tryz.prog.info? 20 with
  | none => rw [h] at hi; cases hi
  | some i =>
    rw [h] at hi
    have hi := Option.some.inj hi
    simp only [Prod.mk.injEq] at hi
    obtain ⟨h1, h2, h3⟩ := hi
    have := run_makeSlice (P := Tryz.prog) w 85 20 i .nilIface Tryz.underlying85 h h1 .i64 .i64 (n : Int) (n : Int) (by omega) (by omega) (by rw [h2]; omega) (by rw [h3]; omega) (by omega)
    rw [this, Int.toNat_natCast, h2, made_nil]
theorem info_anyk : (Tryz.prog.info? 20).map (·.size) = some 1 := by kernel_rfl
theorem G.one {n : Nat} {w : World} {x : V} {g : Value} (h : G n w x g) : g.oneCell' = true := by
  rcases h.shape with rfl | ⟨t, v, rfl⟩ <;> rfl
/-- What a sum of two arrays gives. -/
def AddLs (w : World) (vs us : List Value) (e : Ending) (w' : World) : Prop := e = .returned (.iface 85 (.slice (some ⟨w.heap.size, 0, none⟩) (vs.length + us.length) (vs.length + us.length))) ∧ w'.heap[w.heap.size]? = some (.cells (vs ++ us).toArray 20 (0, 0)) ∧ Below w.heap.size w w'
theorem copies {w : World} {b c : Nat} {vs us : List Value} (hb : w.heap[b]? = some (.cells vs.toArray 20 (0, 0))) (hc : w.heap[c]? = some (.cells us.toArray 20 (0, 0))) (h1 : ∀ v ∈ vs, v.oneCell' = true) (h2 : ∀ v ∈ us, v.oneCell' = true) (ty : TypeId) :
    ∃ W1 W2, (Builtin.copy_ #[85, 85] ty #[.slice (some ⟨w.heap.size, 0, none⟩) (vs.length + us.length) (vs.length + us.length), .slice (some ⟨b, 0, none⟩) vs.length vs.length]).run Tryz.prog (w.alloc (.cells (List.replicate (vs.length + us.length) Value.nilIface).toArray 20)) = .ok (.int .i64 vs.length) W1 ∧
      (Builtin.copy_ #[85, 85] ty #[.slice (some ⟨w.heap.size, vs.length, none⟩) us.length us.length, .slice (some ⟨c, 0, none⟩) us.length us.length]).run Tryz.prog W1 = .ok (.int .i64 us.length) W2 ∧ W2.heap[w.heap.size]? = some (.cells (vs ++ us).toArray 20 (0, 0)) ∧ Below w.heap.size w W2 := by
  have ha := heap_alloc_new w (.cells (List.replicate (vs.length + us.length) Value.nilIface).toArray 20)
  have hb' := (Below.heap_alloc w (.cells (List.replicate (vs.length + us.length) Value.nilIface).toArray 20) b (lt_of_heap hb)).trans hb
  have hc' := (Below.heap_alloc w (.cells (List.replicate (vs.length + us.length) Value.nilIface).toArray 20) c (lt_of_heap hc)).trans hc
  have hlb := lt_of_heap hb
  have hlc := lt_of_heap hc
  have hb0 : Below w.heap.size w (w.alloc (.cells (List.replicate (vs.length + us.length) Value.nilIface).toArray 20)) := (Below.refl _ w).alloc (Nat.le_refl _) _
  generalize w.alloc (.cells (List.replicate (vs.length + us.length) Value.nilIface).toArray 20) = W0 at *
  have r1 := run_copy_row (P := Tryz.prog) W0 85 85 ty 20 w.heap.size 0 (vs.length + us.length) (vs.length + us.length) ⟨b, 0, none⟩ vs.length vs.length _ 20 vs Tryz.underlying85 info_anyk ha (Nat.min_eq_left (by omega)).symm
    (fun j v hv => by rw [add_at, Nat.zero_add, cell_of_row W0 b j _ _ _ hb']; simpa using hv) (by simp) h1
  have e1 : (List.replicate (vs.length + us.length) Value.nilIface).toArray.toList.take 0 ++ vs ++ (List.replicate (vs.length + us.length) Value.nilIface).toArray.toList.drop (0 + vs.length) = vs ++ List.replicate us.length Value.nilIface := by simp
  rw [e1] at r1
  have hg1 := setRow_heap W0 w.heap.size _ (vs ++ List.replicate us.length Value.nilIface).toArray 20 (0, 0) ha
  have hc1 := (setRow_other W0 w.heap.size c (vs ++ List.replicate us.length Value.nilIface).toArray (by omega)).trans hc'
  have hb1 : Below w.heap.size w (W0.setRow w.heap.size (vs ++ List.replicate us.length Value.nilIface).toArray) := below_setRow hb0 (Nat.le_refl _) _
  generalize W0.setRow w.heap.size (vs ++ List.replicate us.length Value.nilIface).toArray = W1 at *
  have r2 := run_copy_row (P := Tryz.prog) W1 85 85 ty 20 w.heap.size vs.length us.length us.length ⟨c, 0, none⟩ us.length us.length _ 20 us Tryz.underlying85 info_anyk hg1 (Nat.min_eq_left (by omega)).symm
    (fun j v hv => by rw [add_at, Nat.zero_add, cell_of_row W1 c j _ _ _ hc1]; simpa using hv) (by simp) h2
  have e2 : (vs ++ List.replicate us.length Value.nilIface).toArray.toList.take vs.length ++ us ++ (vs ++ List.replicate us.length Value.nilIface).toArray.toList.drop (vs.length + us.length) = vs ++ us := by simp
  rw [e2] at r2
  exact ⟨W1, _, r1, r2, setRow_heap W1 w.heap.size _ _ _ _ hg1, below_setRow hb1 (Nat.le_refl _) _⟩
set_option maxRecDepth 100000 in
set_option maxHeartbeats 4000000 in
theorem add_lists (w : World) (b c n m : Nat) (vs us : List Value) (hn : vs.length = n) (hm : us.length = m) (hn0 : 0 < n) (hm0 : 0 < m) (hnb : n ≤ 2000000) (hmb : m ≤ 2000000) (hb : w.heap[b]? = some (.cells vs.toArray 20 (0, 0))) (hc : w.heap[c]? = some (.cells us.toArray 20 (0, 0))) (h1 : ∀ v ∈ vs, v.oneCell' = true) (h2 : ∀ v ∈ us, v.oneCell' = true) :
    Calls Tryz.prog 97 #[.slice (some ⟨b, 0, none⟩) n n, .slice (some ⟨c, 0, none⟩) m m] w (AddLs w vs us) := by
  obtain ⟨W1, W2, r1, r2, hg, hbb⟩ := copies hb hc h1 h2 3
  obtain ⟨p, hp⟩ : ∃ p, p = n + m := ⟨_, rfl⟩
  have hw : wrap64 ((n : Int) + (m : Int)) = (p : Int) := by unfold wrap64; omega
  have hmk := fun w => runMakeB p (by omega) w
  rw [show ((p : Nat) : Int) = (n : Int) + (m : Int) by omega] at hmk
  have f1 : ((n : Int) == 0) = false := by simp; omega
  have f2 : ((m : Int) == 0) = false := by simp; omega
  have f3 : (n == 0) = false := by simp; omega
  have f4 : (m == 0) = false := by simp; omega
  rw [hn, hm, ← hp] at r1
  rw [hn, hm] at r2
  rw [List.toArray_replicate] at r1
  have HF := Lib.hid (And.intro hg (And.intro hbb (And.intro hn (And.intro hm hp))))
  have HR := Lib.hid (And.intro r1 r2)
  have hnp : n ≤ p := by omega
  have hpm : p - n = m := by omega
  have hpne : ¬ (p = n) := by omega
  have hlt : decide ((n : Int) ≤ (p : Int)) = true := decide_eq_true (by omega)
  clear hb hc h1 h2 hg hbb r1 r2 hn hm hp hn0 hm0
  go_enter Tryz.func97, Tryz.ntmps97
  go_wp2_with (first
    | ((with_reducible refine gate_builtin (b := .copy) (xs := #[.tmp 22, .tmp 23]) rfl ?_); refine wp_copy_run rfl (.tmp 22) (.tmp 23) 85 rfl _ _ rfl rfl HR.out.1 ?_)
    | ((with_reducible refine gate_builtin (b := .copy) (xs := #[.tmp 28, .tmp 29]) rfl ?_); refine wp_copy_run rfl (.tmp 28) (.tmp 29) 85 rfl _ _ rfl rfl HR.out.2 ?_))
  go_ret
  refine ⟨?_, HF.out.1, HF.out.2.1⟩
  rw [HF.out.2.2.1, HF.out.2.2.2.1, ← HF.out.2.2.2.2]
  rfl
end Go.Proofs.YtdaiodiafahkkaaGreatDoor.NumA
/-
maps.Copy's contract at this program (after the print of the kit's lay-plain).
-/
namespace Go.Proofs
open Go.Shelf
def Tryz.copyM_ren : Go.Shelf.Ren := ⟨fun | 5 => 99 | n => n, fun | 23 => 88 | 24 => 88 | 26 => 9 | 27 => 20 | 0 => 0 | 4 => 4 | n => n, fun | n => n⟩
theorem Tryz.copyM : Go.Proofs.SlLaysX.n5 Tryz.prog Tryz.copyM_ren := {
  mixed := by kernel_rfl
  f5 := ⟨Tryz.f99.name, by decide, Tryz.func99.trans (congrArg some (by kernel_rfl))⟩
  t0 := Tryz.underlying0
  a0 := Tryz.isAgg0
  z0 := Tryz.sizeOf0
  v0 := Tryz.zeroValue0
  t4 := Tryz.underlying4
  a4 := Tryz.isAgg4
  z4 := Tryz.sizeOf4
  v4 := Tryz.zeroValue4
  t23 := Tryz.underlying88
  a23 := Tryz.isAgg88
  z23 := Tryz.sizeOf88
  v23 := Tryz.zeroValue88
  t24 := Tryz.underlying88
  a24 := Tryz.isAgg88
  z24 := Tryz.sizeOf88
  v24 := Tryz.zeroValue88
  a26 := Tryz.isAgg9
  z26 := Tryz.sizeOf9
  a27 := Tryz.isAgg20
  z27 := Tryz.sizeOf20 }
end Go.Proofs
/-
Sums of two maps.
-/
set_option linter.unusedSimpArgs false
set_option linter.unusedVariables false
namespace Go.Proofs.YtdaiodiafahkkaaGreatDoor.NumA
open Go.RowKit Go.Lib Go.Proofs.YtdaiodiafahkkaaGreatDoor.ValA Go.Proofs.YtdaiodiafahkkaaGreatDoor.FloH Go.Proofs.YtdaiodiafahkkaaGreatDoorW.PrintWords Go.Proofs.YtdaiodiafahkkaaGreatDoorW.PrintLast Go.Proofs.YtdaiodiafahkkaaGreatDoorW.PrintMore Go.Proofs.YtdaiodiafahkkaaGreatDoor.PzzFits1
/-- An element of a map, read as itself. -/
def R1 (v : Value) : Option (DataW Value × List MemPlace) := some (.held v, [])
/-- A map's entries as a datum. -/
def IsV (es : List MapEntry) (D : DataW Value) : Prop := D = .map ((es.map (WideElems.rg Tryz.prog 9 R1)).foldr DataW.insert [])
theorem rgV {es : List MapEntry} {c : Nat} (F : WideElems.Fit Tryz.prog 9 R1 es.toArray c) {e : MapEntry} (he : e ∈ es) : ∃ kl, keyOf Tryz.prog 9 e.key = some kl ∧ WideElems.rg Tryz.prog 9 R1 e = (kl, .held e.val) := by
  obtain ⟨y, hy⟩ := F.reads e (by simpa using he)
  have h1 := WideElems.rd_key hy
  refine ⟨y.1, h1, ?_⟩
  rw [WideElems.rg_of hy]
  unfold WideElems.rd at hy
  rw [h1] at hy
  simp only [Option.bind_some, R1, Option.map_some, Option.some.injEq] at hy
  exact hy.symm
theorem hasV {es : List MapEntry} {c : Nat} {D : DataW Value} (F : WideElems.Fit Tryz.prog 9 R1 es.toArray c) (hD : IsV es D) {s : ByteArray} (hs : s.size ≤ 9223372036854775807) : Maps.has D (.string s.data.toList) = true ↔ ∃ e ∈ es, e.key = .string s := by
  unfold IsV at hD
  subst hD
  rw [Maps.has_eq, List.any_eq_true]
  constructor
  · rintro ⟨p, hp, hk⟩
    obtain ⟨e, he, rfl⟩ := List.mem_map.1 (mem_sorted.1 hp)
    obtain ⟨kl, h1, h2⟩ := rgV F he
    rw [h2] at hk
    obtain rfl : kl = .string s.data.toList := WideAt.sameKey_eq hk
    exact ⟨e, he, keyedS.inj h1 (key_lit s hs)⟩
  · rintro ⟨e, he, hk⟩
    obtain ⟨kl, h1, h2⟩ := rgV F he
    rw [hk, key_lit s hs] at h1
    obtain rfl := Option.some.inj h1
    exact ⟨_, mem_sorted.2 (List.mem_map.2 ⟨e, he, rfl⟩), by rw [h2]; exact WideAt.sameKey_self trivial⟩
theorem apart_sorted {l : List (Lit × DataW Value)} (h : l.Pairwise (fun p q => p.1 ≠ q.1)) : (l.foldr DataW.insert []).Pairwise (fun p q => p.1 ≠ q.1) :=
  ((WideShapes.sorted_perm l).pairwise_iff (fun {_ _} hne => Ne.symm hne)).2 h
theorem apartV {es : List MapEntry} {c : Nat} (F : WideElems.Fit Tryz.prog 9 R1 es.toArray c) : ((es.map (WideElems.rg Tryz.prog 9 R1)).foldr DataW.insert []).Pairwise (fun p q => p.1 ≠ q.1) :=
  apart_sorted (by have h := Maps.fit_apart keyedS F; rw [List.toList_toArray] at h; exact h)
theorem keysV {es : List MapEntry} {c : Nat} (F : WideElems.Fit Tryz.prog 9 R1 es.toArray c) : ∀ p ∈ (es.map (WideElems.rg Tryz.prog 9 R1)).foldr DataW.insert [], WideAt.IsKeyLit p.1 := by
  intro p hp
  obtain ⟨e, he, hpe⟩ := List.mem_map.1 (mem_sorted.1 hp)
  obtain ⟨kl, h1, h2⟩ := rgV F he
  rw [← hpe, h2]
  exact keyedS.key h1
theorem atV {es : List MapEntry} {c : Nat} {D : DataW Value} (F : WideElems.Fit Tryz.prog 9 R1 es.toArray c) (hD : IsV es D) {s : ByteArray} (hs : s.size ≤ 9223372036854775807) {e : MapEntry} (he : e ∈ es) (hk : e.key = .string s) (z : DataW Value) : D.atKey (.string s.data.toList) z = .held e.val := by
  unfold IsV at hD
  subst hD
  obtain ⟨kl, h1, h2⟩ := rgV F he
  rw [hk, key_lit s hs] at h1
  obtain rfl := Option.some.inj h1
  exact WideAt.atKey_mem z trivial (apartV F) (mem_sorted.2 (by rw [← h2]; exact List.mem_map.2 ⟨e, he, rfl⟩))
theorem mergeV {Dd : DataW Value} (hm : Maps.IsMap Dd) {l : List (Lit × DataW Value)} (hk : ∀ p ∈ l, WideAt.IsKeyLit p.1) (hp : l.Pairwise (fun p q => p.1 ≠ q.1)) (k : Lit) (z : DataW Value) :
    Maps.has (Lib.mergeD Dd (.map l)) k = (Maps.has Dd k || Maps.has (.map l) k) ∧ (Lib.mergeD Dd (.map l)).atKey k z = if Maps.has (.map l) k = true then (DataW.map l).atKey k z else Dd.atKey k z := by
  refine ⟨Maps.has_foldPut k l Dd hm hk, ?_⟩
  refine (Maps.atKey_foldPut k z l Dd hm hk hp).trans ?_
  cases hf : l.find? (fun p => p.1.sameKey k) with
  | none =>
    have h0 : Maps.has (.map l) k = false := by
      rw [Maps.has_eq]
      exact List.any_eq_false.2 (fun p hp => by simpa using List.find?_eq_none.1 hf p hp)
    simp [h0]
  | some p =>
    have h1 : Maps.has (.map l) k = true := by
      rw [Maps.has_eq]
      exact List.any_eq_true.2 ⟨p, List.mem_of_find?_eq_some hf, List.find?_some (p := fun (q : Lit × DataW Value) => q.1.sameKey k) hf⟩
    have h2 : (DataW.map l).atKey k z = p.2 := by
      simp [DataW.atKey, hf]
    simp [h1, h2]
theorem isMap_merge {Dd : DataW Value} (hm : Maps.IsMap Dd) : ∀ l : List (Lit × DataW Value), Maps.IsMap (Lib.mergeD Dd (.map l)) := by
  intro l
  show Maps.IsMap (l.foldl (fun D p => D.put p.1 p.2) Dd)
  induction l generalizing Dd with
  | nil => exact hm
  | cons a r ih => exact ih (hm.put _ _)
/-- es holds e1's entries and e2's; where both have a key, e2's element stands. -/
def Merges (es e1 e2 : List MapEntry) : Prop := (∀ s : ByteArray, (∃ e ∈ es, e.key = .string s) ↔ (∃ e ∈ e1, e.key = .string s) ∨ ∃ e ∈ e2, e.key = .string s) ∧
  ∀ e ∈ es, ∀ s : ByteArray, e.key = .string s → (∀ d ∈ e2, d.key = .string s → e.val = d.val) ∧ ((∀ d ∈ e2, d.key ≠ .string s) → ∀ d ∈ e1, d.key = .string s → e.val = d.val)
theorem held_inj {v u : Value} (h : (DataW.held v : DataW Value) = .held u) : v = u := by cases h; rfl
theorem size_key {es : List MapEntry} {c : Nat} (F : WideElems.Fit Tryz.prog 9 R1 es.toArray c) {e : MapEntry} (he : e ∈ es) : ∃ t : ByteArray, e.key = .string t ∧ t.size ≤ 9223372036854775807 := by
  obtain ⟨kl, h1, _⟩ := rgV F he
  obtain ⟨x, e1, _, hx⟩ := Maps.keyOf_str Tryz.underlying9 h1
  exact ⟨⟨x.toArray⟩, by rw [e1], hx⟩
theorem merges_of {es e1 e2 : List MapEntry} {c c1 c2 : Nat} {D D1 D2 : DataW Value} (F : WideElems.Fit Tryz.prog 9 R1 es.toArray c) (F1 : WideElems.Fit Tryz.prog 9 R1 e1.toArray c1) (F2 : WideElems.Fit Tryz.prog 9 R1 e2.toArray c2)
    (hD : IsV es D) (hD1 : IsV e1 D1) (hD2 : IsV e2 D2) (he : D = Lib.mergeD (Lib.mergeD (.map []) D1) D2) : Merges es e1 e2 := by
  have hh : ∀ k z, Maps.has D k = (Maps.has D1 k || Maps.has D2 k) ∧ D.atKey k z = if Maps.has D2 k = true then D2.atKey k z else if Maps.has D1 k = true then D1.atKey k z else z := by
    intro k z
    rw [he]
    have h1 := hD1
    have h2 := hD2
    unfold IsV at h1 h2
    rw [h1, h2]
    have m1 := mergeV (Maps.isMap_empty (H := Value)) (keysV F1) (apartV F1) k z
    have m2 := mergeV (isMap_merge (Maps.isMap_empty (H := Value)) ((e1.map (WideElems.rg Tryz.prog 9 R1)).foldr DataW.insert [])) (keysV F2) (apartV F2) k z
    rw [m2.1, m2.2, m1.1, m1.2]
    exact ⟨by show ((false || _) || _) = _; rw [Bool.false_or], rfl⟩
  have hx : ∀ s : ByteArray, s.size ≤ 9223372036854775807 → ((∃ e ∈ es, e.key = .string s) ↔ (∃ e ∈ e1, e.key = .string s) ∨ ∃ e ∈ e2, e.key = .string s) := by
    intro s hs
    rw [← hasV F hD hs, ← hasV F1 hD1 hs, ← hasV F2 hD2 hs, (hh _ .nil).1, Bool.or_eq_true]
  refine ⟨fun s => ⟨fun h => ?_, fun h => ?_⟩, fun e hm s hk => ?_⟩
  · obtain ⟨e, h1, h2⟩ := h
    obtain ⟨t, e3, ht⟩ := size_key F h1
    rw [h2] at e3
    cases e3
    exact (hx s ht).1 ⟨e, h1, h2⟩
  · rcases h with ⟨e, h1, h2⟩ | ⟨e, h1, h2⟩
    · obtain ⟨t, e3, ht⟩ := size_key F1 h1
      rw [h2] at e3
      cases e3
      exact (hx s ht).2 (.inl ⟨e, h1, h2⟩)
    · obtain ⟨t, e3, ht⟩ := size_key F2 h1
      rw [h2] at e3
      cases e3
      exact (hx s ht).2 (.inr ⟨e, h1, h2⟩)
  · obtain ⟨t, e3, hs⟩ := size_key F hm
    rw [hk] at e3
    cases e3
    have ha := atV F hD hs hm hk .nil
    rw [(hh _ .nil).2] at ha
    refine ⟨fun d hd hkd => ?_, fun hno d hd hkd => ?_⟩
    · rw [if_pos ((hasV F2 hD2 hs).2 ⟨d, hd, hkd⟩), atV F2 hD2 hs hd hkd] at ha
      exact (held_inj ha).symm
    · rw [if_neg (fun h => by obtain ⟨d, hd, hkd⟩ := (hasV F2 hD2 hs).1 h; exact hno d hd hkd), if_pos ((hasV F1 hD1 hs).2 ⟨d, hd, hkd⟩), atV F1 hD1 hs hd hkd] at ha
      exact (held_inj ha).symm
theorem fitV {es : List MapEntry} {c : Nat} {l : List ByteArray} (hst : MapKept.Stamped es.toArray c) (hn : es.length ≤ 2000000) (hk : KeysAre es l) : WideElems.Fit Tryz.prog 9 R1 es.toArray c := by
  refine ⟨by unfold maxLen; simp; omega, hst, fun x hx => ?_⟩
  obtain ⟨t, e1, e2⟩ := hk.all x (by simpa using hx)
  refine ⟨(.string t.data.toList, .held x.val), ?_⟩
  unfold WideElems.rd
  rw [e1, key_lit t e2]
  rfl
/-- What a sum of two maps gives. -/
def AddMs (w : World) (e1 e2 : List MapEntry) (e : Ending) (w' : World) : Prop :=
  ∃ (es : List MapEntry) (k : Nat), e = .returned (.iface 88 (.map (some w.heap.size))) ∧ w'.heap[w.heap.size]? = some (.map es.toArray k) ∧ MapKept.Stamped es.toArray k ∧ (∀ e ∈ es, ∃ t : ByteArray, e.key = .string t ∧ t.size ≤ 9223372036854775807) ∧ Merges es e1 e2 ∧ Below w.heap.size w w'
theorem sizeV {es : List MapEntry} {D : DataW Value} (hD : IsV es D) : Maps.size D = es.length := by
  unfold IsV at hD
  subst hD
  simp [Maps.size, length_sorted]
set_option maxRecDepth 100000 in
set_option maxHeartbeats 4000000 in
theorem add_maps (w : World) (b c n m c1 c2 : Nat) (e1 e2 : List MapEntry) (l1 l2 : List ByteArray) (hn : e1.length = n) (hm : e2.length = m) (hn0 : 0 < n) (hm0 : 0 < m) (hnb : n ≤ 1000000) (hmb : m ≤ 1000000) (hb : w.heap[b]? = some (.map e1.toArray c1)) (hc : w.heap[c]? = some (.map e2.toArray c2))
    (hs1 : MapKept.Stamped e1.toArray c1) (hs2 : MapKept.Stamped e2.toArray c2) (hk1 : KeysAre e1 l1) (hk2 : KeysAre e2 l2) :
    Calls Tryz.prog 98 #[.map (some b), .map (some c)] w (AddMs w e1 e2) := by
  obtain ⟨D1, hD1⟩ : ∃ D, IsV e1 D := ⟨_, rfl⟩
  obtain ⟨D2, hD2⟩ : ∃ D, IsV e2 D := ⟨_, rfl⟩
  have F1 := fitV hs1 (by omega) hk1
  have F2 := fitV hs2 (by omega) hk2
  have o1 : w.ownsMap Tryz.prog 9 R1 b n D1 := ⟨_, _, hb, F1, by simp [hn], hD1⟩
  have o2 : w.ownsMap Tryz.prog 9 R1 c m D2 := ⟨_, _, hc, F2, by simp [hm], hD2⟩
  have z1 := sizeV hD1
  have z2 := sizeV hD2
  have hl1 : ∀ ty, (Builtin.len_ #[88] ty #[.map (some b)]).run Tryz.prog w = .ok (.int .i64 (n : Int)) w := fun ty => by
    have := o1.len Tryz.underlying88 ty
    rwa [z1, hn] at this
  have hl2 : ∀ ty, (Builtin.len_ #[88] ty #[.map (some c)]).run Tryz.prog w = .ok (.int .i64 (m : Int)) w := fun ty => by
    have := o2.len Tryz.underlying88 ty
    rwa [z2, hm] at this
  have hmk := fun w => runMakeMap ((n : Int) + (m : Int)) w
  have f1 : ((n : Int) == 0) = false := by simp; omega
  have f2 : ((m : Int) == 0) = false := by simp; omega
  have f3 : (n == 0) = false := by simp; omega
  have f4 : (m == 0) = false := by simp; omega
  have g0 : w.grownBy (w.alloc (.map #[] 0)) none := World.grownBy_alloc w _ none
  have hlb := lt_of_heap hb
  have hlc := lt_of_heap hc
  have k1 : Calls Tryz.prog 99 #[.map (some w.heap.size), .map (some b)] (w.alloc (.map #[] 0)) (fun e w' => e = .returned (.tuple #[]) ∧ w'.ownsMap Tryz.prog 9 R1 w.heap.size (0 + Maps.size D1) (Lib.mergeD (.map []) D1) ∧ w'.ownsMap Tryz.prog 9 R1 b n D1 ∧ (w.alloc (.map #[] 0)).grownBy w' (some w.heap.size)) :=
    AnyX.maps_Copy Tryz.copyM keyedS R1 w.heap.size b 0 n (.map []) D1 _ (World.ownsMap_made w Tryz.prog 9 R1) (o1.kept g0 (by simp)) (by omega) (by unfold maxLen; omega)
  have k2 : ∀ w1, w1.ownsMap Tryz.prog 9 R1 w.heap.size (0 + Maps.size D1) (Lib.mergeD (.map []) D1) → w1.ownsMap Tryz.prog 9 R1 c m D2 →
      Calls Tryz.prog 99 #[.map (some w.heap.size), .map (some c)] w1 (fun e w' => e = .returned (.tuple #[]) ∧ w'.ownsMap Tryz.prog 9 R1 w.heap.size (0 + Maps.size D1 + Maps.size D2) (Lib.mergeD (Lib.mergeD (.map []) D1) D2) ∧ w'.ownsMap Tryz.prog 9 R1 c m D2 ∧ w1.grownBy w' (some w.heap.size)) :=
    fun w1 h1 h2 => AnyX.maps_Copy Tryz.copyM keyedS R1 w.heap.size c _ m _ D2 w1 h1 h2 (by omega) (by unfold maxLen; omega)
  have HK1 := Lib.hid k1
  have HK2 := Lib.hid k2
  have HO := Lib.hid (o2.kept g0 (by simp))
  have HL := Lib.hid hlc
  have HF := Lib.hid (And.intro F1 (And.intro F2 (And.intro hD1 hD2)))
  clear k1 k2 o1 o2 z1 z2 F1 F2 hD1 hD2 g0 hlb hlc hb hc hs1 hs2 hk1 hk2 hn hm hn0 hm0
  go_enter Tryz.func98, Tryz.ntmps98
  go_wp2_with fail
  refine HK1.out.mono ?_
  rintro e w1 ⟨rfl, ho1, _, hg1⟩
  have HA := Lib.hid (And.intro ho1 hg1)
  have HP := Lib.hid (HO.out.kept hg1 (by have := HL.out; simp; omega))
  clear ho1 hg1 hl1 hl2 hmk HK1
  go_wp2_with fail
  refine (HK2.out w1 HA.out.1 HP.out).mono ?_
  rintro e w2 ⟨rfl, ho2, _, hg2⟩
  have HB := Lib.hid (And.intro ho2 hg2)
  clear ho2 hg2 HK2
  go_wp2_with fail
  go_ret
  obtain ⟨es, k, hh, F, _, hD⟩ := HB.out.1
  have hD' : IsV es.toList _ := hD
  have F' : WideElems.Fit Tryz.prog 9 R1 es.toList.toArray k := by simpa using F
  refine ⟨es.toList, k, rfl, by simpa using hh, by simpa using F.stamped, fun e he => size_key F' he, merges_of F' HF.out.1 HF.out.2.1 hD' HF.out.2.2.1 HF.out.2.2.2 rfl, ?_⟩
  exact (((Below.refl _ w).alloc (Nat.le_refl _) _).grown HA.out.2 (by rw [World.size_alloc]; omega) (fun k hk => by cases hk; exact Nat.le_refl _)).grown HB.out.2 (by have := HA.out.2.size; rw [World.size_alloc] at this; omega) (fun k hk => by cases hk; exact Nat.le_refl _)
end Go.Proofs.YtdaiodiafahkkaaGreatDoor.NumA
