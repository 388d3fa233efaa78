/-
Sums where one side is null; impl.result, impl.OpAdd at any values.
-/
import Derived.Test.YtdcgjfiknknjfaaGreatDoorFrE
set_option linter.unusedSimpArgs false
set_option linter.unusedVariables false
namespace Go.Proofs.YtdcgjfiknknjfaaGreatDoor.NumA
open Go.RowKit Go.Lib Go.Proofs.YtdcgjfiknknjfaaGreatDoor.ValA Go.Proofs.YtdcgjfiknknjfaaGreatDoor.FloH Go.Proofs.YtdcgjfiknknjfaaGreatDoorW.PrintWords Go.Proofs.YtdcgjfiknknjfaaGreatDoorW.PrintLast Go.Proofs.YtdcgjfiknknjfaaGreatDoorW.PrintMore Go.Proofs.YtdcgjfiknknjfaaGreatDoor.PzzFits1
/-- The call gives v. -/
def Gv (v : Value) (w : World) (e : Ending) (w' : World) : Prop := e = .returned v ∧ Below w.heap.size w w'
theorem addfb_l (g : Value) (w : World) : Calls Tryz.prog 101 #[.nilIface, g] w (Gv g w) := by
  go_enter Tryz.func101, Tryz.ntmps101
  go_wp2_with fail
  go_ret
  exact ⟨rfl, Below.refl _ _⟩
theorem addfb_bool (b : Bool) (w : World) : Calls Tryz.prog 101 #[.iface 4 (.bool b), .nilIface] w (Gv (.iface 4 (.bool b)) w) := by
  go_enter Tryz.func101, Tryz.ntmps101
  go_wp2_with fail
  go_ret
  exact ⟨rfl, Below.refl _ _⟩
theorem addfb_int (n : Int) (w : World) : Calls Tryz.prog 101 #[.iface 3 (.int .i64 n), .nilIface] w (Gv (.iface 3 (.int .i64 n)) w) := by
  go_enter Tryz.func101, Tryz.ntmps101
  go_wp2_with fail
  go_ret
  exact ⟨rfl, Below.refl _ _⟩
theorem addfb_flt (n : Nat) (w : World) : Calls Tryz.prog 101 #[.iface 61 (.float .f64 n), .nilIface] w (Gv (.iface 61 (.float .f64 n)) w) := by
  go_enter Tryz.func101, Tryz.ntmps101
  go_wp2_with fail
  go_ret
  exact ⟨rfl, Below.refl _ _⟩
theorem addfb_str (s : ByteArray) (w : World) : Calls Tryz.prog 101 #[.iface 9 (.string s), .nilIface] w (Gv (.iface 9 (.string s)) w) := by
  go_enter Tryz.func101, Tryz.ntmps101
  go_wp2_with fail
  go_ret
  exact ⟨rfl, Below.refl _ _⟩
theorem addfb_list (A : Option Addr) (n : Nat) (w : World) : Calls Tryz.prog 101 #[.iface 62 (.slice A n n), .nilIface] w (Gv (.iface 62 (.slice A n n)) w) := by
  go_enter Tryz.func101, Tryz.ntmps101
  go_wp2_with fail
  go_ret
  exact ⟨rfl, Below.refl _ _⟩
theorem addfb_map (b : Option Nat) (w : World) : Calls Tryz.prog 101 #[.iface 65 (.map b), .nilIface] w (Gv (.iface 65 (.map b)) w) := by
  go_enter Tryz.func101, Tryz.ntmps101
  go_wp2_with fail
  go_ret
  exact ⟨rfl, Below.refl _ _⟩
set_option maxRecDepth 100000 in
set_option maxHeartbeats 4000000 in
theorem add_nil (g : Value) (hJ : NoJ g) (w : World) : Calls Tryz.prog 91 #[.nilIface, g, Value.func (Fn.func 92) #[] #[], Value.func (Fn.func 95) #[] #[], Value.func (Fn.func 96) #[] #[], Value.func (Fn.func 97) #[] #[], Value.func (Fn.func 98) #[] #[], Value.func (Fn.func 99) #[] #[], Value.func (Fn.func 101) #[] #[]] w (Gv (g) w) := by
  have H := Lib.hid (addfb_l g w)
  unfold NoJ at hJ
  have fJ := fun w => noNJ w
  have fI := fun w => noNI w
  have fF := fun w => noNF w
  have fB := fun w => noNB w
  have fS := fun w => noNS w
  have fL := fun w => noNL w
  have fM := fun w => noNM w
  go_enter Tryz.func91, Tryz.ntmps91
  go_wp2_with fail
  refine H.out.mono ?_
  rintro e w1 ⟨rfl, hb⟩
  have HB := Lib.hid hb; clear hb
  go_wp2_with fail
  go_ret
  exact ⟨rfl, HB.out⟩
set_option maxRecDepth 100000 in
set_option maxHeartbeats 4000000 in
theorem add_bool (b : Bool)  (w : World) : Calls Tryz.prog 91 #[.iface 4 (.bool b), .nilIface, Value.func (Fn.func 92) #[] #[], Value.func (Fn.func 95) #[] #[], Value.func (Fn.func 96) #[] #[], Value.func (Fn.func 97) #[] #[], Value.func (Fn.func 98) #[] #[], Value.func (Fn.func 99) #[] #[], Value.func (Fn.func 101) #[] #[]] w (Gv (.iface 4 (.bool b)) w) := by
  have H := Lib.hid (addfb_bool b w)
  have eJ := fun w => qTJ (.bool b) w
  have eI := fun w => qTI (.bool b) w
  have eF := fun w => qTF (.bool b) w
  have eB := fun w => qTB (.bool b) w
  have eS := fun w => qTS (.bool b) w
  have eL := fun w => qTL (.bool b) w
  have eM := fun w => qTM (.bool b) w
  have fJ := fun w => noNJ w
  have fI := fun w => noNI w
  have fF := fun w => noNF w
  have fB := fun w => noNB w
  have fS := fun w => noNS w
  have fL := fun w => noNL w
  have fM := fun w => noNM w
  go_enter Tryz.func91, Tryz.ntmps91
  go_wp2_with fail
  refine H.out.mono ?_
  rintro e w1 ⟨rfl, hb⟩
  have HB := Lib.hid hb; clear hb
  go_wp2_with fail
  go_ret
  exact ⟨rfl, HB.out⟩
set_option maxRecDepth 100000 in
set_option maxHeartbeats 4000000 in
theorem add_int (n : Int)  (w : World) : Calls Tryz.prog 91 #[.iface 3 (.int .i64 n), .nilIface, Value.func (Fn.func 92) #[] #[], Value.func (Fn.func 95) #[] #[], Value.func (Fn.func 96) #[] #[], Value.func (Fn.func 97) #[] #[], Value.func (Fn.func 98) #[] #[], Value.func (Fn.func 99) #[] #[], Value.func (Fn.func 101) #[] #[]] w (Gv (.iface 3 (.int .i64 n)) w) := by
  have H := Lib.hid (addfb_int n w)
  have eJ := fun w => qIJ (.int .i64 n) w
  have gI := fun w => qI (.int .i64 n) w
  have fJ := fun w => noNJ w
  have fI := fun w => noNI w
  have fF := fun w => noNF w
  have fB := fun w => noNB w
  have fS := fun w => noNS w
  have fL := fun w => noNL w
  have fM := fun w => noNM w
  go_enter Tryz.func91, Tryz.ntmps91
  go_wp2_with fail
  refine H.out.mono ?_
  rintro e w1 ⟨rfl, hb⟩
  have HB := Lib.hid hb; clear hb
  go_wp2_with fail
  go_ret
  exact ⟨rfl, HB.out⟩
set_option maxRecDepth 100000 in
set_option maxHeartbeats 4000000 in
theorem add_flt (n : Nat)  (w : World) : Calls Tryz.prog 91 #[.iface 61 (.float .f64 n), .nilIface, Value.func (Fn.func 92) #[] #[], Value.func (Fn.func 95) #[] #[], Value.func (Fn.func 96) #[] #[], Value.func (Fn.func 97) #[] #[], Value.func (Fn.func 98) #[] #[], Value.func (Fn.func 99) #[] #[], Value.func (Fn.func 101) #[] #[]] w (Gv (.iface 61 (.float .f64 n)) w) := by
  have H := Lib.hid (addfb_flt n w)
  have eJ := fun w => qFJ (.float .f64 n) w
  have eI := fun w => qFI (.float .f64 n) w
  have gF := fun w => qF (.float .f64 n) w
  have fJ := fun w => noNJ w
  have fI := fun w => noNI w
  have fF := fun w => noNF w
  have fB := fun w => noNB w
  have fS := fun w => noNS w
  have fL := fun w => noNL w
  have fM := fun w => noNM w
  go_enter Tryz.func91, Tryz.ntmps91
  go_wp2_with fail
  refine H.out.mono ?_
  rintro e w1 ⟨rfl, hb⟩
  have HB := Lib.hid hb; clear hb
  go_wp2_with fail
  go_ret
  exact ⟨rfl, HB.out⟩
set_option maxRecDepth 100000 in
set_option maxHeartbeats 4000000 in
theorem add_str (s : ByteArray)  (w : World) : Calls Tryz.prog 91 #[.iface 9 (.string s), .nilIface, Value.func (Fn.func 92) #[] #[], Value.func (Fn.func 95) #[] #[], Value.func (Fn.func 96) #[] #[], Value.func (Fn.func 97) #[] #[], Value.func (Fn.func 98) #[] #[], Value.func (Fn.func 99) #[] #[], Value.func (Fn.func 101) #[] #[]] w (Gv (.iface 9 (.string s)) w) := by
  have H := Lib.hid (addfb_str s w)
  have eJ := fun w => qSJ (.string s) w
  have eI := fun w => qSI (.string s) w
  have eF := fun w => qSF (.string s) w
  have eB := fun w => qSB (.string s) w
  have gS := fun w => qS (.string s) w
  have fJ := fun w => noNJ w
  have fI := fun w => noNI w
  have fF := fun w => noNF w
  have fB := fun w => noNB w
  have fS := fun w => noNS w
  have fL := fun w => noNL w
  have fM := fun w => noNM w
  go_enter Tryz.func91, Tryz.ntmps91
  go_wp2_with fail
  refine H.out.mono ?_
  rintro e w1 ⟨rfl, hb⟩
  have HB := Lib.hid hb; clear hb
  go_wp2_with fail
  go_ret
  exact ⟨rfl, HB.out⟩
set_option maxRecDepth 100000 in
set_option maxHeartbeats 4000000 in
theorem add_list (A : Option Addr) (n : Nat)  (w : World) : Calls Tryz.prog 91 #[.iface 62 (.slice A n n), .nilIface, Value.func (Fn.func 92) #[] #[], Value.func (Fn.func 95) #[] #[], Value.func (Fn.func 96) #[] #[], Value.func (Fn.func 97) #[] #[], Value.func (Fn.func 98) #[] #[], Value.func (Fn.func 99) #[] #[], Value.func (Fn.func 101) #[] #[]] w (Gv (.iface 62 (.slice A n n)) w) := by
  have H := Lib.hid (addfb_list A n w)
  have eJ := fun w => qLJ (.slice A n n) w
  have eI := fun w => qLI (.slice A n n) w
  have eF := fun w => qLF (.slice A n n) w
  have eB := fun w => qLB (.slice A n n) w
  have eS := fun w => qLS (.slice A n n) w
  have gL := fun w => qL (.slice A n n) w
  have fJ := fun w => noNJ w
  have fI := fun w => noNI w
  have fF := fun w => noNF w
  have fB := fun w => noNB w
  have fS := fun w => noNS w
  have fL := fun w => noNL w
  have fM := fun w => noNM w
  go_enter Tryz.func91, Tryz.ntmps91
  go_wp2_with fail
  refine H.out.mono ?_
  rintro e w1 ⟨rfl, hb⟩
  have HB := Lib.hid hb; clear hb
  go_wp2_with fail
  go_ret
  exact ⟨rfl, HB.out⟩
set_option maxRecDepth 100000 in
set_option maxHeartbeats 4000000 in
theorem add_map (b : Option Nat)  (w : World) : Calls Tryz.prog 91 #[.iface 65 (.map b), .nilIface, Value.func (Fn.func 92) #[] #[], Value.func (Fn.func 95) #[] #[], Value.func (Fn.func 96) #[] #[], Value.func (Fn.func 97) #[] #[], Value.func (Fn.func 98) #[] #[], Value.func (Fn.func 99) #[] #[], Value.func (Fn.func 101) #[] #[]] w (Gv (.iface 65 (.map b)) w) := by
  have H := Lib.hid (addfb_map b w)
  have eJ := fun w => qMJ (.map b) w
  have eI := fun w => qMI (.map b) w
  have eF := fun w => qMF (.map b) w
  have eB := fun w => qMB (.map b) w
  have eS := fun w => qMS (.map b) w
  have eL := fun w => qML (.map b) w
  have gM := fun w => qM (.map b) w
  have fJ := fun w => noNJ w
  have fI := fun w => noNI w
  have fF := fun w => noNF w
  have fB := fun w => noNB w
  have fS := fun w => noNS w
  have fL := fun w => noNL w
  have fM := fun w => noNM w
  go_enter Tryz.func91, Tryz.ntmps91
  go_wp2_with fail
  refine H.out.mono ?_
  rintro e w1 ⟨rfl, hb⟩
  have HB := Lib.hid hb; clear hb
  go_wp2_with fail
  go_ret
  exact ⟨rfl, HB.out⟩
theorem zz_add_of (l r R : Value) (w : World) (HB : Calls Tryz.prog 91 #[l, r, Value.func (Fn.func 92) #[] #[], Value.func (Fn.func 95) #[] #[], Value.func (Fn.func 96) #[] #[], Value.func (Fn.func 97) #[] #[], Value.func (Fn.func 98) #[] #[], Value.func (Fn.func 99) #[] #[], Value.func (Fn.func 101) #[] #[]] w (Gv R w)) : Calls Tryz.prog 43 #[l, r] w (Gv R w) := by
  have H := Lib.hid HB
  clear HB
  have H1 : Hid (Calls Tryz.prog 64 #[.nilIface, l, r] w (Gv R w)) := by
    refine Lib.hid ?_
    go_enter Tryz.func64, Tryz.ntmps64
    go_wp2_with fail
    refine H.out.mono ?_
    rintro e w1 ⟨rfl, hb⟩
    have HB := Lib.hid hb; clear hb
    go_wp2_with fail
    go_ret
    exact ⟨rfl, HB.out⟩
  clear H
  go_enter Tryz.func43, Tryz.ntmps43
  go_wp2_with fail
  refine H1.out.mono ?_
  rintro e w1 ⟨rfl, hb⟩
  have HB := Lib.hid hb; clear hb
  go_wp2_with fail
  go_ret
  exact ⟨rfl, HB.out⟩
theorem zz_add_nil (k : Int) (g : Value) (h : Cl k g) (w : World) : Calls Tryz.prog 43 #[.nilIface, g] w (Gv g w) := zz_add_of _ _ _ w (add_nil g h.noJ w)
theorem zz_nil_add (k : Int) (g : Value) (h : Cl k g) (w : World) : Calls Tryz.prog 43 #[g, .nilIface] w (Gv g w) := by
  refine zz_add_of _ _ _ w ?_
  have h0 := h
  cases h with
  | nil => exact add_nil _ h0.noJ w
  | no => exact add_bool false w
  | yes => exact add_bool true w
  | int n => exact add_int n w
  | flt n => exact add_flt n w
  | str s => exact add_str s w
  | list A n => exact add_list A n w
  | map b => exact add_map b w
/-- The call gives x as a result, in memory of its own. -/
def ResIs (x : V) (w : World) (e : Ending) (w' : World) : Prop := ∃ (B3 : Option Addr) (d3 : Nat) (B4 : Option Addr) (d4 : Nat) (B5 : Option Addr) (d5 : Nat), e = .returned (.agg #[.int .i64 x.f0, .int .i64 x.f1, .string x.f2, .slice B3 x.f3.length d3, .slice B4 x.f4.length d4, .slice B5 x.f5.length d5, .int .i64 0]) ∧ k26.M w' w.heap.size (fun k => w.heap.size ≤ k) x [.int .i64 x.f0, .int .i64 x.f1, .string x.f2, .slice B3 x.f3.length d3, .slice B4 x.f4.length d4, .slice B5 x.f5.length d5] ∧ Below w.heap.size w w'
set_option maxHeartbeats 1000000 in
theorem result_any (x : V) (v : Value) (w : World) (HN : ∀ w, (Instr.typeAssert v 20 69 true).run Tryz.prog w = .ok (.tuple #[.nilIface, .bool false]) w) (HG : ∀ w1, Below w.heap.size w w1 → FromGo x v w1) :
    Calls Tryz.prog 42 #[v] w (ResIs x w) := by
  have a1 := HN
  obtain ⟨w0, hw0⟩ : ∃ w0, w0 = w.alloc (.cells #[.int .i64 0, .int .i64 0, .string ⟨#[]⟩, .slice none 0 0, .slice none 0 0, .slice none 0 0, .int .i64 0] 30) := ⟨_, rfl⟩
  have hx : w0.heap[w.heap.size]? = some (.cells #[.int .i64 0, .int .i64 0, .string ⟨#[]⟩, .slice none 0 0, .slice none 0 0, .slice none 0 0, .int .i64 0] 30 (0, 0)) := by rw [hw0]; exact heap_alloc_new w _
  have hb : Below w.heap.size w w0 := by rw [hw0]; exact (Below.refl _ w).alloc (Nat.le_refl _) _
  have HT := Lib.hid (HG w0 hb)
  have H0 := Lib.hid (And.intro hx hb)
  clear HG hx hb
  unfold FromGo at HT
  go_enter Tryz.func42, Tryz.ntmps42
  go_wp2_with fail
  rw [← hw0]
  clear hw0
  refine HT.out.mono ?_
  rintro e w1 ⟨cs, rfl, hM, hb⟩
  obtain ⟨v3, v4, v5, rfl, g3, g4, g5⟩ := k26_openM hM
  obtain ⟨B3, d3, rfl⟩ := Kd.R_slice g3
  obtain ⟨B4, d4, rfl⟩ := Kd.R_slice g4
  obtain ⟨B5, d5, rfl⟩ := Kd.R_slice g5
  have hx : w1.heap[w.heap.size]? = some (.cells #[.int .i64 0, .int .i64 0, .string ⟨#[]⟩, .slice none 0 0, .slice none 0 0, .slice none 0 0, .int .i64 0] 30 (0, 0)) := by rw [hb.block _ (lt_of_heap H0.out.1)]; exact H0.out.1
  have hlt : w.heap.size < w0.heap.size := lt_of_heap H0.out.1
  have H1 := Lib.hid (And.intro (H0.out.2.trans (hb.mono H0.out.2.size)) (And.intro hM hlt))
  clear hb hM g3 g4 g5 hlt
  have y := sev_cells hx
  have hlt1 : w.heap.size < w1.heap.size := lt_of_heap hx
  go_wp2_with fail
  have hz := sev_set hx (.int .i64 x.f0) (.int .i64 x.f1) (.string x.f2) (.slice B3 x.f3.length d3) (.slice B4 x.f4.length d4) (.slice B5 x.f5.length d5) (.int .i64 0)
  have hg := sev_grown w1 w.heap.size (.int .i64 x.f0) (.int .i64 x.f1) (.string x.f2) (.slice B3 x.f3.length d3) (.slice B4 x.f4.length d4) (.slice B5 x.f5.length d5) (.int .i64 0)
  obtain ⟨W2, hW⟩ : ∃ W2, W2 = ((((((w1.setCell ⟨w.heap.size, 0, none⟩ (.int .i64 x.f0)).setCell ⟨w.heap.size, 1, none⟩ (.int .i64 x.f1)).setCell ⟨w.heap.size, 2, none⟩ (.string x.f2)).setCell ⟨w.heap.size, 3, none⟩ (.slice B3 x.f3.length d3)).setCell ⟨w.heap.size, 4, none⟩ (.slice B4 x.f4.length d4)).setCell ⟨w.heap.size, 5, none⟩ (.slice B5 x.f5.length d5)).setCell ⟨w.heap.size, 6, none⟩ (.int .i64 0) := ⟨_, rfl⟩
  rw [← hW] at hz hg ⊢
  obtain ⟨W3, hW3⟩ : ∃ W3, W3 = W2.alloc (.cells #[.int .i64 x.f0, .int .i64 x.f1, .string x.f2, .slice B3 x.f3.length d3, .slice B4 x.f4.length d4, .slice B5 x.f5.length d5] 26) := ⟨_, rfl⟩
  have hz3 : W3.heap[w.heap.size]? = some (.cells #[.int .i64 x.f0, .int .i64 x.f1, .string x.f2, .slice B3 x.f3.length d3, .slice B4 x.f4.length d4, .slice B5 x.f5.length d5, .int .i64 0] 30 (0, 0)) := by rw [hW3]; exact ((World.grownBy_alloc W2 _ none).block _ (lt_of_heap hz) (by simp)).trans hz
  have hb3 : Below w.heap.size w W3 := by rw [hW3]; exact (H1.out.1.grown hg H1.out.1.size (fun k hk => by cases hk; exact Nat.le_refl _)).alloc (Nat.le_trans H1.out.1.size hg.size) _
  have hM3 : k26.M W3 w.heap.size (fun k => w.heap.size ≤ k) x [.int .i64 x.f0, .int .i64 x.f1, .string x.f2, .slice B3 x.f3.length d3, .slice B4 x.f4.length d4, .slice B5 x.f5.length d5] := by
    have hlt := H1.out.2.2
    have h := Kd.M_grown H1.out.2.1 hg (fun k hk e => by cases e; have : w0.heap.size ≤ w.heap.size := hk; omega)
    have h2 := k26.M_mono (ok' := fun k => w.heap.size ≤ k) (fun k hk => by show w.heap.size ≤ k; have : w0.heap.size ≤ k := hk; omega) (k26.M_lower (base' := w.heap.size) (by omega) h)
    rw [hW3]
    exact Kd.M_below h2 ((Below.refl _ W2).alloc (Nat.le_refl _) _)
  rw [← hW3]
  clear hW hW3 hz hg
  obtain ⟨q0, q1, q2, q3, q4, q5, q6, _⟩ := sev_cells hz3
  refine bodyPost_ret (v := .agg #[.int .i64 x.f0, .int .i64 x.f1, .string x.f2, .slice B3 x.f3.length d3, .slice B4 x.f4.length d4, .slice B5 x.f5.length d5, .int .i64 0]) (by simp [results, Tryz.results42, go_sem, q0, q1, q2, q3, q4, q5, q6]) rfl ?_
  exact ⟨B3, d3, B4, d4, B5, d5, rfl, hM3, hb3⟩
set_option maxHeartbeats 4000000 in
theorem impl_opAdd (w0 : World) (a b x : V) (Ka Ha : Int) (sa : ByteArray) (A3a A4a A5a : Option Addr) (n3a c3a n4a c4a n5a c5a : Nat) (Kb Hb : Int) (sb : ByteArray) (A3b A4b A5b : Option Addr) (n3b c3b n4b c4b n5b c5b : Nat) (Tx : ToGo w0 a [.int .i64 Ka, .int .i64 Ha, .string sa, .slice A3a n3a c3a, .slice A4a n4a c4a, .slice A5a n5a c5a]) (Ty : ToGo w0 b [.int .i64 Kb, .int .i64 Hb, .string sb, .slice A3b n3b c3b, .slice A4b n4b c4b, .slice A5b n5b c5b]) (hx : WF x) (zx : Sz x)
    (HC : ∀ g h n m w, G n w a g → G m w b h → Calls Tryz.prog 43 #[g, h] w fun e w' => ∃ r k, e = .returned r ∧ G k w' x r ∧ Below w.heap.size w w') (w : World) (hb : Below w0.heap.size w0 w) :
    Calls Tryz.prog 17 #[.agg #[.int .i64 Ka, .int .i64 Ha, .string sa, .slice A3a n3a c3a, .slice A4a n4a c4a, .slice A5a n5a c5a], .agg #[.int .i64 Kb, .int .i64 Hb, .string sb, .slice A3b n3b c3b, .slice A4b n4b c4b, .slice A5b n5b c5b]] w (ResIs x w) := by
  have HX := Lib.hid Tx
  have HY := Lib.hid Ty
  have HCC := Lib.hid HC
  have HB := Lib.hid hb
  have HWF := Lib.hid (And.intro hx zx)
  clear Tx Ty HC hb hx zx
  go_enter Tryz.func17, Tryz.ntmps17
  go_wp2_with fail
  have h3 := three_boxes w #[.int .i64 Ka, .int .i64 Ha, .string sa, .slice A3a n3a c3a, .slice A4a n4a c4a, .slice A5a n5a c5a] #[.int .i64 Kb, .int .i64 Hb, .string sb, .slice A3b n3b c3b, .slice A4b n4b c4b, .slice A5b n5b c5b] #[.int .i64 0, .int .i64 0, .string ⟨#[]⟩, .slice none 0 0, .slice none 0 0, .slice none 0 0, .int .i64 0] 26 26 30
  obtain ⟨W0, hw0⟩ : ∃ W0, W0 = (((w.alloc (.cells #[.int .i64 Ka, .int .i64 Ha, .string sa, .slice A3a n3a c3a, .slice A4a n4a c4a, .slice A5a n5a c5a] 26)).alloc (.cells #[.int .i64 Kb, .int .i64 Hb, .string sb, .slice A3b n3b c3b, .slice A4b n4b c4b, .slice A5b n5b c5b] 26)).alloc (.cells #[.int .i64 0, .int .i64 0, .string ⟨#[]⟩, .slice none 0 0, .slice none 0 0, .slice none 0 0, .int .i64 0] 30)) := ⟨_, rfl⟩
  rw [← hw0] at h3 ⊢
  clear hw0
  have H0 := Lib.hid h3
  clear h3
  refine (HX.out W0 (HB.out.trans (H0.out.1.mono HB.out.size))).mono ?_
  rintro e w1 ⟨g, rfl, hG, hb⟩
  have hy := (hb.block _ (lt_of_heap H0.out.2.2)).trans H0.out.2.2
  have H1 := Lib.hid (And.intro (H0.out.1.trans (hb.mono H0.out.1.size)) (And.intro ((hb.block _ (lt_of_heap H0.out.2.1)).trans H0.out.2.1) hG))
  clear hb H0 hG
  have y := six_cells hy
  clear hy
  go_wp2_with fail
  refine (HY.out w1 (HB.out.trans (H1.out.1.mono HB.out.size))).mono ?_
  rintro e w2 ⟨h, rfl, hG, hb⟩
  clear y
  have H2 := Lib.hid (And.intro (H1.out.1.trans (hb.mono H1.out.1.size)) (And.intro ((hb.block _ (lt_of_heap H1.out.2.1)).trans H1.out.2.1) (And.intro (H1.out.2.2.keepB hb) hG)))
  clear hb H1 hG
  go_wp2_with fail
  refine (HCC.out g h _ _ w2 H2.out.2.2.1 H2.out.2.2.2).mono ?_
  rintro e w3 ⟨r, kr, rfl, hG, hb⟩
  have H3 := Lib.hid (And.intro (H2.out.1.trans (hb.mono H2.out.1.size)) (And.intro ((hb.block _ (lt_of_heap H2.out.2.1)).trans H2.out.2.1) hG))
  have HD := Lib.hid (result_any x r w3 (fun w => (hG.cl (wf_facts HWF.out.1).1).noErr w) (fun w1 hb1 => fromGo_any _ x (Nat.lt_succ_self _) HWF.out.1 HWF.out.2 r kr w1 (hG.keepB hb1)))
  clear hb H2 hG
  go_wp2_with fail
  refine HD.out.mono ?_
  rintro e w4 ⟨B3, d3, B4, d4, B5, d5, rfl, hM, hb⟩
  have hx := (hb.block _ (lt_of_heap H3.out.2.1)).trans H3.out.2.1
  have hs3 : w.heap.size + 2 < w3.heap.size := lt_of_heap H3.out.2.1
  have H4 := Lib.hid (And.intro (H3.out.1.trans (hb.mono H3.out.1.size)) (And.intro hM hs3))
  clear hb H3 hM hs3
  have y := sev_cells hx
  go_wp2_with fail
  have hz := sev_set hx (.int .i64 x.f0) (.int .i64 x.f1) (.string x.f2) (.slice B3 x.f3.length d3) (.slice B4 x.f4.length d4) (.slice B5 x.f5.length d5) (.int .i64 0)
  have hg := sev_grown w4 (w.heap.size + 1 + 1) (.int .i64 x.f0) (.int .i64 x.f1) (.string x.f2) (.slice B3 x.f3.length d3) (.slice B4 x.f4.length d4) (.slice B5 x.f5.length d5) (.int .i64 0)
  obtain ⟨W2, hW⟩ : ∃ W2, W2 = ((((((w4.setCell ⟨w.heap.size + 1 + 1, 0, none⟩ (.int .i64 x.f0)).setCell ⟨w.heap.size + 1 + 1, 1, none⟩ (.int .i64 x.f1)).setCell ⟨w.heap.size + 1 + 1, 2, none⟩ (.string x.f2)).setCell ⟨w.heap.size + 1 + 1, 3, none⟩ (.slice B3 x.f3.length d3)).setCell ⟨w.heap.size + 1 + 1, 4, none⟩ (.slice B4 x.f4.length d4)).setCell ⟨w.heap.size + 1 + 1, 5, none⟩ (.slice B5 x.f5.length d5)).setCell ⟨w.heap.size + 1 + 1, 6, none⟩ (.int .i64 0) := ⟨_, rfl⟩
  rw [← hW] at hz hg ⊢
  clear hW y hx
  obtain ⟨q0, q1, q2, q3, q4, q5, q6, _⟩ := sev_cells hz
  refine bodyPost_ret (v := .agg #[.int .i64 x.f0, .int .i64 x.f1, .string x.f2, .slice B3 x.f3.length d3, .slice B4 x.f4.length d4, .slice B5 x.f5.length d5, .int .i64 0]) (by simp [results, Tryz.results17, go_sem, q0, q1, q2, q3, q4, q5, q6]) rfl ?_
  have hs3 := H4.out.2.2
  have hM4 := Kd.M_grown H4.out.2.1 hg (fun k hk e => by cases e; have : w3.heap.size ≤ w.heap.size + 1 + 1 := hk; omega)
  exact ⟨B3, d3, B4, d4, B5, d5, rfl, k26.M_mono (fun k hk => by show w.heap.size ≤ k; have : w3.heap.size ≤ k := hk; omega) (k26.M_lower (by omega) hM4), H4.out.1.grown hg H4.out.1.size (fun k hk => by cases hk; omega)⟩
end Go.Proofs.YtdcgjfiknknjfaaGreatDoor.NumA
