/-
Parts of the proof, one behind the other: FlatA, FlatB.
-/
import Derived.Test.YtcoahpcjhhnkkaaGreatDoorMA
import Derived.Test.YtcoahpcjhhnkkaaGreatDoorPzzContainsx1
import Derived.Sort.Walk0
/-
Flat values (null, booleans, numbers, strings): what package impl makes of them, what comes back; gojq's contains at two of them.
-/
namespace Go.Proofs.YtcoahpcjhhnkkaaGreatDoor.NumA
open Go.RowKit Go.Lib Go.Proofs.YtcoahpcjhhnkkaaGreatDoor.ValA Go.Proofs.YtcoahpcjhhnkkaaGreatDoor.FloH
theorem toGo_null (h : Int) (r : Rest) (w : World) :
    Calls Tryz.prog 37 #[vl 0 h r] w fun e w' => e = .returned (.tuple #[.nilIface, .bool true]) ∧ Below w.heap.size w w' := by
  obtain ⟨s, a, l, c, a1, l1, c1, a2, l2, c2⟩ := r
  simp only [vl]
  go_enter Tryz.func37, Tryz.ntmps37
  go_wp2_with fail
  go_ret2
  exact ⟨rfl, (Below.refl _ w).alloc (Nat.le_refl _) _⟩
theorem toGo_no (h : Int) (r : Rest) (w : World) :
    Calls Tryz.prog 37 #[vl 1 h r] w fun e w' => e = .returned (.tuple #[.iface 4 (.bool false), .bool true]) ∧ Below w.heap.size w w' := by
  obtain ⟨s, a, l, c, a1, l1, c1, a2, l2, c2⟩ := r
  simp only [vl]
  go_enter Tryz.func37, Tryz.ntmps37
  go_wp2_with fail
  go_ret2
  exact ⟨rfl, (Below.refl _ w).alloc (Nat.le_refl _) _⟩
theorem toGo_yes (h : Int) (r : Rest) (w : World) :
    Calls Tryz.prog 37 #[vl 2 h r] w fun e w' => e = .returned (.tuple #[.iface 4 (.bool true), .bool true]) ∧ Below w.heap.size w w' := by
  obtain ⟨s, a, l, c, a1, l1, c1, a2, l2, c2⟩ := r
  simp only [vl]
  go_enter Tryz.func37, Tryz.ntmps37
  go_wp2_with fail
  go_ret2
  exact ⟨rfl, (Below.refl _ w).alloc (Nat.le_refl _) _⟩
theorem toGo_text (h : Int) (r : Rest) (w : World) :
    Calls Tryz.prog 37 #[vl 4 h r] w fun e w' => e = .returned (.tuple #[.iface 9 (.string r.s), .bool true]) ∧ Below w.heap.size w w' := by
  obtain ⟨s, a, l, c, a1, l1, c1, a2, l2, c2⟩ := r
  simp only [vl]
  go_enter Tryz.func37, Tryz.ntmps37
  go_wp2_with fail
  go_ret2
  exact ⟨rfl, (Below.refl _ w).alloc (Nat.le_refl _) _⟩
theorem noTJ (v : Value) (w : World) : (Instr.typeAssert (.iface 4 v) 20 111 true).run Tryz.prog w = .ok (.tuple #[.string ⟨#[]⟩, .bool false]) w := by kernel_rfl
theorem noTI (v : Value) (w : World) : (Instr.typeAssert (.iface 4 v) 20 3 true).run Tryz.prog w = .ok (.tuple #[.int .i64 0, .bool false]) w := by kernel_rfl
theorem noTF (v : Value) (w : World) : (Instr.typeAssert (.iface 4 v) 20 77 true).run Tryz.prog w = .ok (.tuple #[.float .f64 0, .bool false]) w := by kernel_rfl
theorem noTB (v : Value) (w : World) : (Instr.typeAssert (.iface 4 v) 20 87 true).run Tryz.prog w = .ok (.tuple #[.pointer none, .bool false]) w := by kernel_rfl
theorem noTS (v : Value) (w : World) : (Instr.typeAssert (.iface 4 v) 20 9 true).run Tryz.prog w = .ok (.tuple #[.string ⟨#[]⟩, .bool false]) w := by kernel_rfl
theorem noTL (v : Value) (w : World) : (Instr.typeAssert (.iface 4 v) 20 78 true).run Tryz.prog w = .ok (.tuple #[.slice none 0 0, .bool false]) w := by kernel_rfl
theorem noTM (v : Value) (w : World) : (Instr.typeAssert (.iface 4 v) 20 67 true).run Tryz.prog w = .ok (.tuple #[.map none, .bool false]) w := by kernel_rfl
theorem isT (v : Value) (w : World) : (Instr.typeAssert (.iface 4 v) 20 4 true).run Tryz.prog w = .ok (.tuple #[v, .bool true]) w := by kernel_rfl
theorem noSJ (v : Value) (w : World) : (Instr.typeAssert (.iface 9 v) 20 111 true).run Tryz.prog w = .ok (.tuple #[.string ⟨#[]⟩, .bool false]) w := by kernel_rfl
theorem noSI (v : Value) (w : World) : (Instr.typeAssert (.iface 9 v) 20 3 true).run Tryz.prog w = .ok (.tuple #[.int .i64 0, .bool false]) w := by kernel_rfl
theorem noSF (v : Value) (w : World) : (Instr.typeAssert (.iface 9 v) 20 77 true).run Tryz.prog w = .ok (.tuple #[.float .f64 0, .bool false]) w := by kernel_rfl
theorem noSB (v : Value) (w : World) : (Instr.typeAssert (.iface 9 v) 20 87 true).run Tryz.prog w = .ok (.tuple #[.pointer none, .bool false]) w := by kernel_rfl
theorem isS (v : Value) (w : World) : (Instr.typeAssert (.iface 9 v) 20 9 true).run Tryz.prog w = .ok (.tuple #[v, .bool true]) w := by kernel_rfl
theorem noSL (v : Value) (w : World) : (Instr.typeAssert (.iface 9 v) 20 78 true).run Tryz.prog w = .ok (.tuple #[.slice none 0 0, .bool false]) w := by kernel_rfl
theorem noSM (v : Value) (w : World) : (Instr.typeAssert (.iface 9 v) 20 67 true).run Tryz.prog w = .ok (.tuple #[.map none, .bool false]) w := by kernel_rfl
theorem noST (v : Value) (w : World) : (Instr.typeAssert (.iface 9 v) 20 4 true).run Tryz.prog w = .ok (.tuple #[.bool false, .bool false]) w := by kernel_rfl
theorem noNJ (w : World) : (Instr.typeAssert .nilIface 20 111 true).run Tryz.prog w = .ok (.tuple #[.string ⟨#[]⟩, .bool false]) w := by kernel_rfl
theorem noNI (w : World) : (Instr.typeAssert .nilIface 20 3 true).run Tryz.prog w = .ok (.tuple #[.int .i64 0, .bool false]) w := by kernel_rfl
theorem noNF (w : World) : (Instr.typeAssert .nilIface 20 77 true).run Tryz.prog w = .ok (.tuple #[.float .f64 0, .bool false]) w := by kernel_rfl
theorem noNB (w : World) : (Instr.typeAssert .nilIface 20 87 true).run Tryz.prog w = .ok (.tuple #[.pointer none, .bool false]) w := by kernel_rfl
theorem noNS (w : World) : (Instr.typeAssert .nilIface 20 9 true).run Tryz.prog w = .ok (.tuple #[.string ⟨#[]⟩, .bool false]) w := by kernel_rfl
theorem noNL (w : World) : (Instr.typeAssert .nilIface 20 78 true).run Tryz.prog w = .ok (.tuple #[.slice none 0 0, .bool false]) w := by kernel_rfl
theorem noNM (w : World) : (Instr.typeAssert .nilIface 20 67 true).run Tryz.prog w = .ok (.tuple #[.map none, .bool false]) w := by kernel_rfl
theorem noNT (w : World) : (Instr.typeAssert .nilIface 20 4 true).run Tryz.prog w = .ok (.tuple #[.bool false, .bool false]) w := by kernel_rfl
theorem noErrT (v : Value) (w : World) : (Instr.typeAssert (.iface 4 v) 20 94 true).run Tryz.prog w = .ok (.tuple #[.nilIface, .bool false]) w := run_typeAssert_lacksB Tryz.underlying94 (by kernel_rfl) (by kernel_rfl) v 20 w
/-- The kind of a boolean. -/
def kb (b : Bool) : Int := if b then 2 else 1
theorem fromGo_true (w : World) :
    Calls Tryz.prog 74 #[.iface 4 (.bool true)] w fun e w' => e = .returned (.tuple #[vl 2 0 r0, .bool true]) ∧ Below w.heap.size w w' := by
  have a1 := fun w => noTI (.bool true) w
  have a2 := fun w => isT (.bool true) w
  go_enter Tryz.func74, Tryz.ntmps74
  go_wp2_with fail
  refine bodyPost_ret (v := .tuple #[vl 2 0 r0, .bool true]) (by simp [results, Tryz.results74, go_sem, vl, r0]) rfl ⟨rfl, ?_⟩
  exact (Below.refl _ w).alloc (Nat.le_refl _) _
theorem fromGo_false (w : World) :
    Calls Tryz.prog 74 #[.iface 4 (.bool false)] w fun e w' => e = .returned (.tuple #[vl 1 0 r0, .bool true]) ∧ Below w.heap.size w w' := by
  have a1 := fun w => noTI (.bool false) w
  have a2 := fun w => isT (.bool false) w
  go_enter Tryz.func74, Tryz.ntmps74
  go_wp2_with fail
  refine bodyPost_ret (v := .tuple #[vl 1 0 r0, .bool true]) (by simp [results, Tryz.results74, go_sem, vl, r0]) rfl ⟨rfl, ?_⟩
  exact (Below.refl _ w).alloc (Nat.le_refl _) _
set_option maxHeartbeats 1000000 in
theorem result_of (v : Value) (kr h : Int) (HN : ∀ w, (Instr.typeAssert v 20 94 true).run Tryz.prog w = .ok (.tuple #[.nilIface, .bool false]) w) (HG : ∀ w, Calls Tryz.prog 74 #[v] w fun e w' => e = .returned (.tuple #[vl kr h r0, .bool true]) ∧ Below w.heap.size w w') (w : World) :
    Calls Tryz.prog 39 #[v] w fun e w' => e = .returned (rv kr h 0 r0) ∧ Below w.heap.size w w' := by
  have a1 := HN
  have HT := Lib.hid HG
  simp only [vl, rv, r0] at HT ⊢
  clear HG
  go_enter Tryz.func39, Tryz.ntmps39
  go_wp2_with fail
  obtain ⟨w0, hw0⟩ : ∃ w0, w0 = w.alloc (.cells #[.int .i64 0, .int .i64 0, .string ⟨#[]⟩, .slice none 0 0, .slice none 0 0, .slice none 0 0, .int .i64 0] 36) := ⟨_, rfl⟩
  have hx : w0.heap[w.heap.size]? = some (.cells #[.int .i64 0, .int .i64 0, .string ⟨#[]⟩, .slice none 0 0, .slice none 0 0, .slice none 0 0, .int .i64 0] 36 (0, 0)) := by rw [hw0]; exact heap_alloc_new w _
  have hb : Below w.heap.size w w0 := by rw [hw0]; exact (Below.refl _ w).alloc (Nat.le_refl _) _
  have H0 := Lib.hid (And.intro hx hb)
  rw [← hw0]
  clear hw0 hx hb
  refine (HT.out w0).mono ?_
  rintro e w1 ⟨rfl, hb⟩
  have hx : w1.heap[w.heap.size]? = some (.cells #[.int .i64 0, .int .i64 0, .string ⟨#[]⟩, .slice none 0 0, .slice none 0 0, .slice none 0 0, .int .i64 0] 36 (0, 0)) := by rw [hb.block _ (lt_of_heap H0.out.1)]; exact H0.out.1
  have H1 := Lib.hid (H0.out.2.trans (hb.mono H0.out.2.size)); clear hb
  have hlt : w.heap.size < w1.heap.size := lt_of_heap hx
  have y := sev_cells hx
  go_wp2_with fail
  have hz := sev_set hx (.int .i64 kr) (.int .i64 h) (.string ⟨#[]⟩) (.slice none 0 0) (.slice none 0 0) (.slice none 0 0) (.int .i64 0)
  have hg := sev_grown w1 w.heap.size (.int .i64 kr) (.int .i64 h) (.string ⟨#[]⟩) (.slice none 0 0) (.slice none 0 0) (.slice none 0 0) (.int .i64 0)
  obtain ⟨W2, hW⟩ : ∃ W2, W2 = (((((((w1.setCell ⟨w.heap.size, 0, none⟩ (.int .i64 kr)).setCell ⟨w.heap.size, 1, none⟩ (.int .i64 h)).setCell ⟨w.heap.size, 2, none⟩ (.string ⟨#[]⟩)).setCell ⟨w.heap.size, 3, none⟩ (.slice none 0 0)).setCell ⟨w.heap.size, 4, none⟩ (.slice none 0 0)).setCell ⟨w.heap.size, 5, none⟩ (.slice none 0 0)).setCell ⟨w.heap.size, 6, none⟩ (.int .i64 0)) := ⟨_, rfl⟩
  rw [← hW] at hz hg ⊢
  obtain ⟨W3, hW3⟩ : ∃ W3, W3 = W2.alloc (.cells #[.int .i64 kr, .int .i64 h, .string ⟨#[]⟩, .slice none 0 0, .slice none 0 0, .slice none 0 0] 26) := ⟨_, rfl⟩
  have hz3 : W3.heap[w.heap.size]? = some (.cells #[.int .i64 kr, .int .i64 h, .string ⟨#[]⟩, .slice none 0 0, .slice none 0 0, .slice none 0 0, .int .i64 0] 36 (0, 0)) := by rw [hW3]; exact ((World.grownBy_alloc W2 _ none).block _ (lt_of_heap hz) (by simp)).trans hz
  have hb3 : Below w.heap.size w W3 := by rw [hW3]; exact (H1.out.grown hg H1.out.size (fun k hk => by cases hk; exact Nat.le_refl _)).alloc (Nat.le_trans H1.out.size hg.size) _
  rw [← hW3]
  clear hW hW3 hz hg
  obtain ⟨q0, q1, q2, q3, q4, q5, q6, _⟩ := sev_cells hz3
  refine bodyPost_ret (v := .agg #[.int .i64 kr, .int .i64 h, .string ⟨#[]⟩, .slice none 0 0, .slice none 0 0, .slice none 0 0, .int .i64 0]) (by simp [results, Tryz.results39, go_sem, q0, q1, q2, q3, q4, q5, q6]) rfl ?_
  exact ⟨rfl, hb3⟩
theorem result_bool (b : Bool) (w : World) : Calls Tryz.prog 39 #[.iface 4 (.bool b)] w fun e w' => e = .returned (rv (kb b) 0 0 r0) ∧ Below w.heap.size w w' := by
  cases b with
  | false => exact result_of _ 1 0 (noErrT _) fromGo_false w
  | true => exact result_of _ 2 0 (noErrT _) fromGo_true w
set_option maxHeartbeats 1000000 in
theorem impl_contains (ka kb h k : Int) (r r' : Rest) (a b g : Value) (kr hr : Int) (HA : ∀ w, Calls Tryz.prog 37 #[vl ka h r] w fun e w' => e = .returned (.tuple #[a, .bool true]) ∧ Below w.heap.size w w') (HB : ∀ w, Calls Tryz.prog 37 #[vl kb k r'] w fun e w' => e = .returned (.tuple #[b, .bool true]) ∧ Below w.heap.size w w')
    (HC : ∀ w, Calls Tryz.prog 40 #[a, b] w (Gives (fun v => v = g) w)) (HD : ∀ w, Calls Tryz.prog 39 #[g] w fun e w' => e = .returned (rv kr hr 0 r0) ∧ Below w.heap.size w w') (w : World) :
    Calls Tryz.prog 20 #[vl ka h r, vl kb k r'] w fun e w' => e = .returned (rv kr hr 0 r0) ∧ Below w.heap.size w w' := by
  replace HA := Lib.hid HA
  replace HB := Lib.hid HB
  replace HC := Lib.hid HC
  replace HD := Lib.hid HD
  obtain ⟨s, q, l, c, q1, l1, c1, q2, l2, c2⟩ := r
  obtain ⟨s', q', l', c', q1', l1', c1', q2', l2', c2'⟩ := r'
  simp only [vl, rv, r0] at HA HB HD ⊢
  go_enter Tryz.func20, Tryz.ntmps20
  go_wp2_with fail
  have h3 := three_boxes w #[.int .i64 ka, .int .i64 h, .string s, .slice q l c, .slice q1 l1 c1, .slice q2 l2 c2] #[.int .i64 kb, .int .i64 k, .string s', .slice q' l' c', .slice q1' l1' c1', .slice q2' l2' c2'] #[.int .i64 0, .int .i64 0, .string ⟨#[]⟩, .slice none 0 0, .slice none 0 0, .slice none 0 0, .int .i64 0] 26 26 36
  obtain ⟨w0, hw0⟩ : ∃ w0, w0 = (((w.alloc (.cells #[.int .i64 ka, .int .i64 h, .string s, .slice q l c, .slice q1 l1 c1, .slice q2 l2 c2] 26)).alloc (.cells #[.int .i64 kb, .int .i64 k, .string s', .slice q' l' c', .slice q1' l1' c1', .slice q2' l2' c2'] 26)).alloc (.cells #[.int .i64 0, .int .i64 0, .string ⟨#[]⟩, .slice none 0 0, .slice none 0 0, .slice none 0 0, .int .i64 0] 36)) := ⟨_, rfl⟩
  rw [← hw0] at h3 ⊢
  clear hw0
  have H0 := Lib.hid h3
  clear h3
  refine (HA.out w0).mono ?_
  rintro e w1 ⟨rfl, hb⟩
  have hy := (hb.block _ (lt_of_heap H0.out.2.2)).trans H0.out.2.2
  have H1 := Lib.hid (And.intro (H0.out.1.trans (hb.mono H0.out.1.size)) ((hb.block _ (lt_of_heap H0.out.2.1)).trans H0.out.2.1))
  clear hb H0
  have y := six_cells hy
  clear hy
  go_wp2_with fail
  refine (HB.out w1).mono ?_
  rintro e w2 ⟨rfl, hb⟩
  clear y
  have H2 := Lib.hid (And.intro (H1.out.1.trans (hb.mono H1.out.1.size)) ((hb.block _ (lt_of_heap H1.out.2)).trans H1.out.2))
  clear hb H1
  go_wp2_with fail
  refine (HC.out w2).mono ?_
  rintro e w3 ⟨v, rfl, rfl, hb⟩
  have H3 := Lib.hid (And.intro (H2.out.1.trans (hb.mono H2.out.1.size)) ((hb.block _ (lt_of_heap H2.out.2)).trans H2.out.2))
  clear hb H2
  go_wp2_with fail
  refine (HD.out w3).mono ?_
  rintro e w4 ⟨rfl, hb⟩
  have hx := (hb.block _ (lt_of_heap H3.out.2)).trans H3.out.2
  have H4 := Lib.hid (H3.out.1.trans (hb.mono H3.out.1.size))
  clear hb H3
  have y := sev_cells hx
  go_wp2_with fail
  have hz := sev_set hx (.int .i64 kr) (.int .i64 hr) (.string ⟨#[]⟩) (.slice none 0 0) (.slice none 0 0) (.slice none 0 0) (.int .i64 0)
  have hg := sev_grown w4 (w.heap.size + 1 + 1) (.int .i64 kr) (.int .i64 hr) (.string ⟨#[]⟩) (.slice none 0 0) (.slice none 0 0) (.slice none 0 0) (.int .i64 0)
  obtain ⟨W2, hW⟩ : ∃ W2, W2 = (((((((w4.setCell ⟨w.heap.size + 1 + 1, 0, none⟩ (.int .i64 kr)).setCell ⟨w.heap.size + 1 + 1, 1, none⟩ (.int .i64 hr)).setCell ⟨w.heap.size + 1 + 1, 2, none⟩ (.string ⟨#[]⟩)).setCell ⟨w.heap.size + 1 + 1, 3, none⟩ (.slice none 0 0)).setCell ⟨w.heap.size + 1 + 1, 4, none⟩ (.slice none 0 0)).setCell ⟨w.heap.size + 1 + 1, 5, none⟩ (.slice none 0 0)).setCell ⟨w.heap.size + 1 + 1, 6, none⟩ (.int .i64 0)) := ⟨_, rfl⟩
  rw [← hW] at hz hg ⊢
  clear hW y hx
  obtain ⟨q0, q1, q2, q3, q4, q5, q6, _⟩ := sev_cells hz
  refine bodyPost_ret (v := .agg #[.int .i64 kr, .int .i64 hr, .string ⟨#[]⟩, .slice none 0 0, .slice none 0 0, .slice none 0 0, .int .i64 0]) (by simp [results, Tryz.results20, go_sem, q0, q1, q2, q3, q4, q5, q6]) rfl ?_
  exact ⟨rfl, H4.out.grown hg H4.out.size (fun k hk => by cases hk; omega)⟩
set_option maxRecDepth 100000 in
set_option maxHeartbeats 4000000 in
theorem bin_con_ii (Q : Value → Prop) (m n : Int) (HC : ∀ w, Calls Tryz.prog 107 #[.int .i64 m, .int .i64 n] w (Gives Q w))  (w : World) :
    Calls Tryz.prog 106 #[.iface 3 (.int .i64 m), .iface 3 (.int .i64 n), Value.func (Fn.func 107) #[] #[], Value.func (Fn.func 108) #[] #[], Value.func (Fn.func 109) #[] #[], Value.func (Fn.func 110) #[] #[], Value.func (Fn.func 112) #[] #[], Value.func (Fn.func 113) #[] #[], Value.func (Fn.func 114) #[] #[]] w (Gives Q w) := by
  have H := Lib.hid HC
  clear HC
  have ia1 := fun w => noJ3 (.int .i64 m) w
  have ia2 := fun w => is33 (.int .i64 m) w
  have ib1 := fun w => noJ3 (.int .i64 n) w
  have ib2 := fun w => is33 (.int .i64 n) w
  go_enter Tryz.func106, Tryz.ntmps106
  go_wp2_with fail
  refine (H.out _).mono ?_
  rintro e w1 ⟨v, rfl, hv⟩
  have HB := Lib.hid hv; clear hv
  go_wp2_with fail
  go_ret
  exact ⟨_, rfl, HB.out⟩
set_option maxRecDepth 100000 in
set_option maxHeartbeats 4000000 in
theorem bin_con_ff (Q : Value → Prop) (x y : Nat) (HC : ∀ w, Calls Tryz.prog 108 #[.float .f64 x, .float .f64 y] w (Gives Q w))  (w : World) :
    Calls Tryz.prog 106 #[.iface 77 (.float .f64 x), .iface 77 (.float .f64 y), Value.func (Fn.func 107) #[] #[], Value.func (Fn.func 108) #[] #[], Value.func (Fn.func 109) #[] #[], Value.func (Fn.func 110) #[] #[], Value.func (Fn.func 112) #[] #[], Value.func (Fn.func 113) #[] #[], Value.func (Fn.func 114) #[] #[]] w (Gives Q w) := by
  have H := Lib.hid HC
  clear HC
  have fa1 := fun w => noJ6 (.float .f64 x) w
  have fa2 := fun w => no63 (.float .f64 x) w
  have fa3 := fun w => is66 (.float .f64 x) w
  have fb1 := fun w => noJ6 (.float .f64 y) w
  have fb2 := fun w => no63 (.float .f64 y) w
  have fb3 := fun w => is66 (.float .f64 y) w
  go_enter Tryz.func106, Tryz.ntmps106
  go_wp2_with fail
  refine (H.out _).mono ?_
  rintro e w1 ⟨v, rfl, hv⟩
  have HB := Lib.hid hv; clear hv
  go_wp2_with fail
  go_ret
  exact ⟨_, rfl, HB.out⟩
set_option maxRecDepth 100000 in
set_option maxHeartbeats 4000000 in
theorem bin_con_if (Q : Value → Prop) (m : Int) (x y : Nat) (HC : ∀ w, Calls Tryz.prog 108 #[.float .f64 x, .float .f64 y] w (Gives Q w)) (hx : floatOfInt .f64 m = x) (w : World) :
    Calls Tryz.prog 106 #[.iface 3 (.int .i64 m), .iface 77 (.float .f64 y), Value.func (Fn.func 107) #[] #[], Value.func (Fn.func 108) #[] #[], Value.func (Fn.func 109) #[] #[], Value.func (Fn.func 110) #[] #[], Value.func (Fn.func 112) #[] #[], Value.func (Fn.func 113) #[] #[], Value.func (Fn.func 114) #[] #[]] w (Gives Q w) := by
  have H := Lib.hid HC
  clear HC
  have ia1 := fun w => noJ3 (.int .i64 m) w
  have ia2 := fun w => is33 (.int .i64 m) w
  have fb1 := fun w => noJ6 (.float .f64 y) w
  have fb2 := fun w => no63 (.float .f64 y) w
  have fb3 := fun w => is66 (.float .f64 y) w
  go_enter Tryz.func106, Tryz.ntmps106
  go_wp2_with fail
  refine (H.out _).mono ?_
  rintro e w1 ⟨v, rfl, hv⟩
  have HB := Lib.hid hv; clear hv
  go_wp2_with fail
  go_ret
  exact ⟨_, rfl, HB.out⟩
set_option maxRecDepth 100000 in
set_option maxHeartbeats 4000000 in
theorem bin_con_fi (Q : Value → Prop) (x : Nat) (n : Int) (y : Nat) (HC : ∀ w, Calls Tryz.prog 108 #[.float .f64 x, .float .f64 y] w (Gives Q w)) (hy : floatOfInt .f64 n = y) (w : World) :
    Calls Tryz.prog 106 #[.iface 77 (.float .f64 x), .iface 3 (.int .i64 n), Value.func (Fn.func 107) #[] #[], Value.func (Fn.func 108) #[] #[], Value.func (Fn.func 109) #[] #[], Value.func (Fn.func 110) #[] #[], Value.func (Fn.func 112) #[] #[], Value.func (Fn.func 113) #[] #[], Value.func (Fn.func 114) #[] #[]] w (Gives Q w) := by
  have H := Lib.hid HC
  clear HC
  have fa1 := fun w => noJ6 (.float .f64 x) w
  have fa2 := fun w => no63 (.float .f64 x) w
  have fa3 := fun w => is66 (.float .f64 x) w
  have ib1 := fun w => noJ3 (.int .i64 n) w
  have ib2 := fun w => is33 (.int .i64 n) w
  go_enter Tryz.func106, Tryz.ntmps106
  go_wp2_with fail
  refine (H.out _).mono ?_
  rintro e w1 ⟨v, rfl, hv⟩
  have HB := Lib.hid hv; clear hv
  go_wp2_with fail
  go_ret
  exact ⟨_, rfl, HB.out⟩
set_option maxRecDepth 100000 in
set_option maxHeartbeats 4000000 in
theorem bin_con_tt (Q : Value → Prop) (a b : Bool) (HC : ∀ w, Calls Tryz.prog 114 #[.iface 4 (.bool a), .iface 4 (.bool b)] w (Gives Q w)) (w : World) :
    Calls Tryz.prog 106 #[.iface 4 (.bool a), .iface 4 (.bool b), Value.func (Fn.func 107) #[] #[], Value.func (Fn.func 108) #[] #[], Value.func (Fn.func 109) #[] #[], Value.func (Fn.func 110) #[] #[], Value.func (Fn.func 112) #[] #[], Value.func (Fn.func 113) #[] #[], Value.func (Fn.func 114) #[] #[]] w (Gives Q w) := by
  have H := Lib.hid HC
  clear HC
  have tJ0 := fun w => noTJ (.bool a) w
  have tI0 := fun w => noTI (.bool a) w
  have tF0 := fun w => noTF (.bool a) w
  have tB0 := fun w => noTB (.bool a) w
  have tS0 := fun w => noTS (.bool a) w
  have tL0 := fun w => noTL (.bool a) w
  have tM0 := fun w => noTM (.bool a) w
  have tJ1 := fun w => noTJ (.bool b) w
  have tI1 := fun w => noTI (.bool b) w
  have tF1 := fun w => noTF (.bool b) w
  have tB1 := fun w => noTB (.bool b) w
  have tS1 := fun w => noTS (.bool b) w
  have tL1 := fun w => noTL (.bool b) w
  have tM1 := fun w => noTM (.bool b) w
  go_enter Tryz.func106, Tryz.ntmps106
  go_wp2_with fail
  refine (H.out _).mono ?_
  rintro e w1 ⟨v, rfl, hv⟩
  have HB := Lib.hid hv; clear hv
  go_wp2_with fail
  go_ret
  exact ⟨_, rfl, HB.out⟩
set_option maxRecDepth 100000 in
set_option maxHeartbeats 4000000 in
theorem bin_con_nn (Q : Value → Prop)  (HC : ∀ w, Calls Tryz.prog 114 #[.nilIface, .nilIface] w (Gives Q w)) (w : World) :
    Calls Tryz.prog 106 #[.nilIface, .nilIface, Value.func (Fn.func 107) #[] #[], Value.func (Fn.func 108) #[] #[], Value.func (Fn.func 109) #[] #[], Value.func (Fn.func 110) #[] #[], Value.func (Fn.func 112) #[] #[], Value.func (Fn.func 113) #[] #[], Value.func (Fn.func 114) #[] #[]] w (Gives Q w) := by
  have H := Lib.hid HC
  clear HC
  have nJ := fun w => noNJ w
  have nI := fun w => noNI w
  have nF := fun w => noNF w
  have nB := fun w => noNB w
  have nS := fun w => noNS w
  have nL := fun w => noNL w
  have nM := fun w => noNM w
  go_enter Tryz.func106, Tryz.ntmps106
  go_wp2_with fail
  refine (H.out _).mono ?_
  rintro e w1 ⟨v, rfl, hv⟩
  have HB := Lib.hid hv; clear hv
  go_wp2_with fail
  go_ret
  exact ⟨_, rfl, HB.out⟩
set_option maxRecDepth 100000 in
set_option maxHeartbeats 4000000 in
theorem bin_con_ss (Q : Value → Prop) (s t : ByteArray) (HC : ∀ w, Calls Tryz.prog 110 #[.string s, .string t] w (Gives Q w)) (w : World) :
    Calls Tryz.prog 106 #[.iface 9 (.string s), .iface 9 (.string t), Value.func (Fn.func 107) #[] #[], Value.func (Fn.func 108) #[] #[], Value.func (Fn.func 109) #[] #[], Value.func (Fn.func 110) #[] #[], Value.func (Fn.func 112) #[] #[], Value.func (Fn.func 113) #[] #[], Value.func (Fn.func 114) #[] #[]] w (Gives Q w) := by
  have H := Lib.hid HC
  clear HC
  have sJ0 := fun w => noSJ (.string s) w
  have sI0 := fun w => noSI (.string s) w
  have sF0 := fun w => noSF (.string s) w
  have sB0 := fun w => noSB (.string s) w
  have sJ1 := fun w => noSJ (.string t) w
  have sI1 := fun w => noSI (.string t) w
  have sF1 := fun w => noSF (.string t) w
  have sB1 := fun w => noSB (.string t) w
  have s0 := fun w => isS (.string s) w
  have s1 := fun w => isS (.string t) w
  go_enter Tryz.func106, Tryz.ntmps106
  go_wp2_with fail
  refine (H.out _).mono ?_
  rintro e w1 ⟨v, rfl, hv⟩
  have HB := Lib.hid hv; clear hv
  go_wp2_with fail
  go_ret
  exact ⟨_, rfl, HB.out⟩
theorem con_ints (m n : Int) (w : World) : Calls Tryz.prog 107 #[.int .i64 m, .int .i64 n] w (Gives (fun v => v = .iface 4 (.bool (decide (m = n)))) w) := by
  have h : (m == n) = decide (m = n) := rfl
  obtain ⟨b, hb⟩ : ∃ b, b = decide (m = n) := ⟨_, rfl⟩
  rw [← hb] at h ⊢
  clear hb
  go_enter Tryz.func107, Tryz.ntmps107
  go_wp2_with fail
  go_ret
  exact ⟨_, rfl, rfl, Below.refl _ _⟩
theorem con_flts (h k : Int) (h1 : HE h) (k1 : HE k) (w : World) : Calls Tryz.prog 108 #[.float .f64 (fw h), .float .f64 (fw k)] w (Gives (fun v => v = .iface 4 (.bool (decide (h = k)))) w) := by
  have ho : (FloatKind.f64.format.order (fw h) (fw k) == some .eq) = decide (h = k) := by
    show (Ieee.double.order (fw h) (fw k) == some .eq) = _
    rw [order_fw h k h1 k1, Bool.eq_iff_iff, beq_iff_eq, decide_eq_true_eq]
    constructor
    · intro e
      exact Int.compare_eq_eq.1 (Option.some.inj e)
    · rintro rfl
      simp
  obtain ⟨b, hb⟩ : ∃ b, b = decide (h = k) := ⟨_, rfl⟩
  rw [← hb] at ho ⊢
  clear hb h1 k1
  go_enter Tryz.func108, Tryz.ntmps108
  go_wp2_with fail
  go_ret
  exact ⟨_, rfl, rfl, Below.refl _ _⟩
theorem eq_nil (w : World) : (binOp .eql 20 .nilIface .nilIface).run Tryz.prog w = .ok (.bool true) w := by kernel_rfl
theorem eq_bool (b : Bool) (w : World) : (binOp .eql 20 (.iface 4 (.bool b)) (.iface 4 (.bool b))).run Tryz.prog w = .ok (.bool true) w := by cases b <;> kernel_rfl
theorem guard_nil (w : World) : (eqGuard .eql 20 (.tmp 5) (.tmp 6) .nilIface .nilIface).run Tryz.prog w = .ok () w := by kernel_rfl
theorem guard_bool (b : Bool) (w : World) : (eqGuard .eql 20 (.tmp 5) (.tmp 6) (.iface 4 (.bool b)) (.iface 4 (.bool b))).run Tryz.prog w = .ok () w := by cases b <;> kernel_rfl
set_option maxRecDepth 100000 in
theorem con_null (w : World) : Calls Tryz.prog 114 #[.nilIface, .nilIface] w (Gives (fun v => v = .iface 4 (.bool true)) w) := by
  have he := eq_nil
  have hg := guard_nil
  go_enter Tryz.func114, Tryz.ntmps114
  go_wp2_with fail
  go_ret
  exact ⟨_, rfl, rfl, Below.refl _ _⟩
set_option maxRecDepth 100000 in
theorem con_bool (b : Bool) (w : World) : Calls Tryz.prog 114 #[.iface 4 (.bool b), .iface 4 (.bool b)] w (Gives (fun v => v = .iface 4 (.bool true)) w) := by
  have he := eq_bool b
  have hg := guard_bool b
  go_enter Tryz.func114, Tryz.ntmps114
  go_wp2_with fail
  go_ret
  exact ⟨_, rfl, rfl, Below.refl _ _⟩
/-- A number that package spec lets in. -/
def JN (h : Int) : Prop := (-18014398509481984 ≤ h ∧ h ≤ 18014398509481984) ∧ (h % 2 = 0 ∨ (-9007199254740992 < h ∧ h < 9007199254740992))
theorem JN.he {h : Int} (hj : JN h) : HE h := by
  obtain ⟨⟨a, b⟩, c | ⟨c, d⟩⟩ := hj
  · have e : h = 2 * (h / 2) := by omega
    rw [e]; exact he_even _ (by omega) (by omega)
  · exact he_small h (by omega) (by omega)
theorem toGo_jn (h : Int) (r : Rest) (hj : JN h) (w : World) :
    Calls Tryz.prog 37 #[vl 3 h r] w fun e w' => e = .returned (.tuple #[gv h, .bool true]) ∧ Below w.heap.size w w' := by
  by_cases hs : -9007199254740992 ≤ h ∧ h ≤ 9007199254740992
  · exact toGo_num h r w hs.1 hs.2
  have hm : h % 2 = 0 := by obtain ⟨⟨a, b⟩, c | ⟨c, d⟩⟩ := hj <;> omega
  obtain ⟨⟨h1, h2⟩, _⟩ := hj
  clear hs
  obtain ⟨s, a, l, c, a1, l1, c1, a2, l2, c2⟩ := r
  simp only [vl]
  unfold gv
  rw [if_pos hm]
  obtain ⟨n, hn⟩ : ∃ n, h = 2 * n := ⟨h / 2, by omega⟩
  have q : h.tdiv 2 = n := by rw [hn]; exact Int.mul_tdiv_cancel_left n (by omega)
  have m : (h.tmod 2 == 0) = true := by rw [beq_iff_eq, hn]; exact Int.mul_tmod_right 2 n
  have e : h / 2 = n := by omega
  rw [e]
  have Q := Lib.hid q
  clear q hm hn e
  go_enter Tryz.func37, Tryz.ntmps37
  go_wp2_with fail
  go_ret2
  exact ⟨by rw [← Q.out]; rfl, (Below.refl _ w).alloc (Nat.le_refl _) _⟩
theorem contains_num (h k : Int) (hj : JN h) (kj : JN k) (w : World) : Calls Tryz.prog 106 #[gv h, gv k, Value.func (Fn.func 107) #[] #[], Value.func (Fn.func 108) #[] #[], Value.func (Fn.func 109) #[] #[], Value.func (Fn.func 110) #[] #[], Value.func (Fn.func 112) #[] #[], Value.func (Fn.func 113) #[] #[], Value.func (Fn.func 114) #[] #[]] w (Gives (fun v => v = .iface 4 (.bool (decide (h = k)))) w) := by
  unfold gv
  by_cases hm : h % 2 = 0
  · have e1 : 2 * (h / 2) = h := by omega
    by_cases km : k % 2 = 0
    · rw [if_pos hm, if_pos km]
      have e : decide (h = k) = decide (h / 2 = k / 2) := by rw [decide_eq_decide]; omega
      rw [e]
      exact bin_con_ii _ _ _ (fun w => con_ints _ _ w) w
    · rw [if_pos hm, if_neg km]
      exact bin_con_if _ _ _ _ (fun w => con_flts h k hj.he kj.he w) (by rw [ofInt_fw _ (by rw [e1]; exact hj.he), e1]) w
  · by_cases km : k % 2 = 0
    · have e1 : 2 * (k / 2) = k := by omega
      rw [if_neg hm, if_pos km]
      exact bin_con_fi _ _ _ _ (fun w => con_flts h k hj.he kj.he w) (by rw [ofInt_fw _ (by rw [e1]; exact kj.he), e1]) w
    · rw [if_neg hm, if_neg km]
      exact bin_con_ff _ _ _ (fun w => con_flts h k hj.he kj.he w) w
theorem zz_contains (a b : Value) (Q : Value → Prop) (HB : ∀ w, Calls Tryz.prog 106 #[a, b, Value.func (Fn.func 107) #[] #[], Value.func (Fn.func 108) #[] #[], Value.func (Fn.func 109) #[] #[], Value.func (Fn.func 110) #[] #[], Value.func (Fn.func 112) #[] #[], Value.func (Fn.func 113) #[] #[], Value.func (Fn.func 114) #[] #[]] w (Gives Q w)) (w : World) : Calls Tryz.prog 40 #[a, b] w (Gives Q w) := by
  replace HB := Lib.hid HB
  have H2 : Hid (∀ w, Calls Tryz.prog 75 #[a, b] w (Gives Q w)) := by
    refine Lib.hid fun w => ?_
    go_enter Tryz.func75, Tryz.ntmps75
    go_wp2_with fail
    refine (HB.out _).mono ?_
    rintro e w1 ⟨v, rfl, hv⟩
    have HV := Lib.hid hv; clear hv
    go_wp2_with fail
    go_ret
    exact ⟨_, rfl, HV.out⟩
  clear HB
  go_enter Tryz.func40, Tryz.ntmps40
  go_wp2_with fail
  refine (H2.out _).mono ?_
  rintro e w1 ⟨v, rfl, hv⟩
  have HV := Lib.hid hv; clear hv
  go_wp2_with fail
  go_ret
  exact ⟨_, rfl, HV.out⟩
end Go.Proofs.YtcoahpcjhhnkkaaGreatDoor.NumA
/-
Contains at two strings; the order of flat values; the law's yes and no.
-/
namespace Go.Proofs.YtcoahpcjhhnkkaaGreatDoor.NumA
open Go.RowKit Go.Lib Go.Proofs.YtcoahpcjhhnkkaaGreatDoor.ValA Go.Proofs.YtcoahpcjhhnkkaaGreatDoor.FloH Go.Proofs.YtcoahpcjhhnkkaaGreatDoor.PzzContains Go.Proofs.YtcoahpcjhhnkkaaGreatDoorW.PrintWords Go.Proofs.YtcoahpcjhhnkkaaGreatDoorW.PrintLast Go.Proofs.YtcoahpcjhhnkkaaGreatDoorW.PrintMore
theorem ext_all (s : ByteArray) : s.extract 0 s.size = s := by
  apply Go.WideShapes.bytes_inj
  simp
theorem idx_ev (s t : ByteArray) (hs : s.size ≤ 140737488355328) (ht : t.size ≤ 140737488355328) : ∀ (d j : Nat), d + j = s.size + 1 → ∃ r, gojq_zzIndex.l0 (d + 1) s t j = some r ∧ (0 ≤ r → (j : Int) ≤ r ∧ r + t.size ≤ s.size ∧ (s.extract r.toNat (r + t.size).toNat).toList = t.toList) ∧ (s = t → j = 0 → r = 0)
  | d, j, hd => by
    rw [gojq_zzIndex.l0]
    have hw : wrap64 ((j : Int) + (t.size : Int)) = (j : Int) + t.size := by unfold wrap64; omega
    rw [hw]
    by_cases c : (j : Int) + t.size ≤ s.size
    · rw [if_pos c, if_pos (by omega), if_pos (by omega)]
      by_cases e : (s.extract (j : Int).toNat ((j : Int) + t.size).toNat).toList = t.toList
      · rw [if_pos e]
        exact ⟨j, rfl, fun _ => ⟨by omega, c, e⟩, fun _ h => by omega⟩
      · rw [if_neg e]
        match d, hd with
        | 0, hd => omega
        | d + 1, hd =>
          have hw2 : wrap64 ((j : Int) + 1) = ((j + 1 : Nat) : Int) := by unfold wrap64; omega
          rw [hw2]
          obtain ⟨r, h1, h2, h3⟩ := idx_ev s t hs ht d (j + 1) (by omega)
          refine ⟨r, h1, fun h => ⟨by have := (h2 h).1; omega, (h2 h).2⟩, fun e1 e2 => ?_⟩
          subst e1 e2
          exact absurd (by simp) e
    · rw [if_neg c]
      exact ⟨-1, rfl, fun h => by omega, fun e1 e2 => by subst e1 e2; omega⟩
/-- Does a string contain another one. -/
def conB (s t : ByteArray) : Bool := gojq_zzContains.f (s.size + 2) s t == some true
theorem con_ev2 (s t : ByteArray) (hs : s.size ≤ 140737488355328) (ht : t.size ≤ 140737488355328) : gojq_zzContains.f (s.size + 2) s t = some (conB s t) ∧ (conB s t = true → t.size ≤ s.size ∧ (t.size = s.size → s = t)) ∧ (s = t → conB s t = true) := by
  obtain ⟨r, h1, h2, h3⟩ := idx_ev s t hs ht (s.size + 1) 0 (by omega)
  have hf : gojq_zzContains.f (s.size + 2) s t = some (decide (r ≥ 0)) := by
    unfold gojq_zzContains.f gojq_zzIndex.f
    rw [show ((0 : Nat) : Int) = 0 from rfl] at h1
    rw [h1]; rfl
  have hc : conB s t = decide (r ≥ 0) := by unfold conB; rw [hf]; cases decide (r ≥ 0) <;> rfl
  rw [hc]
  refine ⟨hf, fun h => ?_, fun e => ?_⟩
  · obtain ⟨a, b, c⟩ := h2 (of_decide_eq_true h)
    refine ⟨by omega, fun e => ?_⟩
    obtain rfl : r = 0 := by omega
    rw [show (0 : Int).toNat = 0 from rfl, show (0 + (t.size : Int)).toNat = s.size by omega, ext_all, Lib.toList_data, Lib.toList_data] at c
    exact Go.WideShapes.bytes_inj c
  · rw [h3 e rfl]; rfl
theorem con_ev (s t : ByteArray) (hs : s.size ≤ 2147483647) (ht : t.size ≤ 2147483647) : gojq_zzContains.f (s.size + 2) s t = some (conB s t) ∧ (conB s t = true → t.size ≤ s.size ∧ (t.size = s.size → s = t)) ∧ (s = t → conB s t = true) := con_ev2 s t (by omega) (by omega)
theorem con_text2 (s t : ByteArray) (hs : s.size ≤ 140737488355328) (ht : t.size ≤ 140737488355328) (w : World) : Calls Tryz.prog 110 #[.string s, .string t] w (Gives (fun v => v = .iface 4 (.bool (conB s t))) w) := by
  have HC := Lib.hid (fun w => gojq_zzContains.calls _ s t _ w (con_ev2 s t hs ht).1)
  generalize conB s t = b at HC ⊢
  clear hs ht
  go_enter Tryz.func110, Tryz.ntmps110
  go_wp2_with fail
  refine (HC.out _).mono ?_
  rintro e w1 ⟨rfl, hd⟩
  have HD := Lib.hid hd.below; clear hd
  go_wp2_with fail
  go_ret
  exact ⟨_, rfl, rfl, HD.out⟩
theorem con_text (s t : ByteArray) (hs : s.size ≤ 2147483647) (ht : t.size ≤ 2147483647) (w : World) : Calls Tryz.prog 110 #[.string s, .string t] w (Gives (fun v => v = .iface 4 (.bool (conB s t))) w) := con_text2 s t (by omega) (by omega) w
end Go.Proofs.YtcoahpcjhhnkkaaGreatDoor.NumA
