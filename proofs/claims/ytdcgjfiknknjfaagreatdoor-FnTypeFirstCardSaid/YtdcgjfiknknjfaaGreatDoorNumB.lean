/-
Numbers come back from package gojq: half, fromGo, result; and package gojq's sums, differences and opposites of numbers.
-/
import Derived.Test.YtdcgjfiknknjfaaGreatDoorNumA
import Derived.Stop.Asserts
namespace Go.Proofs.YtdcgjfiknknjfaaGreatDoor.NumA
open Go.RowKit Go.Lib Go.Proofs.YtdcgjfiknknjfaaGreatDoor.ValA Go.Proofs.YtdcgjfiknknjfaaGreatDoor.FloH
theorem c_low : fw (-9223372036854775808) = 14109777632551763968 := by kernel_rfl
theorem c_high : fw 9223372036854775808 = 4886405595696988160 := by kernel_rfl
theorem he_low : HE (-9223372036854775808) := .inr ⟨63, 4503599627370496, ⟨by decide, by decide, by decide⟩, by decide⟩
theorem he_high : HE 9223372036854775808 := .inr ⟨63, 4503599627370496, ⟨by decide, by decide, by decide⟩, by decide⟩
theorem half_any (h : Int) (w : World) (h1 : -9007199254740992 ≤ h) (h2 : h ≤ 9007199254740992) :
    Calls Tryz.prog 88 #[.float .f64 (fw (2 * h))] w fun e w' => e = .returned (.tuple #[vl 3 h r0, .bool true]) ∧ Below w.heap.size w w' := by
  have hE := he_even h h1 h2
  have o1 : (FloatKind.f64.format.order (fw (2 * h)) (fw (2 * h)) != some .eq) = false := by
    show (Ieee.double.order _ _ != some .eq) = false
    rw [order_fw _ _ hE hE, show compare (2 * h) (2 * h) = .eq by simp]; rfl
  have o2 : FloatKind.f64.format.order (fw (2 * h)) 14109777632551763968 = some .gt := by
    show Ieee.double.order _ _ = _
    rw [← c_low, order_fw _ _ hE he_low, show compare (2 * h) (-9223372036854775808) = .gt by rw [Int.compare_eq_gt]; omega]
  have o3 : FloatKind.f64.format.order (fw (2 * h)) 4886405595696988160 = some .lt := by
    show Ieee.double.order _ _ = _
    rw [← c_high, order_fw _ _ hE he_high, show compare (2 * h) 9223372036854775808 = .lt by rw [Int.compare_eq_lt]; omega]
  have hc : ∀ w, (convert 61 3 (.float .f64 (fw (2 * h)))).run Tryz.prog w = .ok (.int .i64 h) w := fun w => run_convert_float_int w 61 3 .f64 .i64 _ _ (by rw [Tryz.underlying61]; rfl) Tryz.underlying3 (toInt_fw h hE (by omega) (by omega))
  have HT := Lib.hid (fun w => trunc_any h hE w)
  clear hE h1 h2
  go_enter Tryz.func88, Tryz.ntmps88
  go_wp2_with fail
  refine (HT.out _).mono ?_
  rintro e w1 ⟨rfl, rfl⟩
  go_wp2_with fail
  refine bodyPost_ret (v := .tuple #[vl 3 h r0, .bool true]) (by simp [results, Tryz.results88, go_sem, vl, r0]) rfl ⟨rfl, ?_⟩
  exact (Below.refl _ w).alloc (Nat.le_refl _) _
theorem fromGo_flt (h : Int) (w : World) (h1 : -9007199254740992 ≤ h) (h2 : h ≤ 9007199254740992) :
    Calls Tryz.prog 63 #[.iface 61 (.float .f64 (fw h))] w fun e w' => e = .returned (.tuple #[vl 3 h r0, .bool true]) ∧ Below w.heap.size w w' := by
  have a1 := fun w => no63 (.float .f64 (fw h)) w
  have a2 := fun w => no64 (.float .f64 (fw h)) w
  have a3 := fun w => is66 (.float .f64 (fw h)) w
  have hq : ∀ w, (binOp .mul 61 (.float .f64 4611686018427387904) (.float .f64 (fw h))).run Tryz.prog w = .ok (.float .f64 (fw (2 * h))) w := fun w => run_float_arith w .mul 61 .f64 _ _ _ (double_fw h (he_small h h1 h2) (he_even h (by omega) (by omega)))
  have HT := Lib.hid (fun w => half_any h w (by omega) (by omega))
  simp only [vl, r0] at HT ⊢
  clear h1 h2
  go_enter Tryz.func63, Tryz.ntmps63
  go_wp2_with fail
  obtain ⟨w0, hw0⟩ : ∃ w0, w0 = w.alloc (.cells #[.int .i64 0, .int .i64 0, .string ⟨#[]⟩, .slice none 0 0, .slice none 0 0, .slice none 0 0] 26) := ⟨_, rfl⟩
  have hx : w0.heap[w.heap.size]? = some (.cells #[.int .i64 0, .int .i64 0, .string ⟨#[]⟩, .slice none 0 0, .slice none 0 0, .slice none 0 0] 26 (0, 0)) := by rw [hw0]; exact heap_alloc_new w _
  have hb : Below w.heap.size w w0 := by rw [hw0]; exact (Below.refl _ w).alloc (Nat.le_refl _) _
  have H0 := Lib.hid (And.intro hx hb)
  rw [← hw0]
  clear hw0 hx hb
  refine (HT.out w0).mono ?_
  rintro e w1 ⟨rfl, hb⟩
  have hx : w1.heap[w.heap.size]? = some (.cells #[.int .i64 0, .int .i64 0, .string ⟨#[]⟩, .slice none 0 0, .slice none 0 0, .slice none 0 0] 26 (0, 0)) := by rw [hb.block _ (lt_of_heap H0.out.1)]; exact H0.out.1
  have H1 := Lib.hid (H0.out.2.trans (hb.mono H0.out.2.size)); clear hb
  have y := six_cells hx
  go_wp2_with fail
  have hz := six_set hx (.int .i64 3) (.int .i64 h) (.string ⟨#[]⟩) (.slice none 0 0) (.slice none 0 0) (.slice none 0 0)
  have hg := six_grown w1 w.heap.size (.int .i64 3) (.int .i64 h) (.string ⟨#[]⟩) (.slice none 0 0) (.slice none 0 0) (.slice none 0 0)
  obtain ⟨W2, hW⟩ : ∃ W2, W2 = ((((((w1.setCell ⟨w.heap.size, 0, none⟩ (.int .i64 3)).setCell ⟨w.heap.size, 1, none⟩ (.int .i64 h)).setCell ⟨w.heap.size, 2, none⟩ (.string ⟨#[]⟩)).setCell ⟨w.heap.size, 3, none⟩ (.slice none 0 0)).setCell ⟨w.heap.size, 4, none⟩ (.slice none 0 0)).setCell ⟨w.heap.size, 5, none⟩ (.slice none 0 0)) := ⟨_, rfl⟩
  rw [← hW] at hz hg ⊢
  obtain ⟨q0, q1, q2, q3, q4, q5, _⟩ := six_cells hz
  refine bodyPost_ret (v := .tuple #[.agg #[.int .i64 3, .int .i64 h, .string ⟨#[]⟩, .slice none 0 0, .slice none 0 0, .slice none 0 0], .bool true]) (by simp [results, Tryz.results63, go_sem, q0, q1, q2, q3, q4, q5]) rfl ?_
  exact ⟨rfl, H1.out.grown hg H1.out.size (fun k hk => by cases hk; exact Nat.le_refl _)⟩
/-- v is package gojq's number h / 2. -/
def GNum (v : Value) (h : Int) : Prop := (∃ n, h = 2 * n ∧ v = .iface 3 (.int .i64 n) ∧ -1000000000000000000 ≤ n ∧ n ≤ 1000000000000000000) ∨ (v = .iface 61 (.float .f64 (fw h)) ∧ -9007199254740992 ≤ h ∧ h ≤ 9007199254740992)
theorem fromGo_num (v : Value) (h : Int) (hv : GNum v h) (w : World) :
    Calls Tryz.prog 63 #[v] w fun e w' => e = .returned (.tuple #[vl 3 h r0, .bool true]) ∧ Below w.heap.size w w' := by
  rcases hv with ⟨n, rfl, rfl, h1, h2⟩ | ⟨rfl, h1, h2⟩
  · exact fromGo_int n w h1 h2
  · exact fromGo_flt h w h1 h2
theorem noErr3 (v : Value) (w : World) : (Instr.typeAssert (.iface 3 v) 20 69 true).run Tryz.prog w = .ok (.tuple #[.nilIface, .bool false]) w := run_typeAssert_lacksB Tryz.underlying69 (by kernel_rfl) (by kernel_rfl) v 20 w
theorem noErr6 (v : Value) (w : World) : (Instr.typeAssert (.iface 61 v) 20 69 true).run Tryz.prog w = .ok (.tuple #[.nilIface, .bool false]) w := run_typeAssert_lacksB Tryz.underlying69 (by kernel_rfl) (by kernel_rfl) v 20 w
theorem noErr_num (v : Value) (h : Int) (hv : GNum v h) (w : World) : (Instr.typeAssert v 20 69 true).run Tryz.prog w = .ok (.tuple #[.nilIface, .bool false]) w := by
  rcases hv with ⟨n, rfl, rfl, h1, h2⟩ | ⟨rfl, h1, h2⟩
  · exact noErr3 _ w
  · exact noErr6 _ w
set_option maxHeartbeats 1000000 in
theorem result_num (v : Value) (h : Int) (hv : GNum v h) (w : World) :
    Calls Tryz.prog 42 #[v] w fun e w' => e = .returned (rv 3 h 0 r0) ∧ Below w.heap.size w w' := by
  have a1 := fun w => noErr_num v h hv w
  have HT := Lib.hid (fun w => fromGo_num v h hv w)
  simp only [vl, rv, r0] at HT ⊢
  clear hv
  go_enter Tryz.func42, Tryz.ntmps42
  go_wp2_with fail
  obtain ⟨w0, hw0⟩ : ∃ w0, w0 = w.alloc (.cells #[.int .i64 0, .int .i64 0, .string ⟨#[]⟩, .slice none 0 0, .slice none 0 0, .slice none 0 0, .int .i64 0] 30) := ⟨_, rfl⟩
  have hx : w0.heap[w.heap.size]? = some (.cells #[.int .i64 0, .int .i64 0, .string ⟨#[]⟩, .slice none 0 0, .slice none 0 0, .slice none 0 0, .int .i64 0] 30 (0, 0)) := by rw [hw0]; exact heap_alloc_new w _
  have hb : Below w.heap.size w w0 := by rw [hw0]; exact (Below.refl _ w).alloc (Nat.le_refl _) _
  have H0 := Lib.hid (And.intro hx hb)
  rw [← hw0]
  clear hw0 hx hb
  refine (HT.out w0).mono ?_
  rintro e w1 ⟨rfl, hb⟩
  have hx : w1.heap[w.heap.size]? = some (.cells #[.int .i64 0, .int .i64 0, .string ⟨#[]⟩, .slice none 0 0, .slice none 0 0, .slice none 0 0, .int .i64 0] 30 (0, 0)) := by rw [hb.block _ (lt_of_heap H0.out.1)]; exact H0.out.1
  have H1 := Lib.hid (H0.out.2.trans (hb.mono H0.out.2.size)); clear hb
  have hlt : w.heap.size < w1.heap.size := lt_of_heap hx
  have y := sev_cells hx
  go_wp2_with fail
  have hz := sev_set hx (.int .i64 3) (.int .i64 h) (.string ⟨#[]⟩) (.slice none 0 0) (.slice none 0 0) (.slice none 0 0) (.int .i64 0)
  have hg := sev_grown w1 w.heap.size (.int .i64 3) (.int .i64 h) (.string ⟨#[]⟩) (.slice none 0 0) (.slice none 0 0) (.slice none 0 0) (.int .i64 0)
  obtain ⟨W2, hW⟩ : ∃ W2, W2 = (((((((w1.setCell ⟨w.heap.size, 0, none⟩ (.int .i64 3)).setCell ⟨w.heap.size, 1, none⟩ (.int .i64 h)).setCell ⟨w.heap.size, 2, none⟩ (.string ⟨#[]⟩)).setCell ⟨w.heap.size, 3, none⟩ (.slice none 0 0)).setCell ⟨w.heap.size, 4, none⟩ (.slice none 0 0)).setCell ⟨w.heap.size, 5, none⟩ (.slice none 0 0)).setCell ⟨w.heap.size, 6, none⟩ (.int .i64 0)) := ⟨_, rfl⟩
  rw [← hW] at hz hg ⊢
  obtain ⟨W3, hW3⟩ : ∃ W3, W3 = W2.alloc (.cells #[.int .i64 3, .int .i64 h, .string ⟨#[]⟩, .slice none 0 0, .slice none 0 0, .slice none 0 0] 26) := ⟨_, rfl⟩
  have hz3 : W3.heap[w.heap.size]? = some (.cells #[.int .i64 3, .int .i64 h, .string ⟨#[]⟩, .slice none 0 0, .slice none 0 0, .slice none 0 0, .int .i64 0] 30 (0, 0)) := by rw [hW3]; exact ((World.grownBy_alloc W2 _ none).block _ (lt_of_heap hz) (by simp)).trans hz
  have hb3 : Below w.heap.size w W3 := by rw [hW3]; exact (H1.out.grown hg H1.out.size (fun k hk => by cases hk; exact Nat.le_refl _)).alloc (Nat.le_trans H1.out.size hg.size) _
  rw [← hW3]
  clear hW hW3 hz hg
  obtain ⟨q0, q1, q2, q3, q4, q5, q6, _⟩ := sev_cells hz3
  refine bodyPost_ret (v := .agg #[.int .i64 3, .int .i64 h, .string ⟨#[]⟩, .slice none 0 0, .slice none 0 0, .slice none 0 0, .int .i64 0]) (by simp [results, Tryz.results42, go_sem, q0, q1, q2, q3, q4, q5, q6]) rfl ?_
  exact ⟨rfl, hb3⟩
theorem gv_num (h : Int) (h1 : -9007199254740992 ≤ h) (h2 : h ≤ 9007199254740992) : GNum (gv h) h := by
  unfold gv
  by_cases e : h % 2 = 0
  · rw [if_pos e]
    exact .inl ⟨h / 2, by omega, rfl, by omega, by omega⟩
  · rw [if_neg e]
    exact .inr ⟨rfl, by omega, by omega⟩
/-- What a binary operation gives: a value of which Q says something. -/
def Gives (Q : Value → Prop) (w : World) (e : Ending) (w' : World) : Prop := ∃ v, e = .returned v ∧ Q v ∧ Below w.heap.size w w'
theorem noJ3 (v : Value) (w : World) : (Instr.typeAssert (.iface 3 v) 20 109 true).run Tryz.prog w = .ok (.tuple #[.string ⟨#[]⟩, .bool false]) w := by kernel_rfl
theorem noJ6 (v : Value) (w : World) : (Instr.typeAssert (.iface 61 v) 20 109 true).run Tryz.prog w = .ok (.tuple #[.string ⟨#[]⟩, .bool false]) w := by kernel_rfl
theorem no36 (v : Value) (w : World) : (Instr.typeAssert (.iface 3 v) 20 61 true).run Tryz.prog w = .ok (.tuple #[.float .f64 0, .bool false]) w := by kernel_rfl
end Go.Proofs.YtdcgjfiknknjfaaGreatDoor.NumA
