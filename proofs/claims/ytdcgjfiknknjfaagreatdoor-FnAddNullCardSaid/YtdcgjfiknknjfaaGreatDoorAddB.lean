/-
spec.Same, laws.told, laws.given at any two values.
-/
import Derived.Test.YtdcgjfiknknjfaaGreatDoorAddA
import Derived.Test.YtdcgjfiknknjfaaGreatDoorMG
set_option linter.unusedSimpArgs false
set_option linter.unusedVariables false
namespace Go.Proofs.YtdcgjfiknknjfaaGreatDoor.NumA
open Go.RowKit Go.Lib Go.Proofs.YtdcgjfiknknjfaaGreatDoor.ValA Go.Proofs.YtdcgjfiknknjfaaGreatDoor.FloH Go.Proofs.YtdcgjfiknknjfaaGreatDoorW.PrintWords Go.Proofs.YtdcgjfiknknjfaaGreatDoorW.PrintLast Go.Proofs.YtdcgjfiknknjfaaGreatDoorW.PrintMore Go.Proofs.YtdcgjfiknknjfaaGreatDoor.PzzFits1
theorem same_at (kx ky h k : Int) (r r' : Rest) (c0 : Int) (w : World) (HC : ∀ w1, Below w.heap.size w w1 → Calls Tryz.prog 30 #[vl kx h r, vl ky k r'] w1 fun e w' => e = .returned (.int .i64 c0) ∧ Below w1.heap.size w1 w') :
    Calls Tryz.prog 27 #[vl kx h r, vl ky k r'] w fun e w' => e = .returned (.bool (c0 == 0)) ∧ Below w.heap.size w w' := by
  replace HC := Lib.hid HC
  obtain ⟨s, a, l, c, a1, l1, c1, a2, l2, c2⟩ := r
  obtain ⟨s', a', l', c', a1', l1', c1', a2', l2', c2'⟩ := r'
  simp only [vl] at HC ⊢
  go_enter Tryz.func27, Tryz.ntmps27
  go_wp2_with fail
  refine (HC.out _ (((Below.refl _ w).alloc (Nat.le_refl _) _).alloc (by simp) _)).mono ?_
  rintro e w1 ⟨rfl, hb⟩
  have HB := Lib.hid (Below.trans (((Below.refl _ w).alloc (Nat.le_refl _) (.cells #[.int .i64 kx, .int .i64 h, .string s, .slice a l c, .slice a1 l1 c1, .slice a2 l2 c2] 26)).alloc (by simp) (.cells #[.int .i64 ky, .int .i64 k, .string s', .slice a' l' c', .slice a1' l1' c1', .slice a2' l2' c2'] 26)) (hb.mono (by simp; omega)))
  clear hb
  go_wp2_with fail
  go_ret
  exact ⟨rfl, HB.out⟩
theorem told_at (kx ky h k : Int) (r r' : Rest) (t0 : Bool) (w : World) (HC : ∀ w1, Below w.heap.size w w1 → Calls Tryz.prog 27 #[vl kx h r, vl ky k r'] w1 fun e w' => e = .returned (.bool t0) ∧ Below w1.heap.size w1 w') :
    Calls Tryz.prog 44 #[rv kx h 0 r, vl ky k r', .int .i64 0] w fun e w' => e = .returned (.bool t0) ∧ Below w.heap.size w w' := by
  replace HC := Lib.hid HC
  obtain ⟨s, a, l, c, a1, l1, c1, a2, l2, c2⟩ := r
  obtain ⟨s', a', l', c', a1', l1', c1', a2', l2', c2'⟩ := r'
  simp only [vl, rv] at HC ⊢
  go_enter Tryz.func44, Tryz.ntmps44
  go_wp2_with fail
  refine (HC.out _ (((Below.refl _ w).alloc (Nat.le_refl _) _).alloc (by simp) _)).mono ?_
  rintro e w1 ⟨rfl, hb⟩
  have HB := Lib.hid (Below.trans (((Below.refl _ w).alloc (Nat.le_refl _) (.cells #[.int .i64 kx, .int .i64 h, .string s, .slice a l c, .slice a1 l1 c1, .slice a2 l2 c2, .int .i64 0] 30)).alloc (by simp) (.cells #[.int .i64 ky, .int .i64 k, .string s', .slice a' l' c', .slice a1' l1' c1', .slice a2' l2' c2'] 26)) (hb.mono (by simp; omega)))
  clear hb
  go_wp2_with fail
  go_ret
  exact ⟨rfl, HB.out⟩
theorem given_at (kx ky h k : Int) (r r' : Rest) (t0 : Bool) (w : World) (HC : ∀ w1, Below w.heap.size w w1 → Calls Tryz.prog 27 #[vl kx h r, vl ky k r'] w1 fun e w' => e = .returned (.bool t0) ∧ Below w1.heap.size w1 w') :
    Calls Tryz.prog 18 #[rv kx h 0 r, vl ky k r'] w fun e w' => e = .returned (.bool t0) ∧ Below w.heap.size w w' := by
  replace HC := Lib.hid (fun w1 (hb : Below w.heap.size w w1) => told_at kx ky h k r r' t0 w1 (fun w2 hb2 => HC w2 (hb.trans (hb2.mono hb.size))))
  obtain ⟨s, a, l, c, a1, l1, c1, a2, l2, c2⟩ := r
  obtain ⟨s', a', l', c', a1', l1', c1', a2', l2', c2'⟩ := r'
  simp only [vl, rv] at HC ⊢
  go_enter Tryz.func18, Tryz.ntmps18
  go_wp2_with fail
  refine (HC.out _ (((Below.refl _ w).alloc (Nat.le_refl _) _).alloc (by simp) _)).mono ?_
  rintro e w1 ⟨rfl, hb⟩
  have HB := Lib.hid (Below.trans (((Below.refl _ w).alloc (Nat.le_refl _) (.cells #[.int .i64 kx, .int .i64 h, .string s, .slice a l c, .slice a1 l1 c1, .slice a2 l2 c2, .int .i64 0] 30)).alloc (by simp) (.cells #[.int .i64 ky, .int .i64 k, .string s', .slice a' l' c', .slice a1' l1' c1', .slice a2' l2' c2'] 26)) (hb.mono (by simp; omega)))
  clear hb
  go_wp2_with fail
  go_ret
  exact ⟨rfl, HB.out⟩
/-- Same at any two values. -/
theorem same_any (w0 : World) (x y : V) (hx : WF x) (hy : WF y) {A3 A4 A5 B3 B4 B5 : Option Addr} {c3 c4 c5 d3 d4 d5 : Nat} (hKx : k26.K w0 x [.int .i64 x.f0, .int .i64 x.f1, .string x.f2, .slice A3 x.f3.length c3, .slice A4 x.f4.length c4, .slice A5 x.f5.length c5])
    (hKy : k26.K w0 y [.int .i64 y.f0, .int .i64 y.f1, .string y.f2, .slice B3 y.f3.length d3, .slice B4 y.f4.length d4, .slice B5 y.f5.length d5]) (w : World) (hb : Below w0.heap.size w0 w) :
    Calls Tryz.prog 27 #[vl x.f0 x.f1 ⟨x.f2, A3, x.f3.length, c3, A4, x.f4.length, c4, A5, x.f5.length, c5⟩, vl y.f0 y.f1 ⟨y.f2, B3, y.f3.length, d3, B4, y.f4.length, d4, B5, y.f5.length, d5⟩] w fun e w' => e = .returned (.bool (cmpV x y == 0)) ∧ Below w.heap.size w w' :=
  same_at x.f0 y.f0 x.f1 y.f1 _ _ (cmpV x y) w fun w1 hb1 => cmp_any w0 _ x (Nat.lt_succ_self _) hx y hy _ _ hKx hKy w1 (hb.trans (hb1.mono hb.size))
theorem given_any (w0 : World) (x y : V) (hx : WF x) (hy : WF y) {A3 A4 A5 B3 B4 B5 : Option Addr} {c3 c4 c5 d3 d4 d5 : Nat} (hKx : k26.K w0 x [.int .i64 x.f0, .int .i64 x.f1, .string x.f2, .slice A3 x.f3.length c3, .slice A4 x.f4.length c4, .slice A5 x.f5.length c5])
    (hKy : k26.K w0 y [.int .i64 y.f0, .int .i64 y.f1, .string y.f2, .slice B3 y.f3.length d3, .slice B4 y.f4.length d4, .slice B5 y.f5.length d5]) (w : World) (hb : Below w0.heap.size w0 w) :
    Calls Tryz.prog 18 #[rv x.f0 x.f1 0 ⟨x.f2, A3, x.f3.length, c3, A4, x.f4.length, c4, A5, x.f5.length, c5⟩, vl y.f0 y.f1 ⟨y.f2, B3, y.f3.length, d3, B4, y.f4.length, d4, B5, y.f5.length, d5⟩] w fun e w' => e = .returned (.bool (cmpV x y == 0)) ∧ Below w.heap.size w w' :=
  given_at x.f0 y.f0 x.f1 y.f1 _ _ _ w fun w1 hb1 => same_any w0 x y hx hy hKx hKy w1 (hb.trans (hb1.mono hb.size))
end Go.Proofs.YtdcgjfiknknjfaaGreatDoor.NumA
