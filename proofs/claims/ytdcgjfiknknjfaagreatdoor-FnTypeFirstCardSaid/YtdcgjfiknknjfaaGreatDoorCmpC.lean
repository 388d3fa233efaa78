/-
impl.Compare at two values.
-/
import Derived.Test.YtdcgjfiknknjfaaGreatDoorCmpB
import Derived.Test.YtdcgjfiknknjfaaGreatDoorLawS
set_option linter.unusedSimpArgs false
set_option linter.unusedVariables false
namespace Go.Proofs.YtdcgjfiknknjfaaGreatDoor.NumA
open Go.RowKit Go.Lib Go.Proofs.YtdcgjfiknknjfaaGreatDoor.ValA Go.Proofs.YtdcgjfiknknjfaaGreatDoor.FloH Go.Proofs.YtdcgjfiknknjfaaGreatDoorW.PrintWords Go.Proofs.YtdcgjfiknknjfaaGreatDoorW.PrintLast Go.Proofs.YtdcgjfiknknjfaaGreatDoorW.PrintMore Go.Proofs.YtdcgjfiknknjfaaGreatDoor.PzzFits1
set_option maxHeartbeats 4000000 in
theorem impl_compare (w0 : World) (x y : V) (Ka Ha : Int) (sa : ByteArray) (A3a A4a A5a : Option Addr) (n3a c3a n4a c4a n5a c5a : Nat) (Kb Hb : Int) (sb : ByteArray) (A3b A4b A5b : Option Addr) (n3b c3b n4b c4b n5b c5b : Nat) (Tx : ToGo w0 x [.int .i64 Ka, .int .i64 Ha, .string sa, .slice A3a n3a c3a, .slice A4a n4a c4a, .slice A5a n5a c5a]) (Ty : ToGo w0 y [.int .i64 Kb, .int .i64 Hb, .string sb, .slice A3b n3b c3b, .slice A4b n4b c4b, .slice A5b n5b c5b]) (z : Int)
    (HC : ∀ g h n m w, G n w x g → G m w y h → Calls Tryz.prog 49 #[g, h] w fun e w' => e = .returned (.int .i64 z) ∧ Below w.heap.size w w') (w : World) (hb : Below w0.heap.size w0 w) :
    Calls Tryz.prog 29 #[.agg #[.int .i64 Ka, .int .i64 Ha, .string sa, .slice A3a n3a c3a, .slice A4a n4a c4a, .slice A5a n5a c5a], .agg #[.int .i64 Kb, .int .i64 Hb, .string sb, .slice A3b n3b c3b, .slice A4b n4b c4b, .slice A5b n5b c5b]] w fun e w' => e = .returned (.int .i64 z) ∧ Below w.heap.size w w' := by
  have HX := Lib.hid Tx
  have HY := Lib.hid Ty
  have HCC := Lib.hid HC
  have HB := Lib.hid hb
  clear Tx Ty HC hb
  go_enter Tryz.func29, Tryz.ntmps29
  go_wp2_with fail
  obtain ⟨W0, hW0⟩ : ∃ W0, W0 = (w.alloc (.cells #[.int .i64 Ka, .int .i64 Ha, .string sa, .slice A3a n3a c3a, .slice A4a n4a c4a, .slice A5a n5a c5a] 26)).alloc (.cells #[.int .i64 Kb, .int .i64 Hb, .string sb, .slice A3b n3b c3b, .slice A4b n4b c4b, .slice A5b n5b c5b] 26) := ⟨_, rfl⟩
  have H0 := Lib.hid (show SPL w [(w.heap.size, #[.int .i64 Ka, .int .i64 Ha, .string sa, .slice A3a n3a c3a, .slice A4a n4a c4a, .slice A5a n5a c5a], 26), (w.heap.size + 1, #[.int .i64 Kb, .int .i64 Hb, .string sb, .slice A3b n3b c3b, .slice A4b n4b c4b, .slice A5b n5b c5b], 26)] W0 by rw [hW0]; exact SPL.two w _ _ _ _)
  rw [← hW0]
  clear hW0
  refine (HX.out W0 (HB.out.trans (H0.out.1.mono HB.out.size))).mono ?_
  rintro e w1 ⟨g, rfl, hG, hb1⟩
  have H1 := Lib.hid (And.intro (H0.out.below hb1) hG)
  clear hb1 hG H0
  have yb := six_cells (H1.out.1.get 1 rfl)
  go_wp2_with fail
  refine (HY.out w1 (HB.out.trans (H1.out.1.1.mono HB.out.size))).mono ?_
  rintro e w2 ⟨h, rfl, hG, hb1⟩
  have H2 := Lib.hid (And.intro (H1.out.1.below hb1) (And.intro (H1.out.2.keepB hb1) hG))
  clear hb1 hG H1 yb
  go_wp2_with fail
  refine (HCC.out g h _ _ w2 H2.out.2.1 H2.out.2.2).mono ?_
  rintro e w3 ⟨rfl, hb1⟩
  have H3 := Lib.hid (H2.out.1.below hb1)
  clear hb1 H2
  go_wp2_with fail
  go_ret
  exact ⟨rfl, H3.out.1⟩
end Go.Proofs.YtdcgjfiknknjfaaGreatDoor.NumA
