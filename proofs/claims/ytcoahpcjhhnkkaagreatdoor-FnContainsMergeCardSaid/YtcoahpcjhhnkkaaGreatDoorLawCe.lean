/-
FnContainsMerge: a product of objects contains the second one.
-/
import Derived.Test.YtcoahpcjhhnkkaaGreatDoorMT
import Derived.Test.YtcoahpcjhhnkkaaGreatDoorMO
set_option linter.unusedSimpArgs false
set_option linter.unusedVariables false
namespace Go.Proofs.YtcoahpcjhhnkkaaGreatDoor.ValA
open Go.RowKit Go.Lib Go.Proofs.YtcoahpcjhhnkkaaGreatDoorW.PrintWords Go.Proofs.YtcoahpcjhhnkkaaGreatDoorW.PrintLast Go.Proofs.YtcoahpcjhhnkkaaGreatDoorW.PrintMore Go.Proofs.YtcoahpcjhhnkkaaGreatDoor.PzzFits1 Go.Proofs.YtcoahpcjhhnkkaaGreatDoor.NumA
attribute [local go_sem] run_val
set_option maxRecDepth 100000 in
set_option maxHeartbeats 20000000 in
theorem core_merge (w0 : World) (hE : Env w0) (a : V) (hza : Sz a ∧ Tz a) (A3a A4a A5a : Option Addr) (a3a a4a a5a : Nat) (hKa : k26.K w0 a [.int .i64 a.f0, .int .i64 a.f1, .string a.f2, .slice A3a a.f3.length a3a, .slice A4a a.f4.length a4a, .slice A5a a.f5.length a5a]) (b : V) (hzb : Sz b ∧ Tz b) (A3b A4b A5b : Option Addr) (a3b a4b a5b : Nat) (hKb : k26.K w0 b [.int .i64 b.f0, .int .i64 b.f1, .string b.f2, .slice A3b b.f3.length a3b, .slice A4b b.f4.length a4b, .slice A5b b.f5.length a5b]) :
    Calls Tryz.prog 8 #[.agg #[.int .i64 a.f0, .int .i64 a.f1, .string a.f2, .slice A3a a.f3.length a3a, .slice A4a a.f4.length a4a, .slice A5a a.f5.length a5a], .agg #[.int .i64 b.f0, .int .i64 b.f1, .string b.f2, .slice A3b b.f3.length a3b, .slice A4b b.f4.length a4b, .slice A5b b.f5.length a5b]] w0 fun e w' => e = .returned (.bool true) ∧ Below w0.heap.size w0 w' := by
  obtain ⟨w, hw⟩ : ∃ w, w = w0 := ⟨_, rfl⟩
  have HFA := Lib.hid (fun w1 hb => fits1_any w0 a _ _ _ _ _ _ _ _ _ _ _ _ hKa w1 hb)
  have HFB := Lib.hid (fun w1 hb => fits1_any w0 b _ _ _ _ _ _ _ _ _ _ _ _ hKb w1 hb)
  have HFI := Lib.hid (fun w1 hb g hg => fits_two w0 hE a hza.1 _ _ _ _ _ _ _ _ _ _ _ _ hKa b hzb.1 _ _ _ _ _ _ _ _ _ _ _ _ hKb w1 hb g hg)
  have HTB := Lib.hid (fun h => toGo_any w0 _ b (Nat.lt_succ_self _) hzb.1 h _ hKb)
  have HS := Lib.hid (And.intro hza hzb)
  have HKA := Lib.hid (And.intro hKa hKb)
  clear hE hza hzb hKa hKb
  subst hw
  go_enter Tryz.func8, Tryz.ntmps8
  go_wp2_with fail
  obtain ⟨A, hA⟩ : ∃ A, A = w.heap.size := ⟨_, rfl⟩
  obtain ⟨B, hB⟩ : ∃ B, B = w.heap.size + 1 := ⟨_, rfl⟩
  obtain ⟨W0, hW0⟩ : ∃ W0, W0 = (w.alloc (.cells #[.int .i64 a.f0, .int .i64 a.f1, .string a.f2, .slice A3a a.f3.length a3a, .slice A4a a.f4.length a4a, .slice A5a a.f5.length a5a] 26)).alloc (.cells #[.int .i64 b.f0, .int .i64 b.f1, .string b.f2, .slice A3b b.f3.length a3b, .slice A4b b.f4.length a4b, .slice A5b b.f5.length a5b] 26) := ⟨_, rfl⟩
  have hS : SPN w [(A, #[.int .i64 a.f0, .int .i64 a.f1, .string a.f2, .slice A3a a.f3.length a3a, .slice A4a a.f4.length a4a, .slice A5a a.f5.length a5a], 26), (B, #[.int .i64 b.f0, .int .i64 b.f1, .string b.f2, .slice A3b b.f3.length a3b, .slice A4b b.f4.length a4b, .slice A5b b.f5.length a5b], 26)] W0 := by
    have h := ((spn_of (Below.refl _ w)).more #[.int .i64 a.f0, .int .i64 a.f1, .string a.f2, .slice A3a a.f3.length a3a, .slice A4a a.f4.length a4a, .slice A5a a.f5.length a5a] 26).more #[.int .i64 b.f0, .int .i64 b.f1, .string b.f2, .slice A3b b.f3.length a3b, .slice A4b b.f4.length a4b, .slice A5b b.f5.length a5b] 26
    rw [World.size_alloc] at h
    rw [hA, hB, hW0]
    exact h
  rw [← hW0]
  try rw [← hB]
  try rw [← hA]
  have H0 := Lib.hid hS
  clear hS hW0 hA hB
  refine (HFA.out W0 H0.out.1.1).mono ?_
  rintro e w1 ⟨r, rfl, hr, hb⟩
  have H1 := Lib.hid (SPN.below H0.out hb)
  clear hb hr HFA H0
  cases r with
  | false =>
    go_wp2_with fail
    go_ret
    exact ⟨rfl, H1.out.1.1⟩
  | true =>
  have y := six_cells (H1.out.1.get 1 rfl)
  go_wp2_with fail
  refine (HFB.out w1 H1.out.1.1).mono ?_
  rintro e w2 ⟨r, rfl, hr, hb⟩
  have H2 := Lib.hid (SPN.below H1.out hb)
  clear hb hr HFB H1 y
  cases r with
  | false =>
    go_wp2_with fail
    go_ret
    exact ⟨rfl, H2.out.1.1⟩
  | true =>
  have ya := six_cells (H2.out.1.get 0 rfl)
  have yb := six_cells (H2.out.1.get 1 rfl)
  go_wp2_with fail
  refine (HFI.out _ (H2.out.1.1.alloc H2.out.1.1.size _) _ (heap_alloc_new w2 _)).mono ?_
  rintro e w3 ⟨r, rfl, hr, hb⟩
  have H3 := Lib.hid (SPN.below H2.out (((Below.refl _ w2).alloc (Nat.le_refl _) _).trans (hb.mono (by rw [World.size_alloc]; omega))))
  clear hb H2 HFI ya yb
  cases r with
  | false =>
    go_wp2_with fail
    go_ret
    exact ⟨rfl, H3.out.1.1⟩
  | true =>
  have HW := Lib.hid (hr (by trivial))
  clear hr
  have HWA := Lib.hid (loose HW.out.1)
  have HWB := Lib.hid (loose HW.out.2)
  have ya := six_cells (H3.out.1.get 0 rfl)
  have yb := six_cells (H3.out.1.get 1 rfl)
  cases ka : (a.f0 != 6) with
  | true =>
    go_wp2_with fail
    go_ret
    exact ⟨rfl, H3.out.1.1⟩
  | false =>
  cases kb : (b.f0 != 6) with
  | true =>
    go_wp2_with fail
    go_ret
    exact ⟨rfl, H3.out.1.1⟩
  | false =>
  have KA : Hid (a.f0 = 6) := Lib.hid (by simpa using ka)
  have KB : Hid (b.f0 = 6) := Lib.hid (by simpa using kb)
  obtain ⟨s, hs⟩ : ∃ s, s = mrg a b := ⟨_, rfl⟩
  have HSM : Hid (WL s ∧ Sz s ∧ Tz s ∧ con s b = some true) := Lib.hid (by rw [hs]; exact ⟨wl_mrg _ b (Nat.lt_succ_self _) HW.out.2 a HW.out.1, sz_mrg _ b (Nat.lt_succ_self _) HW.out.2 HS.out.2.1 a HS.out.1.1, tz_mrg _ b (Nat.lt_succ_self _) HW.out.2 HS.out.2.2 a HS.out.1.2, con_mrg _ b (Nat.lt_succ_self _) HW.out.2 HS.out.2.2 KB.out a HW.out.1⟩)
  have HMG := Lib.hid (fun w1 hb => impl_Merge w a b s _ _ _ _ _ _ _ _ _ _ _ _ _ _ _ _ _ _ _ _ _ _ _ _ ka (toMap_any w HWA.out HS.out.1.1 KA.out HKA.out.1) kb (toMap_any w HWB.out HS.out.2.1 KB.out HKA.out.2) (fun g h n m w hg hh => by rw [hs]; exact zz_merge HW.out.1 HS.out.1.1 KA.out HW.out.2 HS.out.2.1 KB.out hg hh) w1 hb)
  have HTQ := Lib.hid (HTB.out HWB.out)
  clear hs HTB
  go_wp2_with fail
  refine (HMG.out _ H3.out.1.1).mono ?_
  rintro e w4 ⟨R3, r3, R4, r4, R5, r5, rfl, hM, hb⟩
  have HKS := Lib.hid (k26.K_of_M hM)
  have H4 := Lib.hid (SPN.below H3.out hb)
  clear hb hM ya yb HMG H3 ka kb
  have yb := six_cells (H4.out.1.get 1 rfl)
  have hlb : B < w4.heap.size := lt_of_heap (H4.out.1.get 1 rfl)
  go_wp2_with fail
  obtain ⟨R, hR⟩ : ∃ R, R = w4.heap.size := ⟨_, rfl⟩
  obtain ⟨W5, hW5⟩ : ∃ W5, W5 = w4.alloc (.cells #[.int .i64 s.f0, .int .i64 s.f1, .string s.f2, .slice R3 s.f3.length r3, .slice R4 s.f4.length r4, .slice R5 s.f5.length r5, .int .i64 0] 36) := ⟨_, rfl⟩
  have hS5 : SPN w [(A, #[.int .i64 a.f0, .int .i64 a.f1, .string a.f2, .slice A3a a.f3.length a3a, .slice A4a a.f4.length a4a, .slice A5a a.f5.length a5a], 26), (B, #[.int .i64 b.f0, .int .i64 b.f1, .string b.f2, .slice A3b b.f3.length a3b, .slice A4b b.f4.length a4b, .slice A5b b.f5.length a5b], 26), (R, #[.int .i64 s.f0, .int .i64 s.f1, .string s.f2, .slice R3 s.f3.length r3, .slice R4 s.f4.length r4, .slice R5 s.f5.length r5, .int .i64 0], 36)] W5 := by rw [hR, hW5]; exact H4.out.more _ _
  have hB5 : Below w4.heap.size w4 W5 := by rw [hW5]; exact (Below.refl _ w4).alloc (Nat.le_refl _) _
  try rw [← hW5]
  try rw [← hR]
  have H5 := Lib.hid hS5
  have HB5 := Lib.hid hB5
  clear hS5 hW5 hR hB5 yb hlb
  refine (con_vals w4 s b _ _ _ _ _ _ _ _ _ _ _ _ _ _ _ _ _ _ _ _ _ _ _ _ (toGo_any w4 _ s (Nat.lt_succ_self _) HSM.out.2.1 HSM.out.1 _ HKS.out) (HTQ.out.later H4.out.1.1) HSM.out.1 HSM.out.2.1 HSM.out.2.2.1 HWB.out HS.out.2.1 HS.out.2.2 true HSM.out.2.2.2 _ HB5.out).mono ?_
  rintro e w8 ⟨rfl, hb⟩
  have H8 := Lib.hid (SPN.below H5.out hb)
  clear hb
  go_wp2_with fail
  refine (lc_yes true _).mono ?_
  rintro e w9 ⟨rfl, hb⟩
  have H9 := Lib.hid (SPN.below H8.out hb)
  clear hb
  go_wp2_with fail
  go_ret
  exact ⟨rfl, H9.out.1.1⟩
theorem fnContainsMerge_any (w0 : World) (hE : Env w0) (xa : V) (hza : Sz xa ∧ Tz xa) (Ka Ha : Int) (sa : ByteArray) (A3a A4a A5a : Option Addr) (n3a c3a n4a c4a n5a c5a : Nat) (hKa : k26.K w0 xa [.int .i64 Ka, .int .i64 Ha, .string sa, .slice A3a n3a c3a, .slice A4a n4a c4a, .slice A5a n5a c5a]) (xb : V) (hzb : Sz xb ∧ Tz xb) (Kb Hb : Int) (sb : ByteArray) (A3b A4b A5b : Option Addr) (n3b c3b n4b c4b n5b c5b : Nat) (hKb : k26.K w0 xb [.int .i64 Kb, .int .i64 Hb, .string sb, .slice A3b n3b c3b, .slice A4b n4b c4b, .slice A5b n5b c5b]) :
    Calls Tryz.prog 8 #[.agg #[.int .i64 Ka, .int .i64 Ha, .string sa, .slice A3a n3a c3a, .slice A4a n4a c4a, .slice A5a n5a c5a], .agg #[.int .i64 Kb, .int .i64 Hb, .string sb, .slice A3b n3b c3b, .slice A4b n4b c4b, .slice A5b n5b c5b]] w0 fun e w' => e = .returned (.bool true) ∧ Below w0.heap.size w0 w' := by
  have hKa' := hKa
  obtain ⟨_, _, _, _, _, _, hea, _⟩ := k26_open hKa
  simp only [List.cons.injEq, Value.int.injEq, Value.string.injEq, Value.slice.injEq, true_and, and_true] at hea
  obtain ⟨rfl, rfl, rfl, ⟨rfl, rfl, rfl⟩, ⟨rfl, rfl, rfl⟩, ⟨rfl, rfl, rfl⟩⟩ := hea
  have hKb' := hKb
  obtain ⟨_, _, _, _, _, _, heb, _⟩ := k26_open hKb
  simp only [List.cons.injEq, Value.int.injEq, Value.string.injEq, Value.slice.injEq, true_and, and_true] at heb
  obtain ⟨rfl, rfl, rfl, ⟨rfl, rfl, rfl⟩, ⟨rfl, rfl, rfl⟩, ⟨rfl, rfl, rfl⟩⟩ := heb
  exact core_merge w0 hE xa hza _ _ _ _ _ _ hKa' xb hzb _ _ _ _ _ _ hKb'
end Go.Proofs.YtcoahpcjhhnkkaaGreatDoor.ValA
