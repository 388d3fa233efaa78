/-
FnByPlaces: sort_by leaves elements with equal keys in their order: with all keys equal it changes nothing.
-/
import Derived.Test.YtbnfeicpjmfooaaGreatDoorM3
set_option linter.unusedSimpArgs false
set_option linter.unusedVariables false
namespace Go.Proofs.YtbnfeicpjmfooaaGreatDoor.ValA
open Go.RowKit Go.Lib Go.Proofs.YtbnfeicpjmfooaaGreatDoorW.PrintWords Go.Proofs.YtbnfeicpjmfooaaGreatDoorW.PrintLast Go.Proofs.YtbnfeicpjmfooaaGreatDoorW.PrintMore Go.Proofs.YtbnfeicpjmfooaaGreatDoor.PzzFits1 Go.Proofs.YtbnfeicpjmfooaaGreatDoor.NumA
attribute [local go_sem] run_val
theorem list_Kb {w0 : World} {A : Option Addr} {l : List V} {n c : Nat} (hn : l.length = n) (hlc : n ≤ c) (hC : Kd.C k26 w0 A n l) :
    k26.K w0 (lV l) [.int .i64 5, .int .i64 0, .string ⟨#[]⟩, .slice A n c, .slice none 0 0, .slice none 0 0] := by
  subst hn
  exact k26_mk w0 (lV l) hlc hC (Nat.le_refl _) (Kd.C_nil _ _) (Nat.le_refl _) (Kd.C_nil _ _)
theorem spec_arrayB (A : Option Addr) (n c : Nat) (w : World) : Calls Tryz.prog 15 #[.slice A n c] w fun e w' => e = .returned (.agg #[.int .i64 5, .int .i64 0, .string ⟨#[]⟩, .slice A n c, .slice none 0 0, .slice none 0 0]) ∧ Below w.heap.size w w' := by
  go_enter Tryz.func15, Tryz.ntmps15
  go_wp2_with fail
  refine bodyPost_ret (v := .agg #[.int .i64 5, .int .i64 0, .string ⟨#[]⟩, .slice A n c, .slice none 0 0, .slice none 0 0]) (by simp [results, Tryz.results15, go_sem]) rfl ?_
  exact ⟨rfl, (Below.refl _ w).alloc (Nat.le_refl _) _⟩
/-- The row, so far. -/
def RCp (w4 : World) (n : Nat) (kc : List Value) (k : Nat) (i : Value) (wr : World) : Prop := ∃ j : Nat, i = .int .i64 j ∧ k + j = n ∧ Below w4.heap.size w4 wr ∧ wr.heap[w4.heap.size]? = some (.cells (copC kc z6L n j).toArray 26 (0, 0))
theorem rcp_step {w4 wr : World} {n j : Nat} {k0 k1 k2 k3 k4 k5 : Value} (hj : j < n) (hb : Below w4.heap.size w4 wr) (hr : wr.heap[w4.heap.size]? = some (.cells (copC [k0, k1, k2, k3, k4, k5] z6L n j).toArray 26 (0, 0))) (k : Nat) (hk : k + (j + 1) = n) :
    RCp w4 n [k0, k1, k2, k3, k4, k5] k (.int .i64 ((j + 1 : Nat) : Int)) ((((((wr.setCell ⟨w4.heap.size, j * 6, none⟩ k0).setCell ⟨w4.heap.size, j * 6 + 1, none⟩ k1).setCell ⟨w4.heap.size, j * 6 + 2, none⟩ k2).setCell ⟨w4.heap.size, j * 6 + 3, none⟩ k3).setCell ⟨w4.heap.size, j * 6 + 4, none⟩ k4).setCell ⟨w4.heap.size, j * 6 + 5, none⟩ k5) := by
  refine ⟨j + 1, rfl, hk, hb.grown (grown_set (grown_set (grown_set (grown_set (grown_set (grown_set (World.grownBy.refl wr _) _ _) _ _) _ _) _ _) _ _) _ _) hb.size (fun k hk => by cases hk; exact Nat.le_refl _), ?_⟩
  rw [heap_set (heap_set (heap_set (heap_set (heap_set (heap_set hr _ _) _ _) _ _) _ _) _ _) _ _]
  simp only [List.setIfInBounds_toArray]
  unfold z6L
  rw [cop_set hj]
theorem cop_cells {w : World} {g n j : Nat} {k0 k1 k2 k3 k4 k5 : Value} (hj : j < n) (h : w.heap[g]? = some (.cells (copC [k0, k1, k2, k3, k4, k5] z6L n j).toArray 26 (0, 0))) (t : Nat) (ht : t < 6) : (∃ v, w.cell? ⟨g, j * 6 + t, none⟩ = some v) ∧ w.frozen? ⟨g, j * 6 + t, none⟩ = false := by
  have hc := list_cell (j := j * 6 + t) h (by rw [cop_len rfl rfl (by omega)]; omega)
  exact ⟨⟨_, hc.1⟩, hc.2⟩
set_option maxRecDepth 100000 in
set_option maxHeartbeats 20000000 in
theorem core_places (w0 : World) (hE : Env w0) (A1 : Option Addr) (l : List V) (c1 : Nat) (hlc1 : l.length ≤ c1) (hC1 : Kd.C k26 w0 A1 l.length l) (hz1 : ∀ y ∈ l, Sz y) (x : V) (hzx : Sz x) (A3x A4x A5x : Option Addr) (a3x a4x a5x : Nat) (hKx : k26.K w0 x [.int .i64 x.f0, .int .i64 x.f1, .string x.f2, .slice A3x x.f3.length a3x, .slice A4x x.f4.length a4x, .slice A5x x.f5.length a5x]) :
    Calls Tryz.prog 7 #[.slice A1 l.length c1, .agg #[.int .i64 x.f0, .int .i64 x.f1, .string x.f2, .slice A3x x.f3.length a3x, .slice A4x x.f4.length a4x, .slice A5x x.f5.length a5x]] w0 fun e w' => e = .returned (.bool true) ∧ Below w0.heap.size w0 w' := by
  obtain ⟨w, hw⟩ : ∃ w, w = w0 := ⟨_, rfl⟩
  have s1 : Sz (lV l) := sz_lV hz1
  have k1 := list_Kb rfl hlc1 hC1
  have HFX := Lib.hid (fun w1 hb => fits1_any w0 x _ _ _ _ _ _ _ _ _ _ _ _ hKx w1 hb)
  have HFI := Lib.hid (fun w1 hb => fit_two w0 hE (lV l) s1 _ _ _ _ _ _ _ _ _ _ _ _ k1 x hzx _ _ _ _ _ _ _ _ _ _ _ _ hKx w1 hb)
  have HT1 := Lib.hid (fun h => toGo_any w0 _ (lV l) (Nat.lt_succ_self _) s1 h _ k1)
  have HFF := Lib.hid (fun w1 (hb : Below w0.heap.size w0 w1) (y : V) (hz : Sz y) c0 c1 c2 A3 n3 c3 A4 n4 c4 A5 n5 c5 hK => fit_any w1 (hE.below hb) y hz c0 c1 c2 A3 A4 A5 n3 c3 n4 c4 n5 c5 hK w1 (Below.refl _ _))
  have HS := Lib.hid (And.intro s1 hzx)
  have HKV := Lib.hid k1
  have HKX := Lib.hid hKx
  have HAR := Lib.hid (fun A n c w => spec_arrayB A n c w)
  clear hE hlc1 hC1 hz1 hzx s1 k1 hKx
  subst hw
  by_cases c0 : (l.length : Int) > 2147483647
  · have d0 : decide ((l.length : Int) > 2147483647) = true := decide_eq_true c0
    clear c0
    go_enter Tryz.func7, Tryz.ntmps7
    go_wp2_with fail
    go_ret
    exact ⟨rfl, (Below.refl _ w).alloc (Nat.le_refl _) _⟩
  have d0 : decide ((l.length : Int) > 2147483647) = false := decide_eq_false c0
  clear c0
  go_enter Tryz.func7, Tryz.ntmps7
  go_wp2_with fail
  obtain ⟨A, hA⟩ : ∃ A, A = w.heap.size := ⟨_, rfl⟩
  obtain ⟨W0, hW0⟩ : ∃ W0, W0 = w.alloc (.cells #[.int .i64 x.f0, .int .i64 x.f1, .string x.f2, .slice A3x x.f3.length a3x, .slice A4x x.f4.length a4x, .slice A5x x.f5.length a5x] 26) := ⟨_, rfl⟩
  have hS : SPN w [(A, #[.int .i64 x.f0, .int .i64 x.f1, .string x.f2, .slice A3x x.f3.length a3x, .slice A4x x.f4.length a4x, .slice A5x x.f5.length a5x], 26)] W0 := by rw [hA, hW0]; exact (sp_nil w).more _ _
  rw [← hW0]
  try rw [← hA]
  have H0 := Lib.hid hS
  have y := six_cells (hS.1.get 0 rfl)
  clear hS hW0 hA
  try go_wp2_with fail
  refine (HFX.out W0 H0.out.1.1).mono ?_
  rintro e w1 ⟨r, rfl, hr, hb⟩
  have H1 := Lib.hid (SPN.below H0.out hb)
  clear hb hr HFX H0 y
  cases r with
  | false =>
    go_wp2_with fail
    go_ret
    exact ⟨rfl, H1.out.1.1⟩
  | true =>
  go_wp2_with fail
  refine (HAR.out _ _ _ _).mono ?_
  rintro e w2 ⟨rfl, hb⟩
  have H2 := Lib.hid (SPN.below H1.out hb)
  clear hb H1
  have ya := six_cells (H2.out.1.get 0 rfl)
  have hla : A < w2.heap.size := lt_of_heap (H2.out.1.get 0 rfl)
  go_wp2_with fail
  obtain ⟨V, hV⟩ : ∃ V, V = w2.heap.size := ⟨_, rfl⟩
  obtain ⟨W3, hW3⟩ : ∃ W3, W3 = w2.alloc (.cells #[.int .i64 5, .int .i64 0, .string ⟨#[]⟩, .slice A1 l.length c1, .slice none 0 0, .slice none 0 0] 26) := ⟨_, rfl⟩
  have hS3 : SPN w [(A, #[.int .i64 x.f0, .int .i64 x.f1, .string x.f2, .slice A3x x.f3.length a3x, .slice A4x x.f4.length a4x, .slice A5x x.f5.length a5x], 26), (V, #[.int .i64 5, .int .i64 0, .string ⟨#[]⟩, .slice A1 l.length c1, .slice none 0 0, .slice none 0 0], 26)] W3 := by rw [hV, hW3]; exact H2.out.more _ _
  rw [← hW3]
  try rw [← hV]
  have H3 := Lib.hid hS3
  clear hS3 hW3 hV ya hla H2
  refine (HFI.out W3 H3.out.1.1).mono ?_
  rintro e w4 ⟨r, rfl, hr, hb⟩
  have H4 := Lib.hid (SPN.below H3.out hb)
  clear hb H3 HFI
  cases r with
  | false =>
    go_wp2_with fail
    go_ret
    exact ⟨rfl, H4.out.1.1⟩
  | true =>
  have HW := Lib.hid ((hr (by trivial)).imp loose loose)
  have HN : Hid (l.length ≤ 1000000) := Lib.hid (by
    have h1 := HW.out.1
    cases h1
    assumption)
  clear hr
  have hmk := fun w => runMakeV [.int .i64 x.f0, .int .i64 x.f1, .string x.f2, .slice A3x x.f3.length a3x, .slice A4x x.f4.length a4x, .slice A5x x.f5.length a5x] l.length HN.out w
  go_wp2_with fail
  obtain ⟨W5, hW5⟩ : ∃ W5, W5 = w4.alloc (.cells (copC [.int .i64 x.f0, .int .i64 x.f1, .string x.f2, .slice A3x x.f3.length a3x, .slice A4x x.f4.length a4x, .slice A5x x.f5.length a5x] z6L l.length 0).toArray 26) := ⟨_, rfl⟩
  have H5 := Lib.hid (show RCp w4 l.length [.int .i64 x.f0, .int .i64 x.f1, .string x.f2, .slice A3x x.f3.length a3x, .slice A4x x.f4.length a4x, .slice A5x x.f5.length a5x] l.length (.int .i64 ((0 : Nat) : Int)) W5 by
    rw [hW5]
    exact ⟨0, rfl, rfl, (Below.refl _ w4).alloc (Nat.le_refl _) _, heap_alloc_new w4 _⟩)
  rw [← hW5]
  clear hW5 hmk
  go_loopg [28] l.length (fun k i wr => RCp w4 l.length [.int .i64 x.f0, .int .i64 x.f1, .string x.f2, .slice A3x x.f3.length a3x, .slice A4x x.f4.length a4x, .slice A5x x.f5.length a5x] k i wr)
  case atStart => exact H5.out
  case round =>
    clear H5
    obtain ⟨j, rfl, hkj, hbr, hrow⟩ := hrel
    have HR := Lib.hid (And.intro hbr hrow)
    have HK := Lib.hid hkj
    by_cases hlt : j < l.length
    · have ya := six_cells ((SPN.below H4.out hbr).1.get 0 rfl)
      obtain ⟨⟨o0, p0⟩, q0⟩ := cop_cells hlt hrow 0 (by omega)
      obtain ⟨⟨o1, p1⟩, q1⟩ := cop_cells hlt hrow 1 (by omega)
      obtain ⟨⟨o2, p2⟩, q2⟩ := cop_cells hlt hrow 2 (by omega)
      obtain ⟨⟨o3, p3⟩, q3⟩ := cop_cells hlt hrow 3 (by omega)
      obtain ⟨⟨o4, p4⟩, q4⟩ := cop_cells hlt hrow 4 (by omega)
      obtain ⟨⟨o5, p5⟩, q5⟩ := cop_cells hlt hrow 5 (by omega)
      rw [Nat.add_zero] at p0 q0
      have H6 := Lib.hid (rcp_step hlt hbr hrow)
      have hlt2 : (j : Int) < (l.length : Int) := by omega
      have HLT := Lib.hid hlt
      clear hbr hrow hkj hlt
      go_wp2_with fail
      go_roundg (gk - 1)
      case measure => have := HK.out; have := HLT.out; omega
      case rel =>
        have hw : wrap64 ((j : Int) + 1) = ((j + 1 : Nat) : Int) := by have := HN.out; have := HLT.out; unfold wrap64; omega
        rw [hw]
        exact H6.out (gk - 1) (by have := HK.out; have := HLT.out; omega)
    · have hj : j = l.length := by have := HK.out; omega
      have hlt2 : ¬ (j : Int) < (l.length : Int) := by omega
      have hlt3 : decide ((j : Int) < (l.length : Int)) = false := decide_eq_false hlt2
      have hlt4 : decide (j < l.length) = false := decide_eq_false hlt
      rw [hj] at hrow
      obtain ⟨r, hr⟩ : ∃ r, r = w4.heap.size := ⟨_, rfl⟩
      rw [← hr] at hrow ⊢
      have HC := Lib.hid (C_cop HN.out rfl (k26.K_below (H4.out.1.1.trans (hbr.mono H4.out.1.1.size)) HKX.out) hrow)
      have H6 := Lib.hid (SPN.below H4.out hbr)
      have hKS : Hid (k26.K wr (lV (List.replicate l.length x)) [.int .i64 5, .int .i64 0, .string ⟨#[]⟩, .slice (some ⟨r, 0, none⟩) l.length l.length, .slice none 0 0, .slice none 0 0]) := Lib.hid (list_Kb (by simp) (Nat.le_refl _) HC.out)
      have HSR : Hid (Sz (lV (List.replicate l.length x))) := Lib.hid (sz_lV (fun y hy => by rw [(List.mem_replicate.1 hy).2]; exact HS.out.2))
      have HWR : Hid (WL (lV (List.replicate l.length x))) := Lib.hid (wl_lV (by simpa using HN.out) (fun y hy => by rw [(List.mem_replicate.1 hy).2]; exact HW.out.2))
      clear hbr hrow hkj hlt hlt2 hj HR H4 hr
      go_wp2_with fail
      refine (HAR.out _ _ _ _).mono ?_
      rintro e w7 ⟨rfl, hb⟩
      have H7 := Lib.hid (And.intro (SPN.below H6.out hb) hb)
      clear hb H6
      go_wp2_with fail
      obtain ⟨W, hW⟩ : ∃ W, W = w7.heap.size := ⟨_, rfl⟩
      obtain ⟨W8, hW8⟩ : ∃ W8, W8 = w7.alloc (.cells #[.int .i64 5, .int .i64 0, .string ⟨#[]⟩, .slice (some ⟨r, 0, none⟩) l.length l.length, .slice none 0 0, .slice none 0 0] 26) := ⟨_, rfl⟩
      have hS8 : SPN w [(A, #[.int .i64 x.f0, .int .i64 x.f1, .string x.f2, .slice A3x x.f3.length a3x, .slice A4x x.f4.length a4x, .slice A5x x.f5.length a5x], 26), (V, #[.int .i64 5, .int .i64 0, .string ⟨#[]⟩, .slice A1 l.length c1, .slice none 0 0, .slice none 0 0], 26), (W, #[.int .i64 5, .int .i64 0, .string ⟨#[]⟩, .slice (some ⟨r, 0, none⟩) l.length l.length, .slice none 0 0, .slice none 0 0], 26)] W8 := by rw [hW, hW8]; exact H7.out.1.more _ _
      have hb8 : Below wr.heap.size wr W8 := by rw [hW8]; exact H7.out.2.alloc H7.out.2.size _
      rw [← hW8]
      try rw [← hW]
      have H8 := Lib.hid (And.intro hS8 hb8)
      have HFW := Lib.hid (HFF.out W8 hS8.1.1 _ HSR.out _ _ _ _ _ _ _ _ _ _ _ _ (k26.K_below hb8 hKS.out))
      have yw := six_cells (hS8.1.get 2 rfl)
      clear hS8 hb8 hW8 hW H7 HFF
      try go_wp2_with fail
      refine HFW.out.mono ?_
      rintro e w9 ⟨r2, rfl, hr2, hb⟩
      have H9 := Lib.hid (And.intro (SPN.below H8.out.1 hb) (H8.out.2.trans (hb.mono H8.out.2.size)))
      clear hb H8 HFW yw hr2
      cases r2 with
      | false =>
        go_wp2_with fail
        go_ret
        exact ⟨rfl, H9.out.1.1.1⟩
      | true =>
      have HSB := Lib.hid (fun w1 hb => impl_SortBy w9 (lV l) (lV (List.replicate l.length x)) (lV l) _ _ _ _ _ _ _ _ _ _ _ _ _ _ _ _ _ _ _ _ _ _ _ _ (fun w2 hb2 => HT1.out HW.out.1 w2 (H9.out.1.1.1.trans (hb2.mono H9.out.1.1.1.size))) (fun w2 hb2 => toGo_any wr _ (lV (List.replicate l.length x)) (Nat.lt_succ_self _) HSR.out HWR.out _ hKS.out w2 (H9.out.2.trans (hb2.mono H9.out.2.size))) (fun g h n m w hg hh => zz_sortBy rfl HW.out.1 HS.out.1 rfl HWR.out HSR.out (by simp [lV]) (fun a ha b hb => by rw [(List.mem_replicate.1 ha).2, (List.mem_replicate.1 hb).2, cmpV_self]) hg hh) w1 hb)
      go_wp2_with fail
      refine start_ (n := 6) (S := fun w' => w'.cell? ⟨V, 0, none⟩ = some (.int .i64 5) ∧ w'.cell? ⟨V, 1, none⟩ = some (.int .i64 0) ∧ w'.cell? ⟨V, 2, none⟩ = some (.string ⟨#[]⟩) ∧ w'.cell? ⟨V, 3, none⟩ = some (.slice A1 l.length c1) ∧ w'.cell? ⟨V, 4, none⟩ = some (.slice none 0 0) ∧ w'.cell? ⟨V, 5, none⟩ = some (.slice none 0 0) ∧ w'.cell? ⟨W, 0, none⟩ = some (.int .i64 5) ∧ w'.cell? ⟨W, 1, none⟩ = some (.int .i64 0) ∧ w'.cell? ⟨W, 2, none⟩ = some (.string ⟨#[]⟩) ∧ w'.cell? ⟨W, 3, none⟩ = some (.slice (some ⟨r, 0, none⟩) l.length l.length) ∧ w'.cell? ⟨W, 4, none⟩ = some (.slice none 0 0) ∧ w'.cell? ⟨W, 5, none⟩ = some (.slice none 0 0) ∧ SPN w [(A, #[.int .i64 x.f0, .int .i64 x.f1, .string x.f2, .slice A3x x.f3.length a3x, .slice A4x x.f4.length a4x, .slice A5x x.f5.length a5x], 26), (V, #[.int .i64 5, .int .i64 0, .string ⟨#[]⟩, .slice A1 l.length c1, .slice none 0 0, .slice none 0 0], 26), (W, #[.int .i64 5, .int .i64 0, .string ⟨#[]⟩, .slice (some ⟨r, 0, none⟩) l.length l.length, .slice none 0 0, .slice none 0 0], 26)] w' ∧ Below w9.heap.size w9 w') (ds := []) #[false, false, false, false, false, false] (by kernel_rfl) rfl rfl ⟨((six_cells (((SPN.drew H9.out.1).1).get 1 rfl)).1), ((six_cells (((SPN.drew H9.out.1).1).get 1 rfl)).2.1), ((six_cells (((SPN.drew H9.out.1).1).get 1 rfl)).2.2.1), ((six_cells (((SPN.drew H9.out.1).1).get 1 rfl)).2.2.2.1), ((six_cells (((SPN.drew H9.out.1).1).get 1 rfl)).2.2.2.2.1), ((six_cells (((SPN.drew H9.out.1).1).get 1 rfl)).2.2.2.2.2.1), ((six_cells (((SPN.drew H9.out.1).1).get 2 rfl)).1), ((six_cells (((SPN.drew H9.out.1).1).get 2 rfl)).2.1), ((six_cells (((SPN.drew H9.out.1).1).get 2 rfl)).2.2.1), ((six_cells (((SPN.drew H9.out.1).1).get 2 rfl)).2.2.2.1), ((six_cells (((SPN.drew H9.out.1).1).get 2 rfl)).2.2.2.2.1), ((six_cells (((SPN.drew H9.out.1).1).get 2 rfl)).2.2.2.2.2.1), (SPN.drew H9.out.1), (pw_below_drewN (Below.refl _ _) 1)⟩ (fun hHeld => ?_)
      refine take_ (i := 0) (N := some 41) (v := ?_) (a' := ?_) #[true, false, false, false, false, false] rfl rfl (by kernel_rfl) (fun _ _ _ h => h) (Or.inl ⟨by rfl, ?_⟩) hHeld ?_ ?_
      rotate_left
      · rintro w' ⟨s0, s1, s2, s3, s4, s5, s6, s7, s8, s9, s10, s11, s12, s13⟩
        go_simp
        with_reducible rfl
      rotate_left
      · simp only [Act.put, List.setIfInBounds_toArray, List.set_cons_zero, List.set_cons_succ, i64_w, i32_w]
        rfl
      refine take_ (i := 1) (N := some 42) (v := ?_) (a' := ?_) #[true, true, false, false, false, false] rfl rfl (by kernel_rfl) (fun _ _ _ h => h) (Or.inl ⟨by rfl, ?_⟩) hHeld ?_ ?_
      rotate_left
      · rintro w' ⟨s0, s1, s2, s3, s4, s5, s6, s7, s8, s9, s10, s11, s12, s13⟩
        go_simp
        with_reducible rfl
      rotate_left
      · simp only [Act.put, List.setIfInBounds_toArray, List.set_cons_zero, List.set_cons_succ, i64_w, i32_w]
        rfl
      refine take_ (i := 3) (N := some 44) (v := ?_) (a' := ?_) #[true, true, false, true, false, false] rfl rfl (by kernel_rfl) (fun _ _ _ h => h) (Or.inl ⟨by rfl, ?_⟩) hHeld ?_ ?_
      rotate_left
      · rintro w' ⟨s0, s1, s2, s3, s4, s5, s6, s7, s8, s9, s10, s11, s12, s13⟩
        go_simp
        with_reducible rfl
      rotate_left
      · simp only [Act.put, List.setIfInBounds_toArray, List.set_cons_zero, List.set_cons_succ, i64_w, i32_w]
        rfl
      refine one_ (i := 2) (N := some 43) #[true, true, true, true, false, false] rfl rfl (by kernel_rfl) (by decide) (fun K hK => ?_)
      refine goes_ Tryz.func26 (by kernel_rfl) rfl #[.agg #[.int .i64 5, .int .i64 0, .string ⟨#[]⟩, .slice A1 l.length c1, .slice none 0 0, .slice none 0 0], .agg #[.int .i64 5, .int .i64 0, .string ⟨#[]⟩, .slice (some ⟨r, 0, none⟩) l.length l.length, .slice none 0 0, .slice none 0 0]] (by rfl) rfl rfl (by simp only [List.map_toArray, List.map_cons, List.map_nil]; rfl) ?_
      with_reducible refine ((HSB.out _ hHeld.2.2.2.2.2.2.2.2.2.2.2.2.2)).mono ?_
      rintro e wz ⟨Q3, k3, Q4, k4, Q5, k5, rfl, hM, hb1⟩
      refine ⟨_, rfl, ?_⟩
      have hzA := SPN.below hHeld.2.2.2.2.2.2.2.2.2.2.2.2.1 hb1
      have hzB := hHeld.2.2.2.2.2.2.2.2.2.2.2.2.2.trans (hb1.mono hHeld.2.2.2.2.2.2.2.2.2.2.2.2.2.size)
      have HGV : Hid (Calls Tryz.prog 18 #[.agg #[.int .i64 (lV l).f0, .int .i64 (lV l).f1, .string (lV l).f2, .slice Q3 (lV l).f3.length k3, .slice Q4 (lV l).f4.length k4, .slice Q5 (lV l).f5.length k5, .int .i64 0], .agg #[.int .i64 5, .int .i64 0, .string ⟨#[]⟩, .slice A1 l.length c1, .slice none 0 0, .slice none 0 0]] wz fun e w' => e = .returned (.bool (cmpV (lV l) (lV l) == 0)) ∧ Below wz.heap.size wz w') := Lib.hid (given_any wz (lV l) (lV l) HW.out.1 HW.out.1 (k26.K_of_M hM) (k26.K_below (SPN.bel hzA) HKV.out) wz (Below.refl _ _))
      rw [show (cmpV (lV l) (lV l) == 0) = true by rw [cmpV_self]; rfl] at HGV
      clear hM
      refine hK.out _ _ ⟨((six_cells ((hzA.1).get 1 rfl)).1), ((six_cells ((hzA.1).get 1 rfl)).2.1), ((six_cells ((hzA.1).get 1 rfl)).2.2.1), ((six_cells ((hzA.1).get 1 rfl)).2.2.2.1), ((six_cells ((hzA.1).get 1 rfl)).2.2.2.2.1), ((six_cells ((hzA.1).get 1 rfl)).2.2.2.2.2.1), ((six_cells ((hzA.1).get 2 rfl)).1), ((six_cells ((hzA.1).get 2 rfl)).2.1), ((six_cells ((hzA.1).get 2 rfl)).2.2.1), ((six_cells ((hzA.1).get 2 rfl)).2.2.2.1), ((six_cells ((hzA.1).get 2 rfl)).2.2.2.2.1), ((six_cells ((hzA.1).get 2 rfl)).2.2.2.2.2.1), hzA, hzB⟩ (fun hHeld => ?_)
      clear hK K
      refine norm_ (a' := ?_) ?_ ?_
      rotate_left
      · show Act.put _ (some 43) _ = _
        simp only [Act.put, List.setIfInBounds_toArray, List.set_cons_zero, List.set_cons_succ, i64_w, i32_w]
        rfl
      refine one_ (i := 4) (N := some 45) #[true, true, true, true, true, false] rfl rfl (by kernel_rfl) (by decide) (fun K hK => ?_)
      refine goes_ Tryz.func18 (by kernel_rfl) rfl #[.agg #[.int .i64 (lV l).f0, .int .i64 (lV l).f1, .string (lV l).f2, .slice Q3 (lV l).f3.length k3, .slice Q4 (lV l).f4.length k4, .slice Q5 (lV l).f5.length k5, .int .i64 0], .agg #[.int .i64 5, .int .i64 0, .string ⟨#[]⟩, .slice A1 l.length c1, .slice none 0 0, .slice none 0 0]] (by rfl) rfl rfl (by simp only [List.map_toArray, List.map_cons, List.map_nil]; rfl) ?_
      with_reducible refine (HGV.out).mono ?_
      rintro e wy ⟨rfl, hb2⟩
      refine ⟨_, rfl, ?_⟩
      have hyA := SPN.below hHeld.2.2.2.2.2.2.2.2.2.2.2.2.1 hb2
      have hyB := hHeld.2.2.2.2.2.2.2.2.2.2.2.2.2.trans (hb2.mono hHeld.2.2.2.2.2.2.2.2.2.2.2.2.2.size)
      refine hK.out _ _ ⟨((six_cells ((hyA.1).get 1 rfl)).1), ((six_cells ((hyA.1).get 1 rfl)).2.1), ((six_cells ((hyA.1).get 1 rfl)).2.2.1), ((six_cells ((hyA.1).get 1 rfl)).2.2.2.1), ((six_cells ((hyA.1).get 1 rfl)).2.2.2.2.1), ((six_cells ((hyA.1).get 1 rfl)).2.2.2.2.2.1), ((six_cells ((hyA.1).get 2 rfl)).1), ((six_cells ((hyA.1).get 2 rfl)).2.1), ((six_cells ((hyA.1).get 2 rfl)).2.2.1), ((six_cells ((hyA.1).get 2 rfl)).2.2.2.1), ((six_cells ((hyA.1).get 2 rfl)).2.2.2.2.1), ((six_cells ((hyA.1).get 2 rfl)).2.2.2.2.2.1), hyA, hyB⟩ (fun hHeld => ?_)
      clear hK K
      refine norm_ (a' := ?_) ?_ ?_
      rotate_left
      · show Act.put _ (some 45) _ = _
        simp only [Act.put, List.setIfInBounds_toArray, List.set_cons_zero, List.set_cons_succ, i64_w, i32_w]
        rfl
      refine pure_ (i := 5) (N := some 4) (v := ?_) (a' := ?_) #[true, true, true, true, true, true] rfl rfl (by kernel_rfl) (fun _ _ _ h => h) (Or.inl ⟨by rfl, ?_⟩) ?_ ?_
      rotate_left
      · intro w'
        go_simp
        with_reducible rfl
      rotate_left
      · simp only [Act.put, List.setIfInBounds_toArray, List.set_cons_zero, List.set_cons_succ, i64_w, i32_w]
        rfl
      refine done_ (by kernel_rfl) ?_
      go_wp2_with fail
      go_ret
      exact ⟨rfl, hyA.1.1⟩
theorem fnByPlaces_any (w0 : World) (hE : Env w0) (A1 : Option Addr) (l : List V) (c1 : Nat) (hlc1 : l.length ≤ c1) (hC1 : Kd.C k26 w0 A1 l.length l) (hz1 : ∀ y ∈ l, Sz y) (xa : V) (hza : Sz xa) (Ka Ha : Int) (sa : ByteArray) (A3a A4a A5a : Option Addr) (n3a c3a n4a c4a n5a c5a : Nat) (hKa : k26.K w0 xa [.int .i64 Ka, .int .i64 Ha, .string sa, .slice A3a n3a c3a, .slice A4a n4a c4a, .slice A5a n5a c5a]) :
    Calls Tryz.prog 7 #[.slice A1 l.length c1, .agg #[.int .i64 Ka, .int .i64 Ha, .string sa, .slice A3a n3a c3a, .slice A4a n4a c4a, .slice A5a n5a c5a]] w0 fun e w' => e = .returned (.bool true) ∧ Below w0.heap.size w0 w' := by
  have hKa' := hKa
  obtain ⟨_, _, _, _, _, _, hea, _⟩ := k26_open hKa
  simp only [List.cons.injEq, Value.int.injEq, Value.string.injEq, Value.slice.injEq, true_and, and_true] at hea
  obtain ⟨rfl, rfl, rfl, ⟨rfl, rfl, rfl⟩, ⟨rfl, rfl, rfl⟩, ⟨rfl, rfl, rfl⟩⟩ := hea
  exact core_places w0 hE A1 l c1 hlc1 hC1 hz1 xa hza _ _ _ _ _ _ hKa'
end Go.Proofs.YtbnfeicpjmfooaaGreatDoor.ValA
