/-
FnSortRises: what is sorted rises, has the same elements, each as often, and is sorted again as it is.
-/
import Derived.Test.YtbnfeicpjmfooaaGreatDoorMY
set_option linter.unusedSimpArgs false
set_option linter.unusedVariables false
namespace Go.Proofs.YtbnfeicpjmfooaaGreatDoor.ValA
open Go.RowKit Go.Lib Go.Proofs.YtbnfeicpjmfooaaGreatDoorW.PrintWords Go.Proofs.YtbnfeicpjmfooaaGreatDoorW.PrintLast Go.Proofs.YtbnfeicpjmfooaaGreatDoorW.PrintMore Go.Proofs.YtbnfeicpjmfooaaGreatDoor.PzzFits1 Go.Proofs.YtbnfeicpjmfooaaGreatDoor.NumA
attribute [local go_sem] run_val
set_option maxRecDepth 100000 in
set_option maxHeartbeats 20000000 in
theorem core_rises (w0 : World) (hE : Env w0) (a : V) (hza : Sz a) (A3a A4a A5a : Option Addr) (a3a a4a a5a : Nat) (hKa : k26.K w0 a [.int .i64 a.f0, .int .i64 a.f1, .string a.f2, .slice A3a a.f3.length a3a, .slice A4a a.f4.length a4a, .slice A5a a.f5.length a5a]) (b : V) (hzb : Sz b) (A3b A4b A5b : Option Addr) (a3b a4b a5b : Nat) (hKb : k26.K w0 b [.int .i64 b.f0, .int .i64 b.f1, .string b.f2, .slice A3b b.f3.length a3b, .slice A4b b.f4.length a4b, .slice A5b b.f5.length a5b]) :
    Calls Tryz.prog 4 #[.agg #[.int .i64 a.f0, .int .i64 a.f1, .string a.f2, .slice A3a a.f3.length a3a, .slice A4a a.f4.length a4a, .slice A5a a.f5.length a5a], .agg #[.int .i64 b.f0, .int .i64 b.f1, .string b.f2, .slice A3b b.f3.length a3b, .slice A4b b.f4.length a4b, .slice A5b b.f5.length a5b]] w0 fun e w' => e = .returned (.bool true) ∧ Below w0.heap.size w0 w' := by
  obtain ⟨w, hw⟩ : ∃ w, w = w0 := ⟨_, rfl⟩
  obtain ⟨_, _, _, _, _, _, hea, _, ga, _, _, _, _⟩ := k26_open hKa
  simp only [List.cons.injEq, Value.int.injEq, Value.string.injEq, Value.slice.injEq, true_and, and_true] at hea
  obtain ⟨⟨rfl, rfl⟩, ⟨rfl, rfl⟩, ⟨rfl, rfl⟩⟩ := hea
  obtain ⟨_, _, _, _, _, _, heb, _, gb, _, _, _, _⟩ := k26_open hKb
  simp only [List.cons.injEq, Value.int.injEq, Value.string.injEq, Value.slice.injEq, true_and, and_true] at heb
  obtain ⟨⟨rfl, rfl⟩, ⟨rfl, rfl⟩, ⟨rfl, rfl⟩⟩ := heb
  have HG := Lib.hid (And.intro ga gb)
  have HFA := Lib.hid (fun w1 hb => fits1_any w0 a _ _ _ _ _ _ _ _ _ _ _ _ hKa w1 hb)
  have HFB := Lib.hid (fun w1 hb => fits1_any w0 b _ _ _ _ _ _ _ _ _ _ _ _ hKb w1 hb)
  have HFI := Lib.hid (fun w1 hb => fit_two w0 hE a hza _ _ _ _ _ _ _ _ _ _ _ _ hKa b hzb _ _ _ _ _ _ _ _ _ _ _ _ hKb w1 hb)
  have HTA := Lib.hid (fun h => toGo_any w0 _ a (Nat.lt_succ_self _) hza h _ hKa)
  have HTB := Lib.hid (fun h => toGo_any w0 _ b (Nat.lt_succ_self _) hzb h _ hKb)
  have HS := Lib.hid (And.intro hza hzb)
  have HKB := Lib.hid hKb
  clear hE hza hzb hKa hKb ga gb
  subst hw
  go_enter Tryz.func4, Tryz.ntmps4
  go_wp2_with fail
  obtain ⟨A, hA⟩ : ∃ A, A = w.heap.size := ⟨_, rfl⟩
  obtain ⟨B, hB⟩ : ∃ B, B = w.heap.size + 1 := ⟨_, rfl⟩
  obtain ⟨W0, hW0⟩ : ∃ W0, W0 = (w.alloc (.cells #[.int .i64 a.f0, .int .i64 a.f1, .string a.f2, .slice A3a a.f3.length a3a, .slice A4a a.f4.length a4a, .slice A5a a.f5.length a5a] 26)).alloc (.cells #[.int .i64 b.f0, .int .i64 b.f1, .string b.f2, .slice A3b b.f3.length a3b, .slice A4b b.f4.length a4b, .slice A5b b.f5.length a5b] 26) := ⟨_, rfl⟩
  have hS : SPN w [(A, #[.int .i64 a.f0, .int .i64 a.f1, .string a.f2, .slice A3a a.f3.length a3a, .slice A4a a.f4.length a4a, .slice A5a a.f5.length a5a], 26), (B, #[.int .i64 b.f0, .int .i64 b.f1, .string b.f2, .slice A3b b.f3.length a3b, .slice A4b b.f4.length a4b, .slice A5b b.f5.length a5b], 26)] W0 := by
    have h := ((sp_nil w).more #[.int .i64 a.f0, .int .i64 a.f1, .string a.f2, .slice A3a a.f3.length a3a, .slice A4a a.f4.length a4a, .slice A5a a.f5.length a5a] 26).more #[.int .i64 b.f0, .int .i64 b.f1, .string b.f2, .slice A3b b.f3.length a3b, .slice A4b b.f4.length a4b, .slice A5b b.f5.length a5b] 26
    rw [World.size_alloc] at h
    rw [hA, hB, hW0]
    exact h
  rw [← hW0]
  try rw [← hB]
  try rw [← hA]
  have H0 := Lib.hid hS
  clear hS hW0 hA hB
  refine (HFA.out W0 H0.out.1.1).mono ?_
  rintro e w1 ⟨r, rfl, hr, hb⟩
  have H1 := Lib.hid (SPN.below H0.out hb)
  clear hb hr HFA H0
  cases r with
  | false =>
    go_wp2_with fail
    go_ret
    exact ⟨rfl, H1.out.1.1⟩
  | true =>
  have y := six_cells (H1.out.1.get 1 rfl)
  go_wp2_with fail
  refine (HFB.out w1 H1.out.1.1).mono ?_
  rintro e w2 ⟨r, rfl, hr, hb⟩
  have H2 := Lib.hid (SPN.below H1.out hb)
  clear hb hr HFB H1 y
  cases r with
  | false =>
    go_wp2_with fail
    go_ret
    exact ⟨rfl, H2.out.1.1⟩
  | true =>
  have ya := six_cells (H2.out.1.get 0 rfl)
  have yb := six_cells (H2.out.1.get 1 rfl)
  go_wp2_with fail
  refine (HFI.out _ H2.out.1.1).mono ?_
  rintro e w3 ⟨r, rfl, hr, hb⟩
  have H3 := Lib.hid (SPN.below H2.out hb)
  clear hb H2 HFI ya yb
  cases r with
  | false =>
    go_wp2_with fail
    go_ret
    exact ⟨rfl, H3.out.1.1⟩
  | true =>
  have HW := Lib.hid (hr (by trivial))
  clear hr
  have HWA := Lib.hid (loose HW.out.1)
  have HWB := Lib.hid (loose HW.out.2)
  have ya := six_cells (H3.out.1.get 0 rfl)
  have yb := six_cells (H3.out.1.get 1 rfl)
  cases ka : (a.f0 != 5) with
  | true =>
    go_wp2_with fail
    go_ret
    exact ⟨rfl, H3.out.1.1⟩
  | false =>
  obtain ⟨s, hs⟩ : ∃ s, s = lV (sortV a.f3) := ⟨_, rfl⟩
  have HSE : Hid (s.f3 = sortV a.f3) := Lib.hid (by rw [hs]; rfl)
  have HN : Hid (a.f3.length ≤ 1000000) := Lib.hid (by cases HWA.out; assumption)
  have HNS : Hid (s.f3.length ≤ 1000000) := Lib.hid (by rw [HSE.out, sortV_len]; exact HN.out)
  have HEL : Hid (∀ y ∈ a.f3, WL y ∧ Sz y) := Lib.hid (fun y hy => ⟨HWA.out.h3 y hy, sz_h3 HS.out.1 y hy⟩)
  have HES : Hid (∀ y ∈ s.f3, WL y ∧ Sz y) := Lib.hid (fun y hy => HEL.out y (mem_sortV.1 (by rw [← HSE.out]; exact hy)))
  have HSN : Hid (s.f3.length = a.f3.length) := Lib.hid (by rw [HSE.out, sortV_len])
  have HWS : Hid (WL s ∧ Sz s) := Lib.hid (by
    rw [hs]
    exact ⟨wl_lV (by rw [sortV_len]; exact HN.out) (fun y hy => (HEL.out y (mem_sortV.1 hy)).1), sz_lV (fun y hy => (HEL.out y (mem_sortV.1 hy)).2)⟩)
  have HSU := Lib.hid (fun w1 hb => impl_Sort w a s _ _ _ _ _ _ _ _ _ _ _ _ (HTA.out HWA.out) (fun g n w hg => by rw [hs]; exact zz_sort (by simpa using ka) HWA.out HS.out.1 hg) w1 hb)
  have HSS : Hid (lV (sortV s.f3) = s) := Lib.hid (by rw [HSE.out, sort_sort (fun y hy => (HEL.out y hy).1), hs])
  have HF0 : Hid (s.f0 = 5) := Lib.hid (by rw [hs]; rfl)
  clear hs HTA HTB
  go_wp2_with fail
  refine (HSU.out _ H3.out.1.1).mono ?_
  rintro e w4 ⟨R3, r3, R4, r4, R5, r5, rfl, hM, hb⟩
  have hKS := k26.K_of_M hM
  obtain ⟨_, _, _, _, _, _, hes, _, gs, _, _, _, _⟩ := k26_open hKS
  simp only [List.cons.injEq, Value.int.injEq, Value.string.injEq, Value.slice.injEq, true_and, and_true] at hes
  obtain ⟨⟨rfl, rfl⟩, ⟨rfl, rfl⟩, ⟨rfl, rfl⟩⟩ := hes
  have HGS := Lib.hid gs
  have HKS := Lib.hid hKS
  have H4 := Lib.hid (SPN.below H3.out hb)
  clear hb hM hKS gs ya yb HSU H3 ka
  have ya := six_cells (H4.out.1.get 0 rfl)
  have yb := six_cells (H4.out.1.get 1 rfl)
  have hla : A < w4.heap.size := lt_of_heap (H4.out.1.get 0 rfl)
  have hlb : B < w4.heap.size := lt_of_heap (H4.out.1.get 1 rfl)
  go_wp2_with fail
  obtain ⟨R, hR⟩ : ∃ R, R = w4.heap.size := ⟨_, rfl⟩
  obtain ⟨W5, hW5⟩ : ∃ W5, W5 = w4.alloc (.cells #[.int .i64 s.f0, .int .i64 s.f1, .string s.f2, .slice R3 s.f3.length r3, .slice R4 s.f4.length r4, .slice R5 s.f5.length r5, .int .i64 0] 30) := ⟨_, rfl⟩
  have hS5 : SPN w4 [(R, #[.int .i64 s.f0, .int .i64 s.f1, .string s.f2, .slice R3 s.f3.length r3, .slice R4 s.f4.length r4, .slice R5 s.f5.length r5, .int .i64 0], 30)] W5 := by rw [hR, hW5]; exact (sp_nil w4).more _ _
  rw [← hW5]
  try rw [← hR]
  have H5 := Lib.hid hS5
  have yr := sev_cells (hS5.1.get 0 rfl)
  clear hS5 hW5 hR ya yb hla hlb
  try go_wp2_with fail
  clear yr
  go_loopg [6, 35] s.f3.length (fun k t i wr => ∃ j : Nat, i = .int .i64 j ∧ k + j = s.f3.length ∧ SPN w4 [(R, #[.int .i64 s.f0, .int .i64 s.f1, .string s.f2, .slice R3 s.f3.length r3, .slice R4 s.f4.length r4, .slice R5 s.f5.length r5, .int .i64 0], 30)] wr ∧ t = .int .i64 (cntV b (s.f3.take j) : Nat))
  case atStart => exact ⟨0, rfl, by omega, H5.out, by simp [cntV]⟩
  case round =>
    obtain ⟨j, rfl, hkj, hbr, rfl⟩ := hrel
    obtain ⟨t, ht⟩ : ∃ t, t = cntV b (s.f3.take j) := ⟨_, rfl⟩
    rw [← ht]
    have HTT := Lib.hid ht
    clear ht
    by_cases hlt : j < s.f3.length
    · obtain ⟨ad, C3, e3, C4, e4, C5, e5, rfl, x0, x1, x2, x3, x4, x5, hKy⟩ := elem_at HGS.out hbr.1.1 j hlt
      obtain ⟨y, hy⟩ : ∃ y, y = rd_T26 s.f3 j := ⟨_, rfl⟩
      rw [← hy] at x0 x1 x2 x3 x4 x5 hKy
      have HY := Lib.hid (And.intro hy (And.intro (HES.out y (by rw [hy]; exact rd_mem s.f3 j hlt)) hKy))
      have HR := Lib.hid (And.intro hbr (And.intro hkj hlt))
      have HTN : Hid (t < 1000001) := Lib.hid (by have h1 := HTT.out; have h2 := cnt_le b s.f3 j; have h3 := HNS.out; omega)
      have hlt2 : (j : Int) < (s.f3.length : Int) := by omega
      have yr := sev_cells (hbr.1.get 0 rfl)
      have hlr : R < wr.heap.size := lt_of_heap (hbr.1.get 0 rfl)
      clear hy hKy hkj hbr
      go_wp2_with fail
      obtain ⟨Y, hY⟩ : ∃ Y, Y = wr.heap.size := ⟨_, rfl⟩
      obtain ⟨W6, hW6⟩ : ∃ W6, W6 = wr.alloc (.cells #[.int .i64 y.f0, .int .i64 y.f1, .string y.f2, .slice C3 y.f3.length e3, .slice C4 y.f4.length e4, .slice C5 y.f5.length e5] 26) := ⟨_, rfl⟩
      have hS6 : SPN w4 [(R, #[.int .i64 s.f0, .int .i64 s.f1, .string s.f2, .slice (some ad) s.f3.length r3, .slice R4 s.f4.length r4, .slice R5 s.f5.length r5, .int .i64 0], 30), (Y, #[.int .i64 y.f0, .int .i64 y.f1, .string y.f2, .slice C3 y.f3.length e3, .slice C4 y.f4.length e4, .slice C5 y.f5.length e5], 26)] W6 := by rw [hY, hW6]; exact HR.out.1.more _ _
      rw [← hW6]
      try rw [← hY]
      have H6 := Lib.hid hS6
      clear hS6 hW6 hY x0 x1 x2 x3 x4 x5 yr hlr
      by_cases j0 : 0 < j
      · obtain ⟨q, hq⟩ : ∃ q, q = j - 1 := ⟨_, rfl⟩
        have hwq : wrap64 ((j : Int) - 1) = (q : Int) := by rw [hq]; exact w_pred (n := s.f3.length) hlt (Nat.le_succ_of_le HNS.out) j0
        have hqn : q < s.f3.length := by omega
        obtain ⟨ad2, D3, h3, D4, h4, D5, h5, he2, u0, u1, u2, u3, u4, u5, hKp⟩ := elem_at HGS.out H6.out.1.1 q hqn
        obtain rfl : ad = ad2 := Option.some.inj he2
        obtain ⟨p, hp⟩ : ∃ p, p = rd_T26 s.f3 q := ⟨_, rfl⟩
        rw [← hp] at u0 u1 u2 u3 u4 u5 hKp
        have HWP := Lib.hid (HES.out p (by rw [hp]; exact rd_mem s.f3 q hqn))
        obtain ⟨z, hz⟩ : ∃ z, z = cmpV p y := ⟨_, rfl⟩
        have hz0 : ¬ 0 < z := by
          rw [hz, hp, HY.out.1, hq, HSE.out]
          exact sort_step j0 (by rw [← HSE.out]; exact hlt)
        have HCM := Lib.hid (fun w1 hb => cmp_any w4 _ p (Nat.lt_succ_self _) HWP.out.1 y HY.out.2.1.1 _ _ hKp HY.out.2.2 w1 hb)
        rw [← hz] at HCM
        have hz1 : decide (z > 0) = false := decide_eq_false hz0
        have hz2 : decide (0 < z) = false := decide_eq_false hz0
        have hj1 : decide ((j : Int) > 0) = true := decide_eq_true (by omega)
        have hj2 : decide (0 < (j : Int)) = true := decide_eq_true (by omega)
        have hj3 : decide (0 < j) = true := decide_eq_true j0
        have hj4 : 0 < j := j0
        have hqn2 : (q : Int) < (s.f3.length : Int) := by omega
        have hq0 : (0 : Int) ≤ (q : Int) := by omega
        have HU := Lib.hid (And.intro u0 (And.intro u1 (And.intro u2 (And.intro u3 (And.intro u4 (And.intro u5 trivial))))))
        clear hq hp hz hz0 hKp he2 hlt hqn j0 u0 u1 u2 u3 u4 u5
        go_wp2_with fail
        refine start_ (n := 14) (S := fun w' => w'.cell? ⟨R, 0, none⟩ = some (.int .i64 s.f0) ∧ w'.cell? ⟨R, 1, none⟩ = some (.int .i64 s.f1) ∧ w'.cell? ⟨R, 2, none⟩ = some (.string s.f2) ∧ w'.cell? ⟨R, 3, none⟩ = some (.slice (some ad) s.f3.length r3) ∧ w'.cell? ⟨R, 4, none⟩ = some (.slice R4 s.f4.length r4) ∧ w'.cell? ⟨R, 5, none⟩ = some (.slice R5 s.f5.length r5) ∧ w'.cell? ⟨R, 6, none⟩ = some (.int .i64 0) ∧ w'.cell? ⟨Y, 0, none⟩ = some (.int .i64 y.f0) ∧ w'.cell? ⟨Y, 1, none⟩ = some (.int .i64 y.f1) ∧ w'.cell? ⟨Y, 2, none⟩ = some (.string y.f2) ∧ w'.cell? ⟨Y, 3, none⟩ = some (.slice C3 y.f3.length e3) ∧ w'.cell? ⟨Y, 4, none⟩ = some (.slice C4 y.f4.length e4) ∧ w'.cell? ⟨Y, 5, none⟩ = some (.slice C5 y.f5.length e5) ∧ w'.cell? (ad.add (q * 6)) = some (.int .i64 p.f0) ∧ w'.cell? ⟨(ad.add (q * 6)).block, (ad.add (q * 6)).off + 1, none⟩ = some (.int .i64 p.f1) ∧ w'.cell? ⟨(ad.add (q * 6)).block, (ad.add (q * 6)).off + 2, none⟩ = some (.string p.f2) ∧ w'.cell? ⟨(ad.add (q * 6)).block, (ad.add (q * 6)).off + 3, none⟩ = some (.slice D3 p.f3.length h3) ∧ w'.cell? ⟨(ad.add (q * 6)).block, (ad.add (q * 6)).off + 4, none⟩ = some (.slice D4 p.f4.length h4) ∧ w'.cell? ⟨(ad.add (q * 6)).block, (ad.add (q * 6)).off + 5, none⟩ = some (.slice D5 p.f5.length h5) ∧ SPN w4 [(R, #[.int .i64 s.f0, .int .i64 s.f1, .string s.f2, .slice (some ad) s.f3.length r3, .slice R4 s.f4.length r4, .slice R5 s.f5.length r5, .int .i64 0], 30), (Y, #[.int .i64 y.f0, .int .i64 y.f1, .string y.f2, .slice C3 y.f3.length e3, .slice C4 y.f4.length e4, .slice C5 y.f5.length e5], 26)] w') (ds := []) #[false, false, false, false, false, false, false, false, false, false, false, false, false, false] (by kernel_rfl) rfl rfl ⟨((sev_cells (((SPN.drew H6.out).1).get 0 rfl)).1), ((sev_cells (((SPN.drew H6.out).1).get 0 rfl)).2.1), ((sev_cells (((SPN.drew H6.out).1).get 0 rfl)).2.2.1), ((sev_cells (((SPN.drew H6.out).1).get 0 rfl)).2.2.2.1), ((sev_cells (((SPN.drew H6.out).1).get 0 rfl)).2.2.2.2.1), ((sev_cells (((SPN.drew H6.out).1).get 0 rfl)).2.2.2.2.2.1), ((sev_cells (((SPN.drew H6.out).1).get 0 rfl)).2.2.2.2.2.2.1), ((six_cells (((SPN.drew H6.out).1).get 1 rfl)).1), ((six_cells (((SPN.drew H6.out).1).get 1 rfl)).2.1), ((six_cells (((SPN.drew H6.out).1).get 1 rfl)).2.2.1), ((six_cells (((SPN.drew H6.out).1).get 1 rfl)).2.2.2.1), ((six_cells (((SPN.drew H6.out).1).get 1 rfl)).2.2.2.2.1), ((six_cells (((SPN.drew H6.out).1).get 1 rfl)).2.2.2.2.2.1), (HU.out.1), (HU.out.2.1), (HU.out.2.2.1), (HU.out.2.2.2.1), (HU.out.2.2.2.2.1), (HU.out.2.2.2.2.2.1), (SPN.drew H6.out)⟩ (fun hHeld => ?_)
        refine pure_ (i := 0) (N := some 40) (v := ?_) (a' := ?_) #[true, false, false, false, false, false, false, false, false, false, false, false, false, false] rfl rfl (by kernel_rfl) (fun _ _ _ h => h) (Or.inl ⟨by rfl, ?_⟩) ?_ ?_
        rotate_left
        · intro w'
          go_simp
          with_reducible rfl
        rotate_left
        · simp only [Act.put, List.setIfInBounds_toArray, List.set_cons_zero, List.set_cons_succ, i64_w, i32_w]
          rfl
        refine pure_ (i := 1) (N := some 41) (v := ?_) (a' := ?_) #[true, true, false, false, false, false, false, false, false, false, false, false, false, false] rfl rfl (by kernel_rfl) (fun _ _ _ h => h) (Or.inl ⟨by rfl, ?_⟩) ?_ ?_
        rotate_left
        · intro w'
          go_simp
          with_reducible rfl
        rotate_left
        · simp only [Act.put, List.setIfInBounds_toArray, List.set_cons_zero, List.set_cons_succ, i64_w, i32_w]
          rfl
        refine pure_ (i := 2) (N := some 42) (v := ?_) (a' := ?_) #[true, true, true, false, false, false, false, false, false, false, false, false, false, false] rfl rfl (by kernel_rfl) (fun _ _ _ h => h) (Or.inl ⟨by rfl, ?_⟩) ?_ ?_
        rotate_left
        · intro w'
          go_simp
          with_reducible rfl
        rotate_left
        · simp only [Act.put, List.setIfInBounds_toArray, List.set_cons_zero, List.set_cons_succ, i64_w, i32_w]
          rfl
        refine pure_ (i := 3) (N := some 43) (v := ?_) (a' := ?_) #[true, true, true, true, false, false, false, false, false, false, false, false, false, false] rfl rfl (by kernel_rfl) (fun _ _ _ h => h) (Or.inl ⟨by rfl, ?_⟩) ?_ ?_
        rotate_left
        · intro w'
          go_simp
          with_reducible rfl
        rotate_left
        · simp only [Act.put, List.setIfInBounds_toArray, List.set_cons_zero, List.set_cons_succ, i64_w, i32_w]
          rfl
        refine pure_ (i := 4) (N := some 44) (v := ?_) (a' := ?_) #[true, true, true, true, true, false, false, false, false, false, false, false, false, false] rfl rfl (by kernel_rfl) (fun _ _ _ h => h) (Or.inl ⟨by rfl, ?_⟩) ?_ ?_
        rotate_left
        · intro w'
          go_simp
          with_reducible rfl
        rotate_left
        · simp only [Act.put, List.setIfInBounds_toArray, List.set_cons_zero, List.set_cons_succ, i64_w, i32_w]
          rfl
        refine pure_ (i := 6) (N := some 46) (v := ?_) (a' := ?_) #[true, true, true, true, true, false, true, false, false, false, false, false, false, false] rfl rfl (by kernel_rfl) (fun _ _ _ h => h) (Or.inl ⟨by rfl, ?_⟩) ?_ ?_
        rotate_left
        · intro w'
          go_simp
          with_reducible rfl
        rotate_left
        · simp only [Act.put, List.setIfInBounds_toArray, List.set_cons_zero, List.set_cons_succ, i64_w, i32_w]
          rfl
        refine pure_ (i := 7) (N := some 47) (v := ?_) (a' := ?_) #[true, true, true, true, true, false, true, true, false, false, false, false, false, false] rfl rfl (by kernel_rfl) (fun _ _ _ h => h) (Or.inl ⟨by rfl, ?_⟩) ?_ ?_
        rotate_left
        · intro w'
          go_simp
          with_reducible rfl
        rotate_left
        · simp only [Act.put, List.setIfInBounds_toArray, List.set_cons_zero, List.set_cons_succ, i64_w, i32_w]
          rfl
        refine take_ (i := 5) (N := some 45) (v := ?_) (a' := ?_) #[true, true, true, true, true, true, true, true, false, false, false, false, false, false] rfl rfl (by kernel_rfl) (fun _ _ _ h => h) (Or.inl ⟨by rfl, ?_⟩) hHeld ?_ ?_
        rotate_left
        · rintro w' ⟨s0, s1, s2, s3, s4, s5, s6, s7, s8, s9, s10, s11, s12, s13, s14, s15, s16, s17, s18, s19⟩
          go_simp
          with_reducible rfl
        rotate_left
        · simp only [Act.put, List.setIfInBounds_toArray, List.set_cons_zero, List.set_cons_succ, i64_w, i32_w]
          rfl
        refine pure_ (i := 8) (N := some 48) (v := ?_) (a' := ?_) #[true, true, true, true, true, true, true, true, true, false, false, false, false, false] rfl rfl (by kernel_rfl) (fun _ _ _ h => h) (Or.inl ⟨by rfl, ?_⟩) ?_ ?_
        rotate_left
        · intro w'
          go_simp
          with_reducible rfl
        rotate_left
        · simp only [Act.put, List.setIfInBounds_toArray, List.set_cons_zero, List.set_cons_succ, i64_w, i32_w]
          rfl
        refine take_ (i := 9) (N := some 49) (v := ?_) (a' := ?_) #[true, true, true, true, true, true, true, true, true, true, false, false, false, false] rfl rfl (by kernel_rfl) (fun _ _ _ h => h) (Or.inl ⟨by rfl, ?_⟩) hHeld ?_ ?_
        rotate_left
        · rintro w' ⟨s0, s1, s2, s3, s4, s5, s6, s7, s8, s9, s10, s11, s12, s13, s14, s15, s16, s17, s18, s19⟩
          go_simp
          with_reducible rfl
        rotate_left
        · simp only [Act.put, List.setIfInBounds_toArray, List.set_cons_zero, List.set_cons_succ, i64_w, i32_w]
          rfl
        refine take_ (i := 10) (N := some 50) (v := ?_) (a' := ?_) #[true, true, true, true, true, true, true, true, true, true, true, false, false, false] rfl rfl (by kernel_rfl) (fun _ _ _ h => h) (Or.inl ⟨by rfl, ?_⟩) hHeld ?_ ?_
        rotate_left
        · rintro w' ⟨s0, s1, s2, s3, s4, s5, s6, s7, s8, s9, s10, s11, s12, s13, s14, s15, s16, s17, s18, s19⟩
          go_simp
          with_reducible rfl
        rotate_left
        · simp only [Act.put, List.setIfInBounds_toArray, List.set_cons_zero, List.set_cons_succ, i64_w, i32_w]
          rfl
        refine one_ (i := 11) (N := some 51) #[true, true, true, true, true, true, true, true, true, true, true, true, false, false] rfl rfl (by kernel_rfl) (by decide) (fun K hK => ?_)
        refine goes_ Tryz.func21 (by kernel_rfl) rfl #[.agg #[.int .i64 p.f0, .int .i64 p.f1, .string p.f2, .slice D3 p.f3.length h3, .slice D4 p.f4.length h4, .slice D5 p.f5.length h5], .agg #[.int .i64 y.f0, .int .i64 y.f1, .string y.f2, .slice C3 y.f3.length e3, .slice C4 y.f4.length e4, .slice C5 y.f5.length e5]] (by rfl) rfl rfl (by simp only [List.map_toArray, List.map_cons, List.map_nil]; rfl) ?_
        with_reducible refine ((HCM.out _ (SPN.bel hHeld.2.2.2.2.2.2.2.2.2.2.2.2.2.2.2.2.2.2.2))).mono ?_
        rintro e wz ⟨rfl, hb10⟩
        refine ⟨_, rfl, ?_⟩
        have hz10 := SPN.below hHeld.2.2.2.2.2.2.2.2.2.2.2.2.2.2.2.2.2.2.2 hb10
        refine hK.out _ _ ⟨((sev_cells ((hz10.1).get 0 rfl)).1), ((sev_cells ((hz10.1).get 0 rfl)).2.1), ((sev_cells ((hz10.1).get 0 rfl)).2.2.1), ((sev_cells ((hz10.1).get 0 rfl)).2.2.2.1), ((sev_cells ((hz10.1).get 0 rfl)).2.2.2.2.1), ((sev_cells ((hz10.1).get 0 rfl)).2.2.2.2.2.1), ((sev_cells ((hz10.1).get 0 rfl)).2.2.2.2.2.2.1), ((six_cells ((hz10.1).get 1 rfl)).1), ((six_cells ((hz10.1).get 1 rfl)).2.1), ((six_cells ((hz10.1).get 1 rfl)).2.2.1), ((six_cells ((hz10.1).get 1 rfl)).2.2.2.1), ((six_cells ((hz10.1).get 1 rfl)).2.2.2.2.1), ((six_cells ((hz10.1).get 1 rfl)).2.2.2.2.2.1), (pw_cell_below hb10 hHeld.2.2.2.2.2.2.2.2.2.2.2.2.2.1), (pw_cell_below hb10 hHeld.2.2.2.2.2.2.2.2.2.2.2.2.2.2.1), (pw_cell_below hb10 hHeld.2.2.2.2.2.2.2.2.2.2.2.2.2.2.2.1), (pw_cell_below hb10 hHeld.2.2.2.2.2.2.2.2.2.2.2.2.2.2.2.2.1), (pw_cell_below hb10 hHeld.2.2.2.2.2.2.2.2.2.2.2.2.2.2.2.2.2.1), (pw_cell_below hb10 hHeld.2.2.2.2.2.2.2.2.2.2.2.2.2.2.2.2.2.2.1), hz10⟩ (fun hHeld => ?_)
        clear hK K
        refine norm_ (a' := ?_) ?_ ?_
        rotate_left
        · show Act.put _ (some 51) _ = _
          simp only [Act.put, List.setIfInBounds_toArray, List.set_cons_zero, List.set_cons_succ, i64_w, i32_w]
          rfl
        refine pure_ (i := 12) (N := some 52) (v := ?_) (a' := ?_) #[true, true, true, true, true, true, true, true, true, true, true, true, true, false] rfl rfl (by kernel_rfl) (fun _ _ _ h => h) (Or.inl ⟨by rfl, ?_⟩) ?_ ?_
        rotate_left
        · intro w'
          go_simp
          with_reducible rfl
        rotate_left
        · simp only [Act.put, List.setIfInBounds_toArray, List.set_cons_zero, List.set_cons_succ, i64_w, i32_w]
          rfl
        refine pure_ (i := 13) (N := some 53) (v := ?_) (a' := ?_) #[true, true, true, true, true, true, true, true, true, true, true, true, true, true] rfl rfl (by kernel_rfl) (fun _ _ _ h => h) (Or.inl ⟨by rfl, ?_⟩) ?_ ?_
        rotate_left
        · intro w'
          go_simp
          with_reducible rfl
        rotate_left
        · simp only [Act.put, List.setIfInBounds_toArray, List.set_cons_zero, List.set_cons_succ, i64_w, i32_w]
          rfl
        refine done_ (by kernel_rfl) ?_
        have H7 := Lib.hid hz10
        clear hz1 hz2 hj1 hj2 hj3 hj4 hqn2 hq0 hwq HU HWP HCM
        have HSA := Lib.hid (fun w1 hb => same_any w4 b y HWB.out HY.out.2.1.1 (k26.K_below H4.out.1.1 HKB.out) HY.out.2.2 w1 hb)
        simp only [vl] at HSA
        have yY := six_cells (H7.out.1.get 1 rfl)
        have yb := six_cells ((SPN.below H4.out H7.out.1.1).1.get 1 rfl)
        obtain ⟨bz, hbz⟩ : ∃ bz, bz = (cmpV b y == 0) := ⟨_, rfl⟩
        rw [← hbz] at HSA
        have HJ : Hid (cntV b (s.f3.take (j + 1)) = t + if bz = true then 1 else 0) := Lib.hid (by rw [hbz, HTT.out]; exact cnt_take HR.out.2.2 HY.out.1)
        clear hbz
        go_wp2_with fail
        refine (HSA.out _ H7.out.1.1).mono ?_
        rintro e w8 ⟨rfl, hb⟩
        have H8 := Lib.hid (SPN.below H7.out hb)
        clear hb HSA yY yb
        cases bz with
        | false =>
          go_wp2_with fail
          go_roundg (gk - 1)
          case measure => exact ms_lt HR.out.2
          case rel =>
            have hw : wrap64 ((j : Int) + 1) = ((j + 1 : Nat) : Int) := w_succ HR.out.2.2 (Nat.le_succ_of_le HNS.out)
            try rw [hw]
            exact ⟨j + 1, rfl, ms_eq HR.out.2, SPN.hd H8.out, by rw [HJ.out]; rfl⟩
        | true =>
          go_wp2_with fail
          go_roundg (gk - 1)
          case measure => exact ms_lt HR.out.2
          case rel =>
            have hw : wrap64 ((j : Int) + 1) = ((j + 1 : Nat) : Int) := w_succ HR.out.2.2 (Nat.le_succ_of_le HNS.out)
            have hw2 : wrap64 ((t : Int) + 1) = ((t + 1 : Nat) : Int) := w_succ HTN.out (Nat.le_refl _)
            try rw [hw]
            try rw [hw2]
            exact ⟨j + 1, rfl, ms_eq HR.out.2, SPN.hd H8.out, by rw [HJ.out]; rfl⟩
      · have hj1 : decide ((j : Int) > 0) = false := decide_eq_false (by omega)
        have hj2 : decide (0 < (j : Int)) = false := decide_eq_false (by omega)
        have hj3 : decide (0 < j) = false := decide_eq_false j0
        have hj4 : (0 < j) = False := eq_false j0
        clear hlt j0
        go_wp2_with fail
        refine start_ (n := 14) (S := fun w' => w'.cell? ⟨R, 0, none⟩ = some (.int .i64 s.f0) ∧ w'.cell? ⟨R, 1, none⟩ = some (.int .i64 s.f1) ∧ w'.cell? ⟨R, 2, none⟩ = some (.string s.f2) ∧ w'.cell? ⟨R, 3, none⟩ = some (.slice (some ad) s.f3.length r3) ∧ w'.cell? ⟨R, 4, none⟩ = some (.slice R4 s.f4.length r4) ∧ w'.cell? ⟨R, 5, none⟩ = some (.slice R5 s.f5.length r5) ∧ w'.cell? ⟨R, 6, none⟩ = some (.int .i64 0) ∧ w'.cell? ⟨Y, 0, none⟩ = some (.int .i64 y.f0) ∧ w'.cell? ⟨Y, 1, none⟩ = some (.int .i64 y.f1) ∧ w'.cell? ⟨Y, 2, none⟩ = some (.string y.f2) ∧ w'.cell? ⟨Y, 3, none⟩ = some (.slice C3 y.f3.length e3) ∧ w'.cell? ⟨Y, 4, none⟩ = some (.slice C4 y.f4.length e4) ∧ w'.cell? ⟨Y, 5, none⟩ = some (.slice C5 y.f5.length e5) ∧ SPN w4 [(R, #[.int .i64 s.f0, .int .i64 s.f1, .string s.f2, .slice (some ad) s.f3.length r3, .slice R4 s.f4.length r4, .slice R5 s.f5.length r5, .int .i64 0], 30), (Y, #[.int .i64 y.f0, .int .i64 y.f1, .string y.f2, .slice C3 y.f3.length e3, .slice C4 y.f4.length e4, .slice C5 y.f5.length e5], 26)] w') (ds := []) #[false, false, false, false, false, false, false, false, false, false, false, false, false, false] (by kernel_rfl) rfl rfl ⟨((sev_cells (((SPN.drew H6.out).1).get 0 rfl)).1), ((sev_cells (((SPN.drew H6.out).1).get 0 rfl)).2.1), ((sev_cells (((SPN.drew H6.out).1).get 0 rfl)).2.2.1), ((sev_cells (((SPN.drew H6.out).1).get 0 rfl)).2.2.2.1), ((sev_cells (((SPN.drew H6.out).1).get 0 rfl)).2.2.2.2.1), ((sev_cells (((SPN.drew H6.out).1).get 0 rfl)).2.2.2.2.2.1), ((sev_cells (((SPN.drew H6.out).1).get 0 rfl)).2.2.2.2.2.2.1), ((six_cells (((SPN.drew H6.out).1).get 1 rfl)).1), ((six_cells (((SPN.drew H6.out).1).get 1 rfl)).2.1), ((six_cells (((SPN.drew H6.out).1).get 1 rfl)).2.2.1), ((six_cells (((SPN.drew H6.out).1).get 1 rfl)).2.2.2.1), ((six_cells (((SPN.drew H6.out).1).get 1 rfl)).2.2.2.2.1), ((six_cells (((SPN.drew H6.out).1).get 1 rfl)).2.2.2.2.2.1), (SPN.drew H6.out)⟩ (fun hHeld => ?_)
        refine pure_ (i := 0) (N := some 40) (v := ?_) (a' := ?_) #[true, false, false, false, false, false, false, false, false, false, false, false, false, false] rfl rfl (by kernel_rfl) (fun _ _ _ h => h) (Or.inl ⟨by rfl, ?_⟩) ?_ ?_
        rotate_left
        · intro w'
          go_simp
          with_reducible rfl
        rotate_left
        · simp only [Act.put, List.setIfInBounds_toArray, List.set_cons_zero, List.set_cons_succ, i64_w, i32_w]
          rfl
        refine pure_ (i := 1) (N := some 41) (v := ?_) (a' := ?_) #[true, true, false, false, false, false, false, false, false, false, false, false, false, false] rfl rfl (by kernel_rfl) (fun _ _ _ h => h) (Or.inl ⟨by rfl, ?_⟩) ?_ ?_
        rotate_left
        · intro w'
          go_simp
          with_reducible rfl
        rotate_left
        · simp only [Act.put, List.setIfInBounds_toArray, List.set_cons_zero, List.set_cons_succ, i64_w, i32_w]
          rfl
        refine pure_ (i := 2) (N := some 42) (v := ?_) (a' := ?_) #[true, true, true, false, false, false, false, false, false, false, false, false, false, false] rfl rfl (by kernel_rfl) (fun _ _ _ h => h) (Or.inl ⟨by rfl, ?_⟩) ?_ ?_
        rotate_left
        · intro w'
          go_simp
          with_reducible rfl
        rotate_left
        · simp only [Act.put, List.setIfInBounds_toArray, List.set_cons_zero, List.set_cons_succ, i64_w, i32_w]
          rfl
        refine pure_ (i := 3) (N := some 43) (v := undef) (a' := ?_) #[true, true, true, true, false, false, false, false, false, false, false, false, false, false] rfl rfl (by kernel_rfl) (fun _ _ _ h => h) (Or.inr ⟨by rfl, rfl⟩) ?_ ?_
        rotate_left
        · simp only [Act.put, List.setIfInBounds_toArray, List.set_cons_zero, List.set_cons_succ, i64_w, i32_w]
          rfl
        refine pure_ (i := 4) (N := some 44) (v := undef) (a' := ?_) #[true, true, true, true, true, false, false, false, false, false, false, false, false, false] rfl rfl (by kernel_rfl) (fun _ _ _ h => h) (Or.inr ⟨by rfl, rfl⟩) ?_ ?_
        rotate_left
        · simp only [Act.put, List.setIfInBounds_toArray, List.set_cons_zero, List.set_cons_succ, i64_w, i32_w]
          rfl
        refine pure_ (i := 5) (N := some 45) (v := undef) (a' := ?_) #[true, true, true, true, true, true, false, false, false, false, false, false, false, false] rfl rfl (by kernel_rfl) (fun _ _ _ h => h) (Or.inr ⟨by rfl, rfl⟩) ?_ ?_
        rotate_left
        · simp only [Act.put, List.setIfInBounds_toArray, List.set_cons_zero, List.set_cons_succ, i64_w, i32_w]
          rfl
        refine pure_ (i := 6) (N := some 46) (v := undef) (a' := ?_) #[true, true, true, true, true, true, true, false, false, false, false, false, false, false] rfl rfl (by kernel_rfl) (fun _ _ _ h => h) (Or.inr ⟨by rfl, rfl⟩) ?_ ?_
        rotate_left
        · simp only [Act.put, List.setIfInBounds_toArray, List.set_cons_zero, List.set_cons_succ, i64_w, i32_w]
          rfl
        refine pure_ (i := 7) (N := some 47) (v := undef) (a' := ?_) #[true, true, true, true, true, true, true, true, false, false, false, false, false, false] rfl rfl (by kernel_rfl) (fun _ _ _ h => h) (Or.inr ⟨by rfl, rfl⟩) ?_ ?_
        rotate_left
        · simp only [Act.put, List.setIfInBounds_toArray, List.set_cons_zero, List.set_cons_succ, i64_w, i32_w]
          rfl
        refine pure_ (i := 8) (N := some 48) (v := undef) (a' := ?_) #[true, true, true, true, true, true, true, true, true, false, false, false, false, false] rfl rfl (by kernel_rfl) (fun _ _ _ h => h) (Or.inr ⟨by rfl, rfl⟩) ?_ ?_
        rotate_left
        · simp only [Act.put, List.setIfInBounds_toArray, List.set_cons_zero, List.set_cons_succ, i64_w, i32_w]
          rfl
        refine pure_ (i := 9) (N := some 49) (v := undef) (a' := ?_) #[true, true, true, true, true, true, true, true, true, true, false, false, false, false] rfl rfl (by kernel_rfl) (fun _ _ _ h => h) (Or.inr ⟨by rfl, rfl⟩) ?_ ?_
        rotate_left
        · simp only [Act.put, List.setIfInBounds_toArray, List.set_cons_zero, List.set_cons_succ, i64_w, i32_w]
          rfl
        refine pure_ (i := 10) (N := some 50) (v := undef) (a' := ?_) #[true, true, true, true, true, true, true, true, true, true, true, false, false, false] rfl rfl (by kernel_rfl) (fun _ _ _ h => h) (Or.inr ⟨by rfl, rfl⟩) ?_ ?_
        rotate_left
        · simp only [Act.put, List.setIfInBounds_toArray, List.set_cons_zero, List.set_cons_succ, i64_w, i32_w]
          rfl
        refine pure_ (i := 11) (N := some 51) (v := undef) (a' := ?_) #[true, true, true, true, true, true, true, true, true, true, true, true, false, false] rfl rfl (by kernel_rfl) (fun _ _ _ h => h) (Or.inr ⟨by rfl, rfl⟩) ?_ ?_
        rotate_left
        · simp only [Act.put, List.setIfInBounds_toArray, List.set_cons_zero, List.set_cons_succ, i64_w, i32_w]
          rfl
        refine pure_ (i := 12) (N := some 52) (v := undef) (a' := ?_) #[true, true, true, true, true, true, true, true, true, true, true, true, true, false] rfl rfl (by kernel_rfl) (fun _ _ _ h => h) (Or.inr ⟨by rfl, rfl⟩) ?_ ?_
        rotate_left
        · simp only [Act.put, List.setIfInBounds_toArray, List.set_cons_zero, List.set_cons_succ, i64_w, i32_w]
          rfl
        refine pure_ (i := 13) (N := some 53) (v := ?_) (a' := ?_) #[true, true, true, true, true, true, true, true, true, true, true, true, true, true] rfl rfl (by kernel_rfl) (fun _ _ _ h => h) (Or.inl ⟨by rfl, ?_⟩) ?_ ?_
        rotate_left
        · intro w'
          go_simp
          with_reducible rfl
        rotate_left
        · simp only [Act.put, List.setIfInBounds_toArray, List.set_cons_zero, List.set_cons_succ, i64_w, i32_w]
          rfl
        refine done_ (by kernel_rfl) ?_
        have H7 := Lib.hid hHeld.2.2.2.2.2.2.2.2.2.2.2.2.2
        clear hj1 hj2 hj3 hj4
        have HSA := Lib.hid (fun w1 hb => same_any w4 b y HWB.out HY.out.2.1.1 (k26.K_below H4.out.1.1 HKB.out) HY.out.2.2 w1 hb)
        simp only [vl] at HSA
        have yY := six_cells (H7.out.1.get 1 rfl)
        have yb := six_cells ((SPN.below H4.out H7.out.1.1).1.get 1 rfl)
        obtain ⟨bz, hbz⟩ : ∃ bz, bz = (cmpV b y == 0) := ⟨_, rfl⟩
        rw [← hbz] at HSA
        have HJ : Hid (cntV b (s.f3.take (j + 1)) = t + if bz = true then 1 else 0) := Lib.hid (by rw [hbz, HTT.out]; exact cnt_take HR.out.2.2 HY.out.1)
        clear hbz
        go_wp2_with fail
        refine (HSA.out _ H7.out.1.1).mono ?_
        rintro e w8 ⟨rfl, hb⟩
        have H8 := Lib.hid (SPN.below H7.out hb)
        clear hb HSA yY yb
        cases bz with
        | false =>
          go_wp2_with fail
          go_roundg (gk - 1)
          case measure => exact ms_lt HR.out.2
          case rel =>
            have hw : wrap64 ((j : Int) + 1) = ((j + 1 : Nat) : Int) := w_succ HR.out.2.2 (Nat.le_succ_of_le HNS.out)
            try rw [hw]
            exact ⟨j + 1, rfl, ms_eq HR.out.2, SPN.hd H8.out, by rw [HJ.out]; rfl⟩
        | true =>
          go_wp2_with fail
          go_roundg (gk - 1)
          case measure => exact ms_lt HR.out.2
          case rel =>
            have hw : wrap64 ((j : Int) + 1) = ((j + 1 : Nat) : Int) := w_succ HR.out.2.2 (Nat.le_succ_of_le HNS.out)
            have hw2 : wrap64 ((t : Int) + 1) = ((t + 1 : Nat) : Int) := w_succ HTN.out (Nat.le_refl _)
            try rw [hw]
            try rw [hw2]
            exact ⟨j + 1, rfl, ms_eq HR.out.2, SPN.hd H8.out, by rw [HJ.out]; rfl⟩
    · have q2 : ¬ (j : Int) < (s.f3.length : Int) := by omega
      have q4 : decide ((j : Int) < (s.f3.length : Int)) = false := decide_eq_false q2
      have q5 : decide (j < s.f3.length) = false := decide_eq_false hlt
      have hts : t = cntV b a.f3 := by rw [HTT.out, List.take_of_length_le (by omega), HSE.out, cnt_sort]
      have HP := Lib.hid hbr
      have HAB := Lib.hid (SPN.below H4.out hbr.1.1)
      have ya := six_cells (HAB.out.1.get 0 rfl)
      clear hkj hlt q2 hbr
      go_wp2_with fail
      obtain ⟨wo, rfl⟩ : ∃ wo, wo = wr := ⟨_, rfl⟩
      clear ya q4 q5
      go_loopg [7, 63] a.f3.length (fun k t i w2 => ∃ q : Nat, i = .int .i64 q ∧ k + q = a.f3.length ∧ SPN w4 [(R, #[.int .i64 s.f0, .int .i64 s.f1, .string s.f2, .slice R3 s.f3.length r3, .slice R4 s.f4.length r4, .slice R5 s.f5.length r5, .int .i64 0], 30)] w2 ∧ t = .int .i64 (cntV b (a.f3.take q) : Nat))
      case atStart => exact ⟨0, rfl, by omega, HP.out, by simp [cntV]⟩
      case round =>
        obtain ⟨q, rfl, hkq, hb2, rfl⟩ := hrel
        have HAB2 := Lib.hid (SPN.below H4.out hb2.1.1)
        obtain ⟨v, hv⟩ : ∃ v, v = cntV b (a.f3.take q) := ⟨_, rfl⟩
        rw [← hv]
        have HVV := Lib.hid hv
        clear hv
        by_cases hlt : q < a.f3.length
        · obtain ⟨ad, C3, e3, C4, e4, C5, e5, rfl, x0, x1, x2, x3, x4, x5, hKy⟩ := elem_at HG.out.1 HAB2.out.1.1 q hlt
          obtain ⟨y, hy⟩ : ∃ y, y = rd_T26 a.f3 q := ⟨_, rfl⟩
          rw [← hy] at x0 x1 x2 x3 x4 x5 hKy
          have HY := Lib.hid (And.intro hy (HEL.out y (by rw [hy]; exact rd_mem a.f3 q hlt)).1)
          have HR2 := Lib.hid (And.intro hb2 (And.intro hkq hlt))
          have HVN : Hid (v < 1000001) := Lib.hid (by have h1 := HVV.out; have h2 := cnt_le b a.f3 q; have h3 := HN.out; omega)
          have HSA := Lib.hid (fun w1 hb => same_any w b y HWB.out HY.out.2 HKB.out hKy w1 hb)
          simp only [vl] at HSA
          have hlt2 : (q : Int) < (a.f3.length : Int) := by omega
          have yb := six_cells (HAB2.out.1.get 1 rfl)
          have hlb : B < wr.heap.size := lt_of_heap (HAB2.out.1.get 1 rfl)
          obtain ⟨bz, hbz⟩ : ∃ bz, bz = (cmpV b y == 0) := ⟨_, rfl⟩
          rw [← hbz] at HSA
          have HJ : Hid (cntV b (a.f3.take (q + 1)) = v + if bz = true then 1 else 0) := Lib.hid (by rw [hbz, HVV.out]; exact cnt_take hlt hy)
          clear hy hKy hkq hlt hb2 hbz
          go_wp2_with fail
          refine (HSA.out _ (HAB2.out.1.1.alloc HAB2.out.1.1.size _)).mono ?_
          rintro e w8 ⟨rfl, hb⟩
          have H8 := Lib.hid (SPN.below (HR2.out.1.more #[.int .i64 y.f0, .int .i64 y.f1, .string y.f2, .slice C3 y.f3.length e3, .slice C4 y.f4.length e4, .slice C5 y.f5.length e5] 26) hb)
          clear hb HSA x0 x1 x2 x3 x4 x5 yb hlb
          cases bz with
          | false =>
            go_wp2_with fail
            go_roundg (gk - 1)
            case measure => exact ms_lt HR2.out.2
            case rel =>
              have hw : wrap64 ((q : Int) + 1) = ((q + 1 : Nat) : Int) := w_succ HR2.out.2.2 (Nat.le_succ_of_le HN.out)
              try rw [hw]
              exact ⟨q + 1, rfl, ms_eq HR2.out.2, SPN.hd H8.out, by rw [HJ.out]; rfl⟩
          | true =>
            go_wp2_with fail
            go_roundg (gk - 1)
            case measure => exact ms_lt HR2.out.2
            case rel =>
              have hw : wrap64 ((q : Int) + 1) = ((q + 1 : Nat) : Int) := w_succ HR2.out.2.2 (Nat.le_succ_of_le HN.out)
              have hw2 : wrap64 ((v : Int) + 1) = ((v + 1 : Nat) : Int) := w_succ HVN.out (Nat.le_refl _)
              try rw [hw]
              try rw [hw2]
              exact ⟨q + 1, rfl, ms_eq HR2.out.2, SPN.hd H8.out, by rw [HJ.out]; rfl⟩
        · have q2 : ¬ (q : Int) < (a.f3.length : Int) := by omega
          have q4 : decide ((q : Int) < (a.f3.length : Int)) = false := decide_eq_false q2
          have q5 : decide (q < a.f3.length) = false := decide_eq_false hlt
          obtain rfl : v = t := by rw [HVV.out, List.take_of_length_le (by omega), hts]
          have htt : ((v : Int) == (v : Int)) = true := by simp
          have hll : ((s.f3.length : Int) == (a.f3.length : Int)) = true := by rw [HSN.out]; simp
          have HP2 := Lib.hid hb2
          have HSU2 := Lib.hid (fun w1 hb => impl_Sort w4 s s _ _ _ _ _ _ _ _ _ _ _ _ (toGo_any w4 _ s (Nat.lt_succ_self _) HWS.out.2 HWS.out.1 _ HKS.out) (fun g n w hg => by have h := zz_sort HF0.out HWS.out.1 HWS.out.2 hg; rw [HSS.out] at h; exact h) w1 hb)
          clear hkq hlt q2 hb2
          go_wp2_with fail
          refine start_ (n := 27) (S := fun w' => w'.cell? ⟨A, 0, none⟩ = some (.int .i64 a.f0) ∧ w'.cell? ⟨A, 1, none⟩ = some (.int .i64 a.f1) ∧ w'.cell? ⟨A, 2, none⟩ = some (.string a.f2) ∧ w'.cell? ⟨A, 3, none⟩ = some (.slice A3a a.f3.length a3a) ∧ w'.cell? ⟨A, 4, none⟩ = some (.slice A4a a.f4.length a4a) ∧ w'.cell? ⟨A, 5, none⟩ = some (.slice A5a a.f5.length a5a) ∧ w'.cell? ⟨R, 0, none⟩ = some (.int .i64 s.f0) ∧ w'.cell? ⟨R, 1, none⟩ = some (.int .i64 s.f1) ∧ w'.cell? ⟨R, 2, none⟩ = some (.string s.f2) ∧ w'.cell? ⟨R, 3, none⟩ = some (.slice R3 s.f3.length r3) ∧ w'.cell? ⟨R, 4, none⟩ = some (.slice R4 s.f4.length r4) ∧ w'.cell? ⟨R, 5, none⟩ = some (.slice R5 s.f5.length r5) ∧ w'.cell? ⟨R, 6, none⟩ = some (.int .i64 0) ∧ SPN w [(A, #[.int .i64 a.f0, .int .i64 a.f1, .string a.f2, .slice A3a a.f3.length a3a, .slice A4a a.f4.length a4a, .slice A5a a.f5.length a5a], 26), (B, #[.int .i64 b.f0, .int .i64 b.f1, .string b.f2, .slice A3b b.f3.length a3b, .slice A4b b.f4.length a4b, .slice A5b b.f5.length a5b], 26)] w' ∧ SPN w4 [(R, #[.int .i64 s.f0, .int .i64 s.f1, .string s.f2, .slice R3 s.f3.length r3, .slice R4 s.f4.length r4, .slice R5 s.f5.length r5, .int .i64 0], 30)] w') (ds := []) #[false, false, false, false, false, false, false, false, false, false, false, false, false, false, false, false, false, false, false, false, false, false, false, false, false, false, false] (by kernel_rfl) rfl rfl ⟨((six_cells (((SPN.drew (SPN.below H4.out HP2.out.1.1)).1).get 0 rfl)).1), ((six_cells (((SPN.drew (SPN.below H4.out HP2.out.1.1)).1).get 0 rfl)).2.1), ((six_cells (((SPN.drew (SPN.below H4.out HP2.out.1.1)).1).get 0 rfl)).2.2.1), ((six_cells (((SPN.drew (SPN.below H4.out HP2.out.1.1)).1).get 0 rfl)).2.2.2.1), ((six_cells (((SPN.drew (SPN.below H4.out HP2.out.1.1)).1).get 0 rfl)).2.2.2.2.1), ((six_cells (((SPN.drew (SPN.below H4.out HP2.out.1.1)).1).get 0 rfl)).2.2.2.2.2.1), ((sev_cells (((SPN.drew HP2.out).1).get 0 rfl)).1), ((sev_cells (((SPN.drew HP2.out).1).get 0 rfl)).2.1), ((sev_cells (((SPN.drew HP2.out).1).get 0 rfl)).2.2.1), ((sev_cells (((SPN.drew HP2.out).1).get 0 rfl)).2.2.2.1), ((sev_cells (((SPN.drew HP2.out).1).get 0 rfl)).2.2.2.2.1), ((sev_cells (((SPN.drew HP2.out).1).get 0 rfl)).2.2.2.2.2.1), ((sev_cells (((SPN.drew HP2.out).1).get 0 rfl)).2.2.2.2.2.2.1), (SPN.drew (SPN.below H4.out HP2.out.1.1)), (SPN.drew HP2.out)⟩ (fun hHeld => ?_)
          refine pure_ (i := 0) (N := some 73) (v := ?_) (a' := ?_) #[true, false, false, false, false, false, false, false, false, false, false, false, false, false, false, false, false, false, false, false, false, false, false, false, false, false, false] rfl rfl (by kernel_rfl) (fun _ _ _ h => h) (Or.inl ⟨by rfl, ?_⟩) ?_ ?_
          rotate_left
          · intro w'
            go_simp
            with_reducible rfl
          rotate_left
          · simp only [Act.put, List.setIfInBounds_toArray, List.set_cons_zero, List.set_cons_succ, i64_w, i32_w]
            rfl
          refine take_ (i := 1) (N := some 74) (v := ?_) (a' := ?_) #[true, true, false, false, false, false, false, false, false, false, false, false, false, false, false, false, false, false, false, false, false, false, false, false, false, false, false] rfl rfl (by kernel_rfl) (fun _ _ _ h => h) (Or.inl ⟨by rfl, ?_⟩) hHeld ?_ ?_
          rotate_left
          · rintro w' ⟨s0, s1, s2, s3, s4, s5, s6, s7, s8, s9, s10, s11, s12, s13, s14⟩
            go_simp
            with_reducible rfl
          rotate_left
          · simp only [Act.put, List.setIfInBounds_toArray, List.set_cons_zero, List.set_cons_succ, i64_w, i32_w]
            rfl
          refine pure_ (i := 2) (N := some 75) (v := ?_) (a' := ?_) #[true, true, true, false, false, false, false, false, false, false, false, false, false, false, false, false, false, false, false, false, false, false, false, false, false, false, false] rfl rfl (by kernel_rfl) (fun _ _ _ h => h) (Or.inl ⟨by rfl, ?_⟩) ?_ ?_
          rotate_left
          · intro w'
            go_simp
            with_reducible rfl
          rotate_left
          · simp only [Act.put, List.setIfInBounds_toArray, List.set_cons_zero, List.set_cons_succ, i64_w, i32_w]
            rfl
          refine pure_ (i := 3) (N := some 76) (v := ?_) (a' := ?_) #[true, true, true, true, false, false, false, false, false, false, false, false, false, false, false, false, false, false, false, false, false, false, false, false, false, false, false] rfl rfl (by kernel_rfl) (fun _ _ _ h => h) (Or.inl ⟨by rfl, ?_⟩) ?_ ?_
          rotate_left
          · intro w'
            go_simp
            with_reducible rfl
          rotate_left
          · simp only [Act.put, List.setIfInBounds_toArray, List.set_cons_zero, List.set_cons_succ, i64_w, i32_w]
            rfl
          refine pure_ (i := 4) (N := some 77) (v := ?_) (a' := ?_) #[true, true, true, true, true, false, false, false, false, false, false, false, false, false, false, false, false, false, false, false, false, false, false, false, false, false, false] rfl rfl (by kernel_rfl) (fun _ _ _ h => h) (Or.inl ⟨by rfl, ?_⟩) ?_ ?_
          rotate_left
          · intro w'
            go_simp
            with_reducible rfl
          rotate_left
          · simp only [Act.put, List.setIfInBounds_toArray, List.set_cons_zero, List.set_cons_succ, i64_w, i32_w]
            rfl
          refine pure_ (i := 5) (N := some 78) (v := ?_) (a' := ?_) #[true, true, true, true, true, true, false, false, false, false, false, false, false, false, false, false, false, false, false, false, false, false, false, false, false, false, false] rfl rfl (by kernel_rfl) (fun _ _ _ h => h) (Or.inl ⟨by rfl, ?_⟩) ?_ ?_
          rotate_left
          · intro w'
            go_simp
            with_reducible rfl
          rotate_left
          · simp only [Act.put, List.setIfInBounds_toArray, List.set_cons_zero, List.set_cons_succ, i64_w, i32_w]
            rfl
          refine pure_ (i := 6) (N := some 79) (v := ?_) (a' := ?_) #[true, true, true, true, true, true, true, false, false, false, false, false, false, false, false, false, false, false, false, false, false, false, false, false, false, false, false] rfl rfl (by kernel_rfl) (fun _ _ _ h => h) (Or.inl ⟨by rfl, ?_⟩) ?_ ?_
          rotate_left
          · intro w'
            go_simp
            with_reducible rfl
          rotate_left
          · simp only [Act.put, List.setIfInBounds_toArray, List.set_cons_zero, List.set_cons_succ, i64_w, i32_w]
            rfl
          refine pure_ (i := 7) (N := some 80) (v := ?_) (a' := ?_) #[true, true, true, true, true, true, true, true, false, false, false, false, false, false, false, false, false, false, false, false, false, false, false, false, false, false, false] rfl rfl (by kernel_rfl) (fun _ _ _ h => h) (Or.inl ⟨by rfl, ?_⟩) ?_ ?_
          rotate_left
          · intro w'
            go_simp
            with_reducible rfl
          rotate_left
          · simp only [Act.put, List.setIfInBounds_toArray, List.set_cons_zero, List.set_cons_succ, i64_w, i32_w]
            rfl
          refine pure_ (i := 8) (N := some 81) (v := ?_) (a' := ?_) #[true, true, true, true, true, true, true, true, true, false, false, false, false, false, false, false, false, false, false, false, false, false, false, false, false, false, false] rfl rfl (by kernel_rfl) (fun _ _ _ h => h) (Or.inl ⟨by rfl, ?_⟩) ?_ ?_
          rotate_left
          · intro w'
            go_simp
            with_reducible rfl
          rotate_left
          · simp only [Act.put, List.setIfInBounds_toArray, List.set_cons_zero, List.set_cons_succ, i64_w, i32_w]
            rfl
          refine pure_ (i := 9) (N := some 82) (v := ?_) (a' := ?_) #[true, true, true, true, true, true, true, true, true, true, false, false, false, false, false, false, false, false, false, false, false, false, false, false, false, false, false] rfl rfl (by kernel_rfl) (fun _ _ _ h => h) (Or.inl ⟨by rfl, ?_⟩) ?_ ?_
          rotate_left
          · intro w'
            go_simp
            with_reducible rfl
          rotate_left
          · simp only [Act.put, List.setIfInBounds_toArray, List.set_cons_zero, List.set_cons_succ, i64_w, i32_w]
            rfl
          refine pure_ (i := 10) (N := some 83) (v := ?_) (a' := ?_) #[true, true, true, true, true, true, true, true, true, true, true, false, false, false, false, false, false, false, false, false, false, false, false, false, false, false, false] rfl rfl (by kernel_rfl) (fun _ _ _ h => h) (Or.inl ⟨by rfl, ?_⟩) ?_ ?_
          rotate_left
          · intro w'
            go_simp
            with_reducible rfl
          rotate_left
          · simp only [Act.put, List.setIfInBounds_toArray, List.set_cons_zero, List.set_cons_succ, i64_w, i32_w]
            rfl
          refine pure_ (i := 13) (N := some 86) (v := ?_) (a' := ?_) #[true, true, true, true, true, true, true, true, true, true, true, false, false, true, false, false, false, false, false, false, false, false, false, false, false, false, false] rfl rfl (by kernel_rfl) (fun _ _ _ h => h) (Or.inl ⟨by rfl, ?_⟩) ?_ ?_
          rotate_left
          · intro w'
            go_simp
            with_reducible rfl
          rotate_left
          · simp only [Act.put, List.setIfInBounds_toArray, List.set_cons_zero, List.set_cons_succ, i64_w, i32_w]
            rfl
          refine take_ (i := 11) (N := some 84) (v := ?_) (a' := ?_) #[true, true, true, true, true, true, true, true, true, true, true, true, false, true, false, false, false, false, false, false, false, false, false, false, false, false, false] rfl rfl (by kernel_rfl) (fun _ _ _ h => h) (Or.inl ⟨by rfl, ?_⟩) hHeld ?_ ?_
          rotate_left
          · rintro w' ⟨s0, s1, s2, s3, s4, s5, s6, s7, s8, s9, s10, s11, s12, s13, s14⟩
            go_simp
            with_reducible rfl
          rotate_left
          · simp only [Act.put, List.setIfInBounds_toArray, List.set_cons_zero, List.set_cons_succ, i64_w, i32_w]
            rfl
          refine pure_ (i := 12) (N := some 85) (v := ?_) (a' := ?_) #[true, true, true, true, true, true, true, true, true, true, true, true, true, true, false, false, false, false, false, false, false, false, false, false, false, false, false] rfl rfl (by kernel_rfl) (fun _ _ _ h => h) (Or.inl ⟨by rfl, ?_⟩) ?_ ?_
          rotate_left
          · intro w'
            go_simp
            with_reducible rfl
          rotate_left
          · simp only [Act.put, List.setIfInBounds_toArray, List.set_cons_zero, List.set_cons_succ, i64_w, i32_w]
            rfl
          refine take_ (i := 14) (N := some 87) (v := ?_) (a' := ?_) #[true, true, true, true, true, true, true, true, true, true, true, true, true, true, true, false, false, false, false, false, false, false, false, false, false, false, false] rfl rfl (by kernel_rfl) (fun _ _ _ h => h) (Or.inl ⟨by rfl, ?_⟩) hHeld ?_ ?_
          rotate_left
          · rintro w' ⟨s0, s1, s2, s3, s4, s5, s6, s7, s8, s9, s10, s11, s12, s13, s14⟩
            go_simp
            with_reducible rfl
          rotate_left
          · simp only [Act.put, List.setIfInBounds_toArray, List.set_cons_zero, List.set_cons_succ, i64_w, i32_w]
            rfl
          refine pure_ (i := 15) (N := some 88) (v := ?_) (a' := ?_) #[true, true, true, true, true, true, true, true, true, true, true, true, true, true, true, true, false, false, false, false, false, false, false, false, false, false, false] rfl rfl (by kernel_rfl) (fun _ _ _ h => h) (Or.inl ⟨by rfl, ?_⟩) ?_ ?_
          rotate_left
          · intro w'
            go_simp
            with_reducible rfl
          rotate_left
          · simp only [Act.put, List.setIfInBounds_toArray, List.set_cons_zero, List.set_cons_succ, i64_w, i32_w]
            rfl
          refine pure_ (i := 16) (N := some 89) (v := ?_) (a' := ?_) #[true, true, true, true, true, true, true, true, true, true, true, true, true, true, true, true, true, false, false, false, false, false, false, false, false, false, false] rfl rfl (by kernel_rfl) (fun _ _ _ h => h) (Or.inl ⟨by rfl, ?_⟩) ?_ ?_
          rotate_left
          · intro w'
            go_simp
            with_reducible rfl
          rotate_left
          · simp only [Act.put, List.setIfInBounds_toArray, List.set_cons_zero, List.set_cons_succ, i64_w, i32_w]
            rfl
          refine pure_ (i := 17) (N := some 90) (v := ?_) (a' := ?_) #[true, true, true, true, true, true, true, true, true, true, true, true, true, true, true, true, true, true, false, false, false, false, false, false, false, false, false] rfl rfl (by kernel_rfl) (fun _ _ _ h => h) (Or.inl ⟨by rfl, ?_⟩) ?_ ?_
          rotate_left
          · intro w'
            go_simp
            with_reducible rfl
          rotate_left
          · simp only [Act.put, List.setIfInBounds_toArray, List.set_cons_zero, List.set_cons_succ, i64_w, i32_w]
            rfl
          refine pure_ (i := 18) (N := some 91) (v := ?_) (a' := ?_) #[true, true, true, true, true, true, true, true, true, true, true, true, true, true, true, true, true, true, true, false, false, false, false, false, false, false, false] rfl rfl (by kernel_rfl) (fun _ _ _ h => h) (Or.inl ⟨by rfl, ?_⟩) ?_ ?_
          rotate_left
          · intro w'
            go_simp
            with_reducible rfl
          rotate_left
          · simp only [Act.put, List.setIfInBounds_toArray, List.set_cons_zero, List.set_cons_succ, i64_w, i32_w]
            rfl
          refine pure_ (i := 19) (N := some 92) (v := ?_) (a' := ?_) #[true, true, true, true, true, true, true, true, true, true, true, true, true, true, true, true, true, true, true, true, false, false, false, false, false, false, false] rfl rfl (by kernel_rfl) (fun _ _ _ h => h) (Or.inl ⟨by rfl, ?_⟩) ?_ ?_
          rotate_left
          · intro w'
            go_simp
            with_reducible rfl
          rotate_left
          · simp only [Act.put, List.setIfInBounds_toArray, List.set_cons_zero, List.set_cons_succ, i64_w, i32_w]
            rfl
          refine pure_ (i := 22) (N := some 95) (v := ?_) (a' := ?_) #[true, true, true, true, true, true, true, true, true, true, true, true, true, true, true, true, true, true, true, true, false, false, true, false, false, false, false] rfl rfl (by kernel_rfl) (fun _ _ _ h => h) (Or.inl ⟨by rfl, ?_⟩) ?_ ?_
          rotate_left
          · intro w'
            go_simp
            with_reducible rfl
          rotate_left
          · simp only [Act.put, List.setIfInBounds_toArray, List.set_cons_zero, List.set_cons_succ, i64_w, i32_w]
            rfl
          refine take_ (i := 20) (N := some 93) (v := ?_) (a' := ?_) #[true, true, true, true, true, true, true, true, true, true, true, true, true, true, true, true, true, true, true, true, true, false, true, false, false, false, false] rfl rfl (by kernel_rfl) (fun _ _ _ h => h) (Or.inl ⟨by rfl, ?_⟩) hHeld ?_ ?_
          rotate_left
          · rintro w' ⟨s0, s1, s2, s3, s4, s5, s6, s7, s8, s9, s10, s11, s12, s13, s14⟩
            go_simp
            with_reducible rfl
          rotate_left
          · simp only [Act.put, List.setIfInBounds_toArray, List.set_cons_zero, List.set_cons_succ, i64_w, i32_w]
            rfl
          refine take_ (i := 23) (N := some 96) (v := ?_) (a' := ?_) #[true, true, true, true, true, true, true, true, true, true, true, true, true, true, true, true, true, true, true, true, true, false, true, true, false, false, false] rfl rfl (by kernel_rfl) (fun _ _ _ h => h) (Or.inl ⟨by rfl, ?_⟩) hHeld ?_ ?_
          rotate_left
          · rintro w' ⟨s0, s1, s2, s3, s4, s5, s6, s7, s8, s9, s10, s11, s12, s13, s14⟩
            go_simp
            with_reducible rfl
          rotate_left
          · simp only [Act.put, List.setIfInBounds_toArray, List.set_cons_zero, List.set_cons_succ, i64_w, i32_w]
            rfl
          refine one_ (i := 21) (N := some 94) #[true, true, true, true, true, true, true, true, true, true, true, true, true, true, true, true, true, true, true, true, true, true, true, true, false, false, false] rfl rfl (by kernel_rfl) (by decide) (fun K hK => ?_)
          refine goes_ Tryz.func17 (by kernel_rfl) rfl #[.agg #[.int .i64 s.f0, .int .i64 s.f1, .string s.f2, .slice R3 s.f3.length r3, .slice R4 s.f4.length r4, .slice R5 s.f5.length r5]] (by rfl) rfl rfl (by simp only [List.map_toArray, List.map_cons, List.map_nil]; rfl) ?_
          with_reducible refine ((HSU2.out _ (SPN.bel hHeld.2.2.2.2.2.2.2.2.2.2.2.2.2.2))).mono ?_
          rintro e wz ⟨Q3, k3, Q4, k4, Q5, k5, rfl, hM, hb1⟩
          refine ⟨_, rfl, ?_⟩
          have hzA := SPN.below hHeld.2.2.2.2.2.2.2.2.2.2.2.2.2.1 hb1
          have hzR := SPN.below hHeld.2.2.2.2.2.2.2.2.2.2.2.2.2.2 hb1
          have HGV := Lib.hid (given_any wz s s HWS.out.1 HWS.out.1 (k26.K_of_M hM) (k26.K_below (SPN.bel hzR) HKS.out) wz (Below.refl _ _))
          simp only [vl, rv] at HGV
          rw [show (cmpV s s == 0) = true by rw [cmpV_self]; rfl] at HGV
          clear hM
          refine hK.out _ _ ⟨((six_cells ((hzA.1).get 0 rfl)).1), ((six_cells ((hzA.1).get 0 rfl)).2.1), ((six_cells ((hzA.1).get 0 rfl)).2.2.1), ((six_cells ((hzA.1).get 0 rfl)).2.2.2.1), ((six_cells ((hzA.1).get 0 rfl)).2.2.2.2.1), ((six_cells ((hzA.1).get 0 rfl)).2.2.2.2.2.1), ((sev_cells ((hzR.1).get 0 rfl)).1), ((sev_cells ((hzR.1).get 0 rfl)).2.1), ((sev_cells ((hzR.1).get 0 rfl)).2.2.1), ((sev_cells ((hzR.1).get 0 rfl)).2.2.2.1), ((sev_cells ((hzR.1).get 0 rfl)).2.2.2.2.1), ((sev_cells ((hzR.1).get 0 rfl)).2.2.2.2.2.1), ((sev_cells ((hzR.1).get 0 rfl)).2.2.2.2.2.2.1), hzA, hzR⟩ (fun hHeld => ?_)
          clear hK K
          refine norm_ (a' := ?_) ?_ ?_
          rotate_left
          · show Act.put _ (some 94) _ = _
            simp only [Act.put, List.setIfInBounds_toArray, List.set_cons_zero, List.set_cons_succ, i64_w, i32_w]
            rfl
          refine one_ (i := 24) (N := some 97) #[true, true, true, true, true, true, true, true, true, true, true, true, true, true, true, true, true, true, true, true, true, true, true, true, true, false, false] rfl rfl (by kernel_rfl) (by decide) (fun K hK => ?_)
          refine goes_ Tryz.func18 (by kernel_rfl) rfl #[.agg #[.int .i64 s.f0, .int .i64 s.f1, .string s.f2, .slice Q3 s.f3.length k3, .slice Q4 s.f4.length k4, .slice Q5 s.f5.length k5, .int .i64 0], .agg #[.int .i64 s.f0, .int .i64 s.f1, .string s.f2, .slice R3 s.f3.length r3, .slice R4 s.f4.length r4, .slice R5 s.f5.length r5]] (by rfl) rfl rfl (by simp only [List.map_toArray, List.map_cons, List.map_nil]; rfl) ?_
          with_reducible refine (HGV.out).mono ?_
          rintro e wy ⟨rfl, hb2⟩
          refine ⟨_, rfl, ?_⟩
          have hyA := SPN.below hHeld.2.2.2.2.2.2.2.2.2.2.2.2.2.1 hb2
          have hyR := SPN.below hHeld.2.2.2.2.2.2.2.2.2.2.2.2.2.2 hb2
          refine hK.out _ _ ⟨((six_cells ((hyA.1).get 0 rfl)).1), ((six_cells ((hyA.1).get 0 rfl)).2.1), ((six_cells ((hyA.1).get 0 rfl)).2.2.1), ((six_cells ((hyA.1).get 0 rfl)).2.2.2.1), ((six_cells ((hyA.1).get 0 rfl)).2.2.2.2.1), ((six_cells ((hyA.1).get 0 rfl)).2.2.2.2.2.1), ((sev_cells ((hyR.1).get 0 rfl)).1), ((sev_cells ((hyR.1).get 0 rfl)).2.1), ((sev_cells ((hyR.1).get 0 rfl)).2.2.1), ((sev_cells ((hyR.1).get 0 rfl)).2.2.2.1), ((sev_cells ((hyR.1).get 0 rfl)).2.2.2.2.1), ((sev_cells ((hyR.1).get 0 rfl)).2.2.2.2.2.1), ((sev_cells ((hyR.1).get 0 rfl)).2.2.2.2.2.2.1), hyA, hyR⟩ (fun hHeld => ?_)
          clear hK K
          refine norm_ (a' := ?_) ?_ ?_
          rotate_left
          · show Act.put _ (some 97) _ = _
            simp only [Act.put, List.setIfInBounds_toArray, List.set_cons_zero, List.set_cons_succ, i64_w, i32_w]
            rfl
          refine pure_ (i := 25) (N := some 98) (v := ?_) (a' := ?_) #[true, true, true, true, true, true, true, true, true, true, true, true, true, true, true, true, true, true, true, true, true, true, true, true, true, true, false] rfl rfl (by kernel_rfl) (fun _ _ _ h => h) (Or.inl ⟨by rfl, ?_⟩) ?_ ?_
          rotate_left
          · intro w'
            go_simp
            with_reducible rfl
          rotate_left
          · simp only [Act.put, List.setIfInBounds_toArray, List.set_cons_zero, List.set_cons_succ, i64_w, i32_w]
            rfl
          refine pure_ (i := 26) (N := some 4) (v := ?_) (a' := ?_) #[true, true, true, true, true, true, true, true, true, true, true, true, true, true, true, true, true, true, true, true, true, true, true, true, true, true, true] rfl rfl (by kernel_rfl) (fun _ _ _ h => h) (Or.inl ⟨by rfl, ?_⟩) ?_ ?_
          rotate_left
          · intro w'
            go_simp
            with_reducible rfl
          rotate_left
          · simp only [Act.put, List.setIfInBounds_toArray, List.set_cons_zero, List.set_cons_succ, i64_w, i32_w]
            rfl
          refine done_ (by kernel_rfl) ?_
          go_wp2_with fail
          go_ret
          exact ⟨rfl, hyA.1.1⟩
theorem fnSortRises_any (w0 : World) (hE : Env w0) (xa : V) (hza : Sz xa) (Ka Ha : Int) (sa : ByteArray) (A3a A4a A5a : Option Addr) (n3a c3a n4a c4a n5a c5a : Nat) (hKa : k26.K w0 xa [.int .i64 Ka, .int .i64 Ha, .string sa, .slice A3a n3a c3a, .slice A4a n4a c4a, .slice A5a n5a c5a]) (xb : V) (hzb : Sz xb) (Kb Hb : Int) (sb : ByteArray) (A3b A4b A5b : Option Addr) (n3b c3b n4b c4b n5b c5b : Nat) (hKb : k26.K w0 xb [.int .i64 Kb, .int .i64 Hb, .string sb, .slice A3b n3b c3b, .slice A4b n4b c4b, .slice A5b n5b c5b]) :
    Calls Tryz.prog 4 #[.agg #[.int .i64 Ka, .int .i64 Ha, .string sa, .slice A3a n3a c3a, .slice A4a n4a c4a, .slice A5a n5a c5a], .agg #[.int .i64 Kb, .int .i64 Hb, .string sb, .slice A3b n3b c3b, .slice A4b n4b c4b, .slice A5b n5b c5b]] w0 fun e w' => e = .returned (.bool true) ∧ Below w0.heap.size w0 w' := by
  have hKa' := hKa
  obtain ⟨_, _, _, _, _, _, hea, _⟩ := k26_open hKa
  simp only [List.cons.injEq, Value.int.injEq, Value.string.injEq, Value.slice.injEq, true_and, and_true] at hea
  obtain ⟨rfl, rfl, rfl, ⟨rfl, rfl, rfl⟩, ⟨rfl, rfl, rfl⟩, ⟨rfl, rfl, rfl⟩⟩ := hea
  have hKb' := hKb
  obtain ⟨_, _, _, _, _, _, heb, _⟩ := k26_open hKb
  simp only [List.cons.injEq, Value.int.injEq, Value.string.injEq, Value.slice.injEq, true_and, and_true] at heb
  obtain ⟨rfl, rfl, rfl, ⟨rfl, rfl, rfl⟩, ⟨rfl, rfl, rfl⟩, ⟨rfl, rfl, rfl⟩⟩ := heb
  exact core_rises w0 hE xa hza _ _ _ _ _ _ hKa' xb hzb _ _ _ _ _ _ hKb'
end Go.Proofs.YtbnfeicpjmfooaaGreatDoor.ValA
