/-
FnSubLists: of an array less another one there stays, in order, every element that the other one has not.
-/
import Derived.Test.YtcoahpcjhhnkkaaGreatDoorMS
import Derived.Test.YtcoahpcjhhnkkaaGreatDoorMI
set_option linter.unusedSimpArgs false
set_option linter.unusedVariables false
namespace Go.Proofs.YtcoahpcjhhnkkaaGreatDoor.ValA
open Go.RowKit Go.Lib Go.Proofs.YtcoahpcjhhnkkaaGreatDoorW.PrintWords Go.Proofs.YtcoahpcjhhnkkaaGreatDoorW.PrintLast Go.Proofs.YtcoahpcjhhnkkaaGreatDoorW.PrintMore Go.Proofs.YtcoahpcjhhnkkaaGreatDoor.PzzFits1 Go.Proofs.YtcoahpcjhhnkkaaGreatDoor.NumA
attribute [local go_sem] run_val
theorem sp_nil (w : World) : SPN w [] w := ⟨SPL.nil w, List.nodup_nil, fun p hp => by cases hp⟩
theorem SPN.bel {w w1 : World} {L : List (Nat × Array Value × TypeId)} (h : SPN w L w1) : Below w.heap.size w w1 := h.1.1
theorem SPN.gt {w w1 : World} {L : List (Nat × Array Value × TypeId)} (h : SPN w L w1) (i : Nat) {p : Nat × Array Value × TypeId} (hp : L[i]? = some p) : w1.heap[p.1]? = some (.cells p.2.1 p.2.2 (0, 0)) := h.1.get i hp
theorem SPN.hd {w w1 : World} {p : Nat × Array Value × TypeId} {L : List (Nat × Array Value × TypeId)} (h : SPN w (p :: L) w1) : SPN w [p] w1 :=
  ⟨⟨h.1.1, fun x hx => h.1.2 x (by rw [List.mem_singleton.1 hx]; exact List.mem_cons_self)⟩, by simp, fun x hx => h.2.2 x (by rw [List.mem_singleton.1 hx]; exact List.mem_cons_self)⟩
theorem SPN.hd2 {w w1 : World} {p q r : Nat × Array Value × TypeId} (h : SPN w [p, q, r] w1) : SPN w [p, q] w1 :=
  ⟨⟨h.1.1, fun x hx => h.1.2 x (by rcases List.mem_cons.1 hx with rfl | hx; exact List.mem_cons_self; rw [List.mem_singleton.1 hx]; exact List.mem_cons_of_mem _ List.mem_cons_self)⟩, h.2.1.sublist (by simp), fun x hx => h.2.2 x (by rcases List.mem_cons.1 hx with rfl | hx; exact List.mem_cons_self; rw [List.mem_singleton.1 hx]; exact List.mem_cons_of_mem _ List.mem_cons_self)⟩
theorem ms_eq {k q n : Nat} (h : k + q = n ∧ q < n) : k - 1 + (q + 1) = n := by omega
theorem ms_lt {k q n : Nat} (h : k + q = n ∧ q < n) : k - 1 < k := by omega
theorem w_succ {q n : Nat} (h : q < n) (hn : n ≤ 1000001) : wrap64 ((q : Int) + 1) = ((q + 1 : Nat) : Int) := by unfold wrap64; omega
theorem among_take {l : List V} {x y : V} {q : Nat} (hq : q < l.length) (hy : y = rd_T26 l q) : amongV (l.take (q + 1)) x = (amongV (l.take q) x || cmpV x y == 0) := by
  unfold amongV
  rw [List.take_add_one, rd_at l q hq, List.any_append, hy]
  simp
theorem sub_at {l l' : List V} {j : Nat} (hj : j < l.length) (h : amongV l' (rd_T26 l j) = false) : (subL (l.take j) l').length < (subL l l').length ∧ (subL l l')[(subL (l.take j) l').length]? = some (rd_T26 l j) := by
  have e : subL l l' = subL (l.take (j + 1)) l' ++ subL (l.drop (j + 1)) l' := by unfold subL; rw [← List.filter_append, List.take_append_drop]
  have e2 : subL (l.take (j + 1)) l' = subL (l.take j) l' ++ [rd_T26 l j] := by rw [sub_take hj, if_neg (by rw [h]; simp)]
  have hlen := congrArg List.length e2
  rw [List.length_append, List.length_singleton] at hlen
  refine ⟨by rw [e, List.length_append]; omega, ?_⟩
  rw [e, List.getElem?_append_left (by omega), e2, List.getElem?_append_right (Nat.le_refl _), Nat.sub_self]
  rfl
set_option maxRecDepth 100000 in
set_option maxHeartbeats 20000000 in
theorem core_sub (w0 : World) (hE : Env w0) (a : V) (hza : Sz a) (A3a A4a A5a : Option Addr) (a3a a4a a5a : Nat) (hKa : k26.K w0 a [.int .i64 a.f0, .int .i64 a.f1, .string a.f2, .slice A3a a.f3.length a3a, .slice A4a a.f4.length a4a, .slice A5a a.f5.length a5a]) (b : V) (hzb : Sz b) (A3b A4b A5b : Option Addr) (a3b a4b a5b : Nat) (hKb : k26.K w0 b [.int .i64 b.f0, .int .i64 b.f1, .string b.f2, .slice A3b b.f3.length a3b, .slice A4b b.f4.length a4b, .slice A5b b.f5.length a5b]) :
    Calls Tryz.prog 10 #[.agg #[.int .i64 a.f0, .int .i64 a.f1, .string a.f2, .slice A3a a.f3.length a3a, .slice A4a a.f4.length a4a, .slice A5a a.f5.length a5a], .agg #[.int .i64 b.f0, .int .i64 b.f1, .string b.f2, .slice A3b b.f3.length a3b, .slice A4b b.f4.length a4b, .slice A5b b.f5.length a5b]] w0 fun e w' => e = .returned (.bool true) ∧ Below w0.heap.size w0 w' := by
  obtain ⟨w, hw⟩ : ∃ w, w = w0 := ⟨_, rfl⟩
  obtain ⟨_, _, _, _, _, _, hea, _, ga, _, _, _, _⟩ := k26_open hKa
  simp only [List.cons.injEq, Value.int.injEq, Value.string.injEq, Value.slice.injEq, true_and, and_true] at hea
  obtain ⟨⟨rfl, rfl⟩, ⟨rfl, rfl⟩, ⟨rfl, rfl⟩⟩ := hea
  obtain ⟨_, _, _, _, _, _, heb, _, gb, _, _, _, _⟩ := k26_open hKb
  simp only [List.cons.injEq, Value.int.injEq, Value.string.injEq, Value.slice.injEq, true_and, and_true] at heb
  obtain ⟨⟨rfl, rfl⟩, ⟨rfl, rfl⟩, ⟨rfl, rfl⟩⟩ := heb
  have HG := Lib.hid (And.intro ga gb)
  have HFA := Lib.hid (fun w1 hb => fits1_any w0 a _ _ _ _ _ _ _ _ _ _ _ _ hKa w1 hb)
  have HFB := Lib.hid (fun w1 hb => fits1_any w0 b _ _ _ _ _ _ _ _ _ _ _ _ hKb w1 hb)
  have HFI := Lib.hid (fun w1 hb => fit_two w0 hE a hza _ _ _ _ _ _ _ _ _ _ _ _ hKa b hzb _ _ _ _ _ _ _ _ _ _ _ _ hKb w1 hb)
  have HTA := Lib.hid (fun h => toGo_any w0 _ a (Nat.lt_succ_self _) hza h _ hKa)
  have HTB := Lib.hid (fun h => toGo_any w0 _ b (Nat.lt_succ_self _) hzb h _ hKb)
  have HS := Lib.hid (And.intro hza hzb)
  clear hE hza hzb hKa hKb ga gb
  subst hw
  go_enter Tryz.func10, Tryz.ntmps10
  go_wp2_with fail
  obtain ⟨A, hA⟩ : ∃ A, A = w.heap.size := ⟨_, rfl⟩
  obtain ⟨B, hB⟩ : ∃ B, B = w.heap.size + 1 := ⟨_, rfl⟩
  obtain ⟨W0, hW0⟩ : ∃ W0, W0 = (w.alloc (.cells #[.int .i64 a.f0, .int .i64 a.f1, .string a.f2, .slice A3a a.f3.length a3a, .slice A4a a.f4.length a4a, .slice A5a a.f5.length a5a] 26)).alloc (.cells #[.int .i64 b.f0, .int .i64 b.f1, .string b.f2, .slice A3b b.f3.length a3b, .slice A4b b.f4.length a4b, .slice A5b b.f5.length a5b] 26) := ⟨_, rfl⟩
  have hS : SPN w [(A, #[.int .i64 a.f0, .int .i64 a.f1, .string a.f2, .slice A3a a.f3.length a3a, .slice A4a a.f4.length a4a, .slice A5a a.f5.length a5a], 26), (B, #[.int .i64 b.f0, .int .i64 b.f1, .string b.f2, .slice A3b b.f3.length a3b, .slice A4b b.f4.length a4b, .slice A5b b.f5.length a5b], 26)] W0 := by
    have h := ((sp_nil w).more #[.int .i64 a.f0, .int .i64 a.f1, .string a.f2, .slice A3a a.f3.length a3a, .slice A4a a.f4.length a4a, .slice A5a a.f5.length a5a] 26).more #[.int .i64 b.f0, .int .i64 b.f1, .string b.f2, .slice A3b b.f3.length a3b, .slice A4b b.f4.length a4b, .slice A5b b.f5.length a5b] 26
    rw [World.size_alloc] at h
    rw [hA, hB, hW0]
    exact h
  rw [← hW0]
  try rw [← hB]
  try rw [← hA]
  have H0 := Lib.hid hS
  clear hS hW0 hA hB
  refine (HFA.out W0 H0.out.1.1).mono ?_
  rintro e w1 ⟨r, rfl, hr, hb⟩
  have H1 := Lib.hid (SPN.below H0.out hb)
  clear hb hr HFA H0
  cases r with
  | false =>
    go_wp2_with fail
    go_ret
    exact ⟨rfl, H1.out.1.1⟩
  | true =>
  have y := six_cells (H1.out.1.get 1 rfl)
  go_wp2_with fail
  refine (HFB.out w1 H1.out.1.1).mono ?_
  rintro e w2 ⟨r, rfl, hr, hb⟩
  have H2 := Lib.hid (SPN.below H1.out hb)
  clear hb hr HFB H1 y
  cases r with
  | false =>
    go_wp2_with fail
    go_ret
    exact ⟨rfl, H2.out.1.1⟩
  | true =>
  have ya := six_cells (H2.out.1.get 0 rfl)
  have yb := six_cells (H2.out.1.get 1 rfl)
  go_wp2_with fail
  refine (HFI.out _ H2.out.1.1).mono ?_
  rintro e w3 ⟨r, rfl, hr, hb⟩
  have H3 := Lib.hid (SPN.below H2.out hb)
  clear hb H2 HFI ya yb
  cases r with
  | false =>
    go_wp2_with fail
    go_ret
    exact ⟨rfl, H3.out.1.1⟩
  | true =>
  have HW := Lib.hid (hr (by trivial))
  clear hr
  have HWA := Lib.hid (loose HW.out.1)
  have HWB := Lib.hid (loose HW.out.2)
  have ya := six_cells (H3.out.1.get 0 rfl)
  have yb := six_cells (H3.out.1.get 1 rfl)
  cases ka : (a.f0 != 5) with
  | true =>
    go_wp2_with fail
    go_ret
    exact ⟨rfl, H3.out.1.1⟩
  | false =>
  cases kb : (b.f0 != 5) with
  | true =>
    go_wp2_with fail
    go_ret
    exact ⟨rfl, H3.out.1.1⟩
  | false =>
  obtain ⟨s, hs⟩ : ∃ s, s = lV (subL a.f3 b.f3) := ⟨_, rfl⟩
  have HSE : Hid (s.f3 = subL a.f3 b.f3) := Lib.hid (by rw [hs]; rfl)
  have HN : Hid (a.f3.length ≤ 1000000 ∧ b.f3.length ≤ 1000000) := Lib.hid ⟨by cases HWA.out; assumption, by cases HWB.out; assumption⟩
  have HEL : Hid ((∀ y ∈ a.f3, WL y ∧ Sz y) ∧ ∀ y ∈ b.f3, WL y ∧ Sz y) := Lib.hid (by
    obtain ⟨_, _, _, _, _, _, w3, _⟩ := HWA.out
    obtain ⟨_, _, _, _, _, _, v3, _⟩ := HWB.out
    obtain ⟨_, _, _, z3, _⟩ := HS.out.1
    obtain ⟨_, _, _, y3, _⟩ := HS.out.2
    exact ⟨fun y hy => ⟨w3 y hy, z3 y hy⟩, fun y hy => ⟨v3 y hy, y3 y hy⟩⟩)
  have HSU := Lib.hid (fun w1 hb => impl_OpSub w a b s _ _ _ _ _ _ _ _ _ _ _ _ _ _ _ _ _ _ _ _ _ _ _ _ (HTA.out HWA.out) (HTB.out HWB.out) (fun g h n m w hg hh => by rw [hs]; exact zz_sub_lists HWA.out HS.out.1 HWB.out HS.out.2 (by simpa using ka) (by simpa using kb) hg hh) w1 hb)
  clear hs HTA HTB
  go_wp2_with fail
  refine (HSU.out _ H3.out.1.1).mono ?_
  rintro e w4 ⟨R3, r3, R4, r4, R5, r5, rfl, hM, hb⟩
  have hKS := k26.K_of_M hM
  obtain ⟨_, _, _, _, _, _, hes, _, gs, _, _, _, _⟩ := k26_open hKS
  simp only [List.cons.injEq, Value.int.injEq, Value.string.injEq, Value.slice.injEq, true_and, and_true] at hes
  obtain ⟨⟨rfl, rfl⟩, ⟨rfl, rfl⟩, ⟨rfl, rfl⟩⟩ := hes
  have HGS := Lib.hid gs
  have H4 := Lib.hid (SPN.below H3.out hb)
  clear hb hM hKS gs ya yb HSU H3 ka kb
  have ya := six_cells (H4.out.1.get 0 rfl)
  have yb := six_cells (H4.out.1.get 1 rfl)
  have hla : A < w4.heap.size := lt_of_heap (H4.out.1.get 0 rfl)
  have hlb : B < w4.heap.size := lt_of_heap (H4.out.1.get 1 rfl)
  go_wp2_with fail
  obtain ⟨R, hR⟩ : ∃ R, R = w4.heap.size := ⟨_, rfl⟩
  obtain ⟨W5, hW5⟩ : ∃ W5, W5 = w4.alloc (.cells #[.int .i64 s.f0, .int .i64 s.f1, .string s.f2, .slice R3 s.f3.length r3, .slice R4 s.f4.length r4, .slice R5 s.f5.length r5, .int .i64 0] 36) := ⟨_, rfl⟩
  have hS5 : SPN w4 [(R, #[.int .i64 s.f0, .int .i64 s.f1, .string s.f2, .slice R3 s.f3.length r3, .slice R4 s.f4.length r4, .slice R5 s.f5.length r5, .int .i64 0], 36)] W5 := by rw [hR, hW5]; exact (sp_nil w4).more _ _
  rw [← hW5]
  try rw [← hR]
  have H5 := Lib.hid hS5
  clear hS5 hW5 hR ya yb hla hlb
  go_loopg [6, 40] a.f3.length (fun k t i wr => ∃ j : Nat, i = .int .i64 j ∧ k + j = a.f3.length ∧ SPN w4 [(R, #[.int .i64 s.f0, .int .i64 s.f1, .string s.f2, .slice R3 s.f3.length r3, .slice R4 s.f4.length r4, .slice R5 s.f5.length r5, .int .i64 0], 36)] wr ∧ t = .int .i64 ((subL (a.f3.take j) b.f3).length : Nat))
  case atStart => exact ⟨0, rfl, by omega, H5.out, by simp [subL]⟩
  case round =>
    obtain ⟨j, rfl, hkj, hbr, rfl⟩ := hrel
    have HAB := Lib.hid (SPN.below H4.out hbr.1.1)
    obtain ⟨t, ht⟩ : ∃ t, t = (subL (a.f3.take j) b.f3).length := ⟨_, rfl⟩
    rw [← ht]
    have HTT := Lib.hid ht
    clear ht
    by_cases hlt : j < a.f3.length
    · obtain ⟨ad, B3, d3, B4, d4, B5, d5, rfl, x0, x1, x2, x3, x4, x5, hKx⟩ := elem_at HG.out.1 HAB.out.1.1 j hlt
      obtain ⟨x, hx⟩ : ∃ x, x = rd_T26 a.f3 j := ⟨_, rfl⟩
      rw [← hx] at x0 x1 x2 x3 x4 x5 hKx
      have HX := Lib.hid (And.intro hx (And.intro (HEL.out.1 x (by rw [hx]; exact rd_mem a.f3 j hlt)) hKx))
      have HR := Lib.hid (And.intro hbr (And.intro hkj hlt))
      have hlt2 : (j : Int) < (a.f3.length : Int) := by omega
      have yb := six_cells (HAB.out.1.get 1 rfl)
      have hlb : B < wr.heap.size := lt_of_heap (HAB.out.1.get 1 rfl)
      clear hx hKx hkj hlt hbr
      go_wp2_with fail
      obtain ⟨X, hX⟩ : ∃ X, X = wr.heap.size := ⟨_, rfl⟩
      obtain ⟨W6, hW6⟩ : ∃ W6, W6 = wr.alloc (.cells #[.int .i64 x.f0, .int .i64 x.f1, .string x.f2, .slice B3 x.f3.length d3, .slice B4 x.f4.length d4, .slice B5 x.f5.length d5] 26) := ⟨_, rfl⟩
      have hS6 : SPN w4 [(R, #[.int .i64 s.f0, .int .i64 s.f1, .string s.f2, .slice R3 s.f3.length r3, .slice R4 s.f4.length r4, .slice R5 s.f5.length r5, .int .i64 0], 36), (X, #[.int .i64 x.f0, .int .i64 x.f1, .string x.f2, .slice B3 x.f3.length d3, .slice B4 x.f4.length d4, .slice B5 x.f5.length d5], 26)] W6 := by rw [hX, hW6]; exact HR.out.1.more _ _
      rw [← hW6]
      try rw [← hX]
      have H6 := Lib.hid hS6
      clear hS6 hW6 hX x0 x1 x2 x3 x4 x5 yb hlb
      obtain ⟨wo, rfl⟩ : ∃ wo, wo = wr := ⟨_, rfl⟩
      obtain ⟨ko, rfl⟩ : ∃ ko, ko = gk := ⟨_, rfl⟩
      go_loopg [9, 47] b.f3.length (fun k g i w2 => ∃ q : Nat, i = .int .i64 q ∧ k + q = b.f3.length ∧ SPN w4 [(R, #[.int .i64 s.f0, .int .i64 s.f1, .string s.f2, .slice R3 s.f3.length r3, .slice R4 s.f4.length r4, .slice R5 s.f5.length r5, .int .i64 0], 36), (X, #[.int .i64 x.f0, .int .i64 x.f1, .string x.f2, .slice B3 x.f3.length d3, .slice B4 x.f4.length d4, .slice B5 x.f5.length d5], 26)] w2 ∧ g = .bool (amongV (b.f3.take q) x))
      case atStart => exact ⟨0, rfl, by omega, H6.out, by simp [amongV]⟩
      case round =>
        obtain ⟨q, rfl, hkq, hb2, rfl⟩ := hrel
        have HAB2 := Lib.hid (SPN.below H4.out hb2.1.1)
        by_cases hlt : q < b.f3.length
        · obtain ⟨ad2, C3, e3, C4, e4, C5, e5, rfl, y0, y1, y2, y3, y4, y5, hKy⟩ := elem_at HG.out.2 HAB2.out.1.1 q hlt
          obtain ⟨y, hy⟩ : ∃ y, y = rd_T26 b.f3 q := ⟨_, rfl⟩
          rw [← hy] at y0 y1 y2 y3 y4 y5 hKy
          have HWY := Lib.hid (HEL.out.2 y (by rw [hy]; exact rd_mem b.f3 q hlt))
          obtain ⟨bv, hbv⟩ : ∃ bv, bv = amongV (b.f3.take q) x := ⟨_, rfl⟩
          rw [← hbv]
          have HJ : Hid (amongV (b.f3.take (q + 1)) x = (bv || cmpV x y == 0)) := Lib.hid (by rw [hbv]; exact among_take hlt hy)
          have HR2 := Lib.hid (And.intro hb2 (And.intro hkq hlt))
          have HSA := Lib.hid (fun w1 hb => same_any w x y HX.out.2.1.1 HWY.out.1 HX.out.2.2 hKy w1 hb)
          simp only [vl] at HSA
          have hlt2 : (q : Int) < (b.f3.length : Int) := by omega
          have yx := six_cells (hb2.1.get 1 rfl)
          have hlx : X < wr.heap.size := lt_of_heap (hb2.1.get 1 rfl)
          clear hy hbv hKy hkq hlt hb2
          cases bv with
          | true =>
            have HQ : Hid (amongV (b.f3.take (q + 1)) x = true) := Lib.hid (by rw [HJ.out]; rfl)
            go_wp2_with fail
            go_roundg (gk - 1)
            case measure => exact ms_lt HR2.out.2
            case rel =>
              have hw : wrap64 ((q : Int) + 1) = ((q + 1 : Nat) : Int) := w_succ HR2.out.2.2 (Nat.le_succ_of_le HN.out.2)
              try rw [hw]
              exact ⟨q + 1, rfl, ms_eq HR2.out.2, SPN.hd2 (HR2.out.1.more _ _), by rw [HQ.out]⟩
          | false =>
            obtain ⟨bz, hbz⟩ : ∃ bz, bz = (cmpV x y == 0) := ⟨_, rfl⟩
            rw [← hbz] at HSA
            have HQ : Hid (amongV (b.f3.take (q + 1)) x = bz) := Lib.hid (by rw [HJ.out, hbz]; rfl)
            clear hbz
            go_wp2_with fail
            refine (HSA.out _ (HAB2.out.1.1.alloc HAB2.out.1.1.size _)).mono ?_
            rintro e w8 ⟨rfl, hb⟩
            have H8 := Lib.hid (SPN.below (SPN.hd2 (HR2.out.1.more #[.int .i64 y.f0, .int .i64 y.f1, .string y.f2, .slice C3 y.f3.length e3, .slice C4 y.f4.length e4, .slice C5 y.f5.length e5] 26)) hb)
            clear hb
            go_wp2_with fail
            go_roundg (gk - 1)
            case measure => exact ms_lt HR2.out.2
            case rel =>
              have hw : wrap64 ((q : Int) + 1) = ((q + 1 : Nat) : Int) := w_succ HR2.out.2.2 (Nat.le_succ_of_le HN.out.2)
              try rw [hw]
              exact ⟨q + 1, rfl, ms_eq HR2.out.2, H8.out, by rw [HQ.out]⟩
        · have q2 : ¬ (q : Int) < (b.f3.length : Int) := by omega
          have q4 : decide ((q : Int) < (b.f3.length : Int)) = false := decide_eq_false q2
          have q5 : decide (q < b.f3.length) = false := decide_eq_false hlt
          obtain ⟨bv, hbv⟩ : ∃ bv, bv = amongV b.f3 x := ⟨_, rfl⟩
          rw [List.take_of_length_le (by omega), ← hbv]
          have HBV := Lib.hid hbv
          have HP := Lib.hid hb2
          clear hbv hb2 hkq hlt q2
          cases bv with
          | true =>
            have HQ : Hid ((subL (a.f3.take (j + 1)) b.f3).length = t) := Lib.hid (by rw [sub_take HR.out.2.2, ← HX.out.1, if_pos HBV.out.symm, HTT.out])
            go_wp2_with fail
            go_roundg (ko - 1)
            case measure => exact ms_lt HR.out.2
            case rel =>
              have hw : wrap64 ((j : Int) + 1) = ((j + 1 : Nat) : Int) := w_succ HR.out.2.2 (Nat.le_succ_of_le HN.out.1)
              try rw [hw]
              exact ⟨j + 1, rfl, ms_eq HR.out.2, SPN.hd HP.out, by rw [HQ.out]⟩
          | false =>
            have hsub := sub_at (l := a.f3) (l' := b.f3) HR.out.2.2 (by rw [← HX.out.1]; exact HBV.out.symm)
            rw [← HX.out.1, ← HTT.out, ← HSE.out] at hsub
            have HQ : Hid ((subL (a.f3.take (j + 1)) b.f3).length = t + 1) := Lib.hid (by rw [sub_take HR.out.2.2, ← HX.out.1, if_neg (by rw [← HBV.out]; simp), List.length_append, List.length_singleton, HTT.out])
            obtain ⟨ad3, D3, h3, D4, h4, D5, h5, rfl, u0, u1, u2, u3, u4, u5, hKu⟩ := elem_at HGS.out (Below.refl _ w4) t hsub.1
            obtain ⟨u, hu⟩ : ∃ u, u = rd_T26 s.f3 t := ⟨_, rfl⟩
            have hux : u = x := by
              have h := rd_at s.f3 t hsub.1
              rw [hsub.2] at h
              rw [hu]
              exact (Option.some.inj h).symm
            rw [← hu] at u0 u1 u2 u3 u4 u5 hKu
            have HU := Lib.hid (And.intro u0 (And.intro u1 (And.intro u2 (And.intro u3 (And.intro u4 (And.intro u5 trivial))))))
            have HSB := Lib.hid (fun w1 hb => same_any w4 u x (by rw [hux]; exact HX.out.2.1.1) HX.out.2.1.1 hKu (k26.K_below H4.out.1.1 HX.out.2.2) w1 hb)
            simp only [vl] at HSB
            rw [show (cmpV u x == 0) = true by rw [hux, cmpV_self]; rfl] at HSB
            have hlt5 : (t : Int) < (s.f3.length : Int) := by have := hsub.1; omega
            have hge : decide ((t : Int) ≥ (s.f3.length : Int)) = false := decide_eq_false (by omega)
            have hge2 : decide ((s.f3.length : Int) ≤ (t : Int)) = false := decide_eq_false (by omega)
            have hge3 : decide (s.f3.length ≤ t) = false := decide_eq_false (by omega)
            have hge4 : (t ≥ s.f3.length) = False := eq_false (by omega)
            have HTN : Hid (t < 1000001) := Lib.hid (by have := hsub.1; rw [HSE.out] at this; have := sub_len a.f3 b.f3; have := HN.out; omega)
            clear hsub hu hux u0 u1 u2 u3 u4 u5 hKu
            go_wp2_with fail
            refine start_ (n := 17) (S := fun w' => w'.cell? ⟨R, 0, none⟩ = some (.int .i64 s.f0) ∧ w'.cell? ⟨R, 1, none⟩ = some (.int .i64 s.f1) ∧ w'.cell? ⟨R, 2, none⟩ = some (.string s.f2) ∧ w'.cell? ⟨R, 3, none⟩ = some (.slice (some ad3) s.f3.length r3) ∧ w'.cell? ⟨R, 4, none⟩ = some (.slice R4 s.f4.length r4) ∧ w'.cell? ⟨R, 5, none⟩ = some (.slice R5 s.f5.length r5) ∧ w'.cell? ⟨R, 6, none⟩ = some (.int .i64 0) ∧ w'.cell? ⟨X, 0, none⟩ = some (.int .i64 x.f0) ∧ w'.cell? ⟨X, 1, none⟩ = some (.int .i64 x.f1) ∧ w'.cell? ⟨X, 2, none⟩ = some (.string x.f2) ∧ w'.cell? ⟨X, 3, none⟩ = some (.slice B3 x.f3.length d3) ∧ w'.cell? ⟨X, 4, none⟩ = some (.slice B4 x.f4.length d4) ∧ w'.cell? ⟨X, 5, none⟩ = some (.slice B5 x.f5.length d5) ∧ w'.cell? (ad3.add (t * 6)) = some (.int .i64 u.f0) ∧ w'.cell? ⟨(ad3.add (t * 6)).block, (ad3.add (t * 6)).off + 1, none⟩ = some (.int .i64 u.f1) ∧ w'.cell? ⟨(ad3.add (t * 6)).block, (ad3.add (t * 6)).off + 2, none⟩ = some (.string u.f2) ∧ w'.cell? ⟨(ad3.add (t * 6)).block, (ad3.add (t * 6)).off + 3, none⟩ = some (.slice D3 u.f3.length h3) ∧ w'.cell? ⟨(ad3.add (t * 6)).block, (ad3.add (t * 6)).off + 4, none⟩ = some (.slice D4 u.f4.length h4) ∧ w'.cell? ⟨(ad3.add (t * 6)).block, (ad3.add (t * 6)).off + 5, none⟩ = some (.slice D5 u.f5.length h5) ∧ SPN w4 [(R, #[.int .i64 s.f0, .int .i64 s.f1, .string s.f2, .slice (some ad3) s.f3.length r3, .slice R4 s.f4.length r4, .slice R5 s.f5.length r5, .int .i64 0], 36), (X, #[.int .i64 x.f0, .int .i64 x.f1, .string x.f2, .slice B3 x.f3.length d3, .slice B4 x.f4.length d4, .slice B5 x.f5.length d5], 26)] w') (ds := []) #[false, false, false, false, false, false, false, false, false, false, false, false, false, false, false, false, false] (by kernel_rfl) rfl rfl ⟨((sev_cells (((SPN.drew HP.out).1).get 0 rfl)).1), ((sev_cells (((SPN.drew HP.out).1).get 0 rfl)).2.1), ((sev_cells (((SPN.drew HP.out).1).get 0 rfl)).2.2.1), ((sev_cells (((SPN.drew HP.out).1).get 0 rfl)).2.2.2.1), ((sev_cells (((SPN.drew HP.out).1).get 0 rfl)).2.2.2.2.1), ((sev_cells (((SPN.drew HP.out).1).get 0 rfl)).2.2.2.2.2.1), ((sev_cells (((SPN.drew HP.out).1).get 0 rfl)).2.2.2.2.2.2.1), ((six_cells (((SPN.drew HP.out).1).get 1 rfl)).1), ((six_cells (((SPN.drew HP.out).1).get 1 rfl)).2.1), ((six_cells (((SPN.drew HP.out).1).get 1 rfl)).2.2.1), ((six_cells (((SPN.drew HP.out).1).get 1 rfl)).2.2.2.1), ((six_cells (((SPN.drew HP.out).1).get 1 rfl)).2.2.2.2.1), ((six_cells (((SPN.drew HP.out).1).get 1 rfl)).2.2.2.2.2.1), (pw_cell_below (SPN.bel (SPN.drew HP.out)) HU.out.1), (pw_cell_below (SPN.bel (SPN.drew HP.out)) HU.out.2.1), (pw_cell_below (SPN.bel (SPN.drew HP.out)) HU.out.2.2.1), (pw_cell_below (SPN.bel (SPN.drew HP.out)) HU.out.2.2.2.1), (pw_cell_below (SPN.bel (SPN.drew HP.out)) HU.out.2.2.2.2.1), (pw_cell_below (SPN.bel (SPN.drew HP.out)) HU.out.2.2.2.2.2.1), (SPN.drew HP.out)⟩ (fun hHeld => ?_)
            refine pure_ (i := 0) (N := some 59) (v := ?_) (a' := ?_) #[true, false, false, false, false, false, false, false, false, false, false, false, false, false, false, false, false] rfl rfl (by kernel_rfl) (fun _ _ _ h => h) (Or.inl ⟨by rfl, ?_⟩) ?_ ?_
            rotate_left
            · intro w'
              go_simp
              with_reducible rfl
            rotate_left
            · simp only [Act.put, List.setIfInBounds_toArray, List.set_cons_zero, List.set_cons_succ, i64_w, i32_w]
              rfl
            refine pure_ (i := 1) (N := some 60) (v := ?_) (a' := ?_) #[true, true, false, false, false, false, false, false, false, false, false, false, false, false, false, false, false] rfl rfl (by kernel_rfl) (fun _ _ _ h => h) (Or.inl ⟨by rfl, ?_⟩) ?_ ?_
            rotate_left
            · intro w'
              go_simp
              with_reducible rfl
            rotate_left
            · simp only [Act.put, List.setIfInBounds_toArray, List.set_cons_zero, List.set_cons_succ, i64_w, i32_w]
              rfl
            refine pure_ (i := 2) (N := some 61) (v := ?_) (a' := ?_) #[true, true, true, false, false, false, false, false, false, false, false, false, false, false, false, false, false] rfl rfl (by kernel_rfl) (fun _ _ _ h => h) (Or.inl ⟨by rfl, ?_⟩) ?_ ?_
            rotate_left
            · intro w'
              go_simp
              with_reducible rfl
            rotate_left
            · simp only [Act.put, List.setIfInBounds_toArray, List.set_cons_zero, List.set_cons_succ, i64_w, i32_w]
              rfl
            refine take_ (i := 3) (N := some 62) (v := ?_) (a' := ?_) #[true, true, true, true, false, false, false, false, false, false, false, false, false, false, false, false, false] rfl rfl (by kernel_rfl) (fun _ _ _ h => h) (Or.inl ⟨by rfl, ?_⟩) hHeld ?_ ?_
            rotate_left
            · rintro w' ⟨s0, s1, s2, s3, s4, s5, s6, s7, s8, s9, s10, s11, s12, s13, s14, s15, s16, s17, s18, s19⟩
              go_simp
              with_reducible rfl
            rotate_left
            · simp only [Act.put, List.setIfInBounds_toArray, List.set_cons_zero, List.set_cons_succ, i64_w, i32_w]
              rfl
            refine pure_ (i := 4) (N := some 63) (v := ?_) (a' := ?_) #[true, true, true, true, true, false, false, false, false, false, false, false, false, false, false, false, false] rfl rfl (by kernel_rfl) (fun _ _ _ h => h) (Or.inl ⟨by rfl, ?_⟩) ?_ ?_
            rotate_left
            · intro w'
              go_simp
              with_reducible rfl
            rotate_left
            · simp only [Act.put, List.setIfInBounds_toArray, List.set_cons_zero, List.set_cons_succ, i64_w, i32_w]
              rfl
            refine pure_ (i := 5) (N := some 64) (v := ?_) (a' := ?_) #[true, true, true, true, true, true, false, false, false, false, false, false, false, false, false, false, false] rfl rfl (by kernel_rfl) (fun _ _ _ h => h) (Or.inl ⟨by rfl, ?_⟩) ?_ ?_
            rotate_left
            · intro w'
              go_simp
              with_reducible rfl
            rotate_left
            · simp only [Act.put, List.setIfInBounds_toArray, List.set_cons_zero, List.set_cons_succ, i64_w, i32_w]
              rfl
            refine pure_ (i := 6) (N := some 65) (v := ?_) (a' := ?_) #[true, true, true, true, true, true, true, false, false, false, false, false, false, false, false, false, false] rfl rfl (by kernel_rfl) (fun _ _ _ h => h) (Or.inl ⟨by rfl, ?_⟩) ?_ ?_
            rotate_left
            · intro w'
              go_simp
              with_reducible rfl
            rotate_left
            · simp only [Act.put, List.setIfInBounds_toArray, List.set_cons_zero, List.set_cons_succ, i64_w, i32_w]
              rfl
            refine pure_ (i := 7) (N := some 66) (v := ?_) (a' := ?_) #[true, true, true, true, true, true, true, true, false, false, false, false, false, false, false, false, false] rfl rfl (by kernel_rfl) (fun _ _ _ h => h) (Or.inl ⟨by rfl, ?_⟩) ?_ ?_
            rotate_left
            · intro w'
              go_simp
              with_reducible rfl
            rotate_left
            · simp only [Act.put, List.setIfInBounds_toArray, List.set_cons_zero, List.set_cons_succ, i64_w, i32_w]
              rfl
            refine pure_ (i := 8) (N := some 67) (v := ?_) (a' := ?_) #[true, true, true, true, true, true, true, true, true, false, false, false, false, false, false, false, false] rfl rfl (by kernel_rfl) (fun _ _ _ h => h) (Or.inl ⟨by rfl, ?_⟩) ?_ ?_
            rotate_left
            · intro w'
              go_simp
              with_reducible rfl
            rotate_left
            · simp only [Act.put, List.setIfInBounds_toArray, List.set_cons_zero, List.set_cons_succ, i64_w, i32_w]
              rfl
            refine pure_ (i := 10) (N := some 69) (v := ?_) (a' := ?_) #[true, true, true, true, true, true, true, true, true, false, true, false, false, false, false, false, false] rfl rfl (by kernel_rfl) (fun _ _ _ h => h) (Or.inl ⟨by rfl, ?_⟩) ?_ ?_
            rotate_left
            · intro w'
              go_simp
              with_reducible rfl
            rotate_left
            · simp only [Act.put, List.setIfInBounds_toArray, List.set_cons_zero, List.set_cons_succ, i64_w, i32_w]
              rfl
            refine take_ (i := 9) (N := some 68) (v := ?_) (a' := ?_) #[true, true, true, true, true, true, true, true, true, true, true, false, false, false, false, false, false] rfl rfl (by kernel_rfl) (fun _ _ _ h => h) (Or.inl ⟨by rfl, ?_⟩) hHeld ?_ ?_
            rotate_left
            · rintro w' ⟨s0, s1, s2, s3, s4, s5, s6, s7, s8, s9, s10, s11, s12, s13, s14, s15, s16, s17, s18, s19⟩
              go_simp
              with_reducible rfl
            rotate_left
            · simp only [Act.put, List.setIfInBounds_toArray, List.set_cons_zero, List.set_cons_succ, i64_w, i32_w]
              rfl
            refine pure_ (i := 11) (N := some 70) (v := ?_) (a' := ?_) #[true, true, true, true, true, true, true, true, true, true, true, true, false, false, false, false, false] rfl rfl (by kernel_rfl) (fun _ _ _ h => h) (Or.inl ⟨by rfl, ?_⟩) ?_ ?_
            rotate_left
            · intro w'
              go_simp
              with_reducible rfl
            rotate_left
            · simp only [Act.put, List.setIfInBounds_toArray, List.set_cons_zero, List.set_cons_succ, i64_w, i32_w]
              rfl
            refine take_ (i := 12) (N := some 71) (v := ?_) (a' := ?_) #[true, true, true, true, true, true, true, true, true, true, true, true, true, false, false, false, false] rfl rfl (by kernel_rfl) (fun _ _ _ h => h) (Or.inl ⟨by rfl, ?_⟩) hHeld ?_ ?_
            rotate_left
            · rintro w' ⟨s0, s1, s2, s3, s4, s5, s6, s7, s8, s9, s10, s11, s12, s13, s14, s15, s16, s17, s18, s19⟩
              go_simp
              with_reducible rfl
            rotate_left
            · simp only [Act.put, List.setIfInBounds_toArray, List.set_cons_zero, List.set_cons_succ, i64_w, i32_w]
              rfl
            refine take_ (i := 13) (N := some 72) (v := ?_) (a' := ?_) #[true, true, true, true, true, true, true, true, true, true, true, true, true, true, false, false, false] rfl rfl (by kernel_rfl) (fun _ _ _ h => h) (Or.inl ⟨by rfl, ?_⟩) hHeld ?_ ?_
            rotate_left
            · rintro w' ⟨s0, s1, s2, s3, s4, s5, s6, s7, s8, s9, s10, s11, s12, s13, s14, s15, s16, s17, s18, s19⟩
              go_simp
              with_reducible rfl
            rotate_left
            · simp only [Act.put, List.setIfInBounds_toArray, List.set_cons_zero, List.set_cons_succ, i64_w, i32_w]
              rfl
            refine one_ (i := 14) (N := some 73) #[true, true, true, true, true, true, true, true, true, true, true, true, true, true, true, false, false] rfl rfl (by kernel_rfl) (by decide) (fun K hK => ?_)
            refine goes_ Tryz.func32 (by kernel_rfl) rfl #[.agg #[.int .i64 u.f0, .int .i64 u.f1, .string u.f2, .slice D3 u.f3.length h3, .slice D4 u.f4.length h4, .slice D5 u.f5.length h5], .agg #[.int .i64 x.f0, .int .i64 x.f1, .string x.f2, .slice B3 x.f3.length d3, .slice B4 x.f4.length d4, .slice B5 x.f5.length d5]] (by rfl) rfl rfl (by simp only [List.map_toArray, List.map_cons, List.map_nil]; rfl) ?_
            with_reducible refine ((HSB.out _ (SPN.bel hHeld.2.2.2.2.2.2.2.2.2.2.2.2.2.2.2.2.2.2.2))).mono ?_
            rintro e wz ⟨rfl, hb14⟩
            refine ⟨_, rfl, ?_⟩
            have hz14 := SPN.below hHeld.2.2.2.2.2.2.2.2.2.2.2.2.2.2.2.2.2.2.2 hb14
            refine hK.out _ _ ⟨((sev_cells ((hz14.1).get 0 rfl)).1), ((sev_cells ((hz14.1).get 0 rfl)).2.1), ((sev_cells ((hz14.1).get 0 rfl)).2.2.1), ((sev_cells ((hz14.1).get 0 rfl)).2.2.2.1), ((sev_cells ((hz14.1).get 0 rfl)).2.2.2.2.1), ((sev_cells ((hz14.1).get 0 rfl)).2.2.2.2.2.1), ((sev_cells ((hz14.1).get 0 rfl)).2.2.2.2.2.2.1), ((six_cells ((hz14.1).get 1 rfl)).1), ((six_cells ((hz14.1).get 1 rfl)).2.1), ((six_cells ((hz14.1).get 1 rfl)).2.2.1), ((six_cells ((hz14.1).get 1 rfl)).2.2.2.1), ((six_cells ((hz14.1).get 1 rfl)).2.2.2.2.1), ((six_cells ((hz14.1).get 1 rfl)).2.2.2.2.2.1), (pw_cell_below (SPN.bel hz14) HU.out.1), (pw_cell_below (SPN.bel hz14) HU.out.2.1), (pw_cell_below (SPN.bel hz14) HU.out.2.2.1), (pw_cell_below (SPN.bel hz14) HU.out.2.2.2.1), (pw_cell_below (SPN.bel hz14) HU.out.2.2.2.2.1), (pw_cell_below (SPN.bel hz14) HU.out.2.2.2.2.2.1), hz14⟩ (fun hHeld => ?_)
            clear hK K
            refine norm_ (a' := ?_) ?_ ?_
            rotate_left
            · show Act.put _ (some 73) _ = _
              simp only [Act.put, List.setIfInBounds_toArray, List.set_cons_zero, List.set_cons_succ, i64_w, i32_w]
              rfl
            refine pure_ (i := 15) (N := some 74) (v := ?_) (a' := ?_) #[true, true, true, true, true, true, true, true, true, true, true, true, true, true, true, true, false] rfl rfl (by kernel_rfl) (fun _ _ _ h => h) (Or.inl ⟨by rfl, ?_⟩) ?_ ?_
            rotate_left
            · intro w'
              go_simp
              with_reducible rfl
            rotate_left
            · simp only [Act.put, List.setIfInBounds_toArray, List.set_cons_zero, List.set_cons_succ, i64_w, i32_w]
              rfl
            refine pure_ (i := 16) (N := some 75) (v := ?_) (a' := ?_) #[true, true, true, true, true, true, true, true, true, true, true, true, true, true, true, true, true] rfl rfl (by kernel_rfl) (fun _ _ _ h => h) (Or.inl ⟨by rfl, ?_⟩) ?_ ?_
            rotate_left
            · intro w'
              go_simp
              with_reducible rfl
            rotate_left
            · simp only [Act.put, List.setIfInBounds_toArray, List.set_cons_zero, List.set_cons_succ, i64_w, i32_w]
              rfl
            refine done_ (by kernel_rfl) ?_
            go_wp2_with fail
            go_roundg (ko - 1)
            case measure => exact ms_lt HR.out.2
            case rel =>
              have hw : wrap64 ((j : Int) + 1) = ((j + 1 : Nat) : Int) := w_succ HR.out.2.2 (Nat.le_succ_of_le HN.out.1)
              have hw2 : wrap64 ((t : Int) + 1) = ((t + 1 : Nat) : Int) := w_succ HTN.out (Nat.le_refl _)
              try rw [hw]
              try rw [hw2]
              exact ⟨j + 1, rfl, ms_eq HR.out.2, SPN.hd hz14, by rw [HQ.out]⟩
    · have q2 : ¬ (j : Int) < (a.f3.length : Int) := by omega
      have q4 : decide ((j : Int) < (a.f3.length : Int)) = false := decide_eq_false q2
      have q5 : decide (j < a.f3.length) = false := decide_eq_false hlt
      have hts : t = s.f3.length := by rw [HTT.out, List.take_of_length_le (by omega), HSE.out]
      subst hts
      have HR := Lib.hid hbr
      have yr := sev_cells (hbr.1.get 0 rfl)
      have hee : ((s.f3.length : Int) == (s.f3.length : Int)) = true := by simp
      clear hbr hkj hlt q2
      go_wp2_with fail
      go_ret
      exact ⟨by simp, HAB.out.1.1⟩
theorem fnSubLists_any (w0 : World) (hE : Env w0) (xa : V) (hza : Sz xa) (Ka Ha : Int) (sa : ByteArray) (A3a A4a A5a : Option Addr) (n3a c3a n4a c4a n5a c5a : Nat) (hKa : k26.K w0 xa [.int .i64 Ka, .int .i64 Ha, .string sa, .slice A3a n3a c3a, .slice A4a n4a c4a, .slice A5a n5a c5a]) (xb : V) (hzb : Sz xb) (Kb Hb : Int) (sb : ByteArray) (A3b A4b A5b : Option Addr) (n3b c3b n4b c4b n5b c5b : Nat) (hKb : k26.K w0 xb [.int .i64 Kb, .int .i64 Hb, .string sb, .slice A3b n3b c3b, .slice A4b n4b c4b, .slice A5b n5b c5b]) :
    Calls Tryz.prog 10 #[.agg #[.int .i64 Ka, .int .i64 Ha, .string sa, .slice A3a n3a c3a, .slice A4a n4a c4a, .slice A5a n5a c5a], .agg #[.int .i64 Kb, .int .i64 Hb, .string sb, .slice A3b n3b c3b, .slice A4b n4b c4b, .slice A5b n5b c5b]] w0 fun e w' => e = .returned (.bool true) ∧ Below w0.heap.size w0 w' := by
  have hKa' := hKa
  obtain ⟨_, _, _, _, _, _, hea, _⟩ := k26_open hKa
  simp only [List.cons.injEq, Value.int.injEq, Value.string.injEq, Value.slice.injEq, true_and, and_true] at hea
  obtain ⟨rfl, rfl, rfl, ⟨rfl, rfl, rfl⟩, ⟨rfl, rfl, rfl⟩, ⟨rfl, rfl, rfl⟩⟩ := hea
  have hKb' := hKb
  obtain ⟨_, _, _, _, _, _, heb, _⟩ := k26_open hKb
  simp only [List.cons.injEq, Value.int.injEq, Value.string.injEq, Value.slice.injEq, true_and, and_true] at heb
  obtain ⟨rfl, rfl, rfl, ⟨rfl, rfl, rfl⟩, ⟨rfl, rfl, rfl⟩, ⟨rfl, rfl, rfl⟩⟩ := heb
  exact core_sub w0 hE xa hza _ _ _ _ _ _ hKa' xb hzb _ _ _ _ _ _ hKb'
end Go.Proofs.YtcoahpcjhhnkkaaGreatDoor.ValA
