/-
Parts of the proof, one behind the other: SrtB, SpnX.
-/
import Derived.Test.YtbnfeicpjmfooaaGreatDoorMV
import Derived.Test.YtbnfeicpjmfooaaGreatDoorMK
import Derived.Test.YtbnfeicpjmfooaaGreatDoorMI
/-
gojq.sortBy: the values in the order of their keys; impl.Sort, impl.SortBy.
-/
set_option linter.unusedSimpArgs false
set_option linter.unusedVariables false
namespace Go.Proofs.YtbnfeicpjmfooaaGreatDoor.NumA
open Go.RowKit Go.Lib Go.Sort Go.Proofs.YtbnfeicpjmfooaaGreatDoor.ValA Go.Proofs.YtbnfeicpjmfooaaGreatDoor.FloH Go.Proofs.YtbnfeicpjmfooaaGreatDoorW.PrintWords Go.Proofs.YtbnfeicpjmfooaaGreatDoorW.PrintLast Go.Proofs.YtbnfeicpjmfooaaGreatDoorW.PrintMore Go.Proofs.YtbnfeicpjmfooaaGreatDoor.PzzFits1 Go.Proofs.YtbnfeicpjmfooaaGreatDoor.Stb
def RVs (W1 : World) (n : Nat) (M : List Nat) (vs : List Value) (k : Nat) (i : Value) (wr : World) : Prop := ∃ j : Nat, i = .int .i64 j ∧ k + j = n ∧ Below W1.heap.size W1 wr ∧
  wr.heap[W1.heap.size]? = some (.cells ((M.take j).map (fun t => vs.getD t .nilIface) ++ List.replicate (n - j) Value.nilIface).toArray 20 (0, 0))
theorem rvs_step {W1 wr : World} {n j : Nat} {M : List Nat} {vs : List Value} (hM : M.length = n) (hj : j < n) (hb : Below W1.heap.size W1 wr) (hr : wr.heap[W1.heap.size]? = some (.cells ((M.take j).map (fun t => vs.getD t .nilIface) ++ List.replicate (n - j) Value.nilIface).toArray 20 (0, 0))) :
    ∀ k, k + (j + 1) = n → RVs W1 n M vs k (.int .i64 ((j + 1 : Nat) : Int)) (wr.setCell ⟨W1.heap.size, j, none⟩ (vs.getD (M.getD j 0) .nilIface)) := by
  intro k hk
  refine ⟨j + 1, rfl, hk, hb.grown (grown_set (World.grownBy.refl wr _) j _) hb.size (fun k hk => by cases hk; exact Nat.le_refl _), ?_⟩
  rw [heap_set hr j _]
  obtain ⟨m, hm⟩ : ∃ m, n - j = m + 1 := ⟨n - j - 1, by omega⟩
  have e : ((M.take j).map (fun t => vs.getD t .nilIface) ++ List.replicate (n - j) Value.nilIface).set j (vs.getD (M.getD j 0) .nilIface) = (M.take (j + 1)).map (fun t => vs.getD t .nilIface) ++ List.replicate (n - (j + 1)) Value.nilIface := by
    have this : M.getD j 0 = M[j] := by rw [List.getD_eq_getElem?_getD, List.getElem?_eq_getElem (by omega)]; rfl
    rw [this, hm, show n - (j + 1) = m by omega, List.replicate_succ, List.take_add_one, List.getElem?_eq_getElem (by omega), List.map_append, List.append_assoc, List.set_append_right _ _ (by simp; omega)]
    simp [show j - min j M.length = 0 by omega]
  simp only [List.setIfInBounds_toArray, e]
set_option maxRecDepth 100000 in
set_option maxHeartbeats 4000000 in
theorem sort_by (w : World) (nm : ByteArray) (b b' n m : Nat) (vs xs : List Value) (kl : List V) (hn : n ≤ 1000000) (hvs : vs.length = n) (hxs : xs.length = n) (hk : kl.length = n) (hb : w.heap[b]? = some (.cells vs.toArray 20 (0, 0))) (hb' : w.heap[b']? = some (.cells xs.toArray 20 (0, 0)))
    (hsh : ∀ v ∈ vs, v = .nilIface ∨ ∃ t u, v = .iface t u) (hw : ∀ y ∈ kl, WL y ∧ Sz y) (hG : ∀ (j : Nat) (v : Value), xs[j]? = some v → G m w (rd_T26 kl j) v) :
    Calls Tryz.prog 117 #[.string nm, .iface 81 (.slice (some ⟨b, 0, none⟩) n n), .iface 81 (.slice (some ⟨b', 0, none⟩) n n)] w fun e w' => ∃ (r : Nat) (M : List Nat), e = .returned (.iface 81 (.slice (some ⟨r, 0, none⟩) n n)) ∧ w.heap.size ≤ r ∧
      w'.heap[r]? = some (.cells (M.map fun t => vs.getD t .nilIface).toArray 20 (0, 0)) ∧ Below w.heap.size w w' ∧ M.length = n ∧ Ris (ltI kl) M ∧ St (ltI kl) (List.range n) M := by
  have HSI := Lib.hid (sort_items w nm b b' n m vs xs kl hn hvs hxs hk hb hb' hsh hw hG)
  have HN := Lib.hid (And.intro hn (And.intro hvs hsh))
  have hmk := fun w => runMake n hn w
  clear hb hb' hvs hxs hk hsh hw hG hn
  go_enter Tryz.func117, Tryz.ntmps117
  go_wp2_with fail
  refine HSI.out.mono ?_
  rintro e w1 ⟨rfl, hb1, M, hM, hr, hst⟩
  obtain ⟨p, hp⟩ : ∃ p, p = w.heap.size := ⟨_, rfl⟩
  rw [← hp] at hM ⊢
  have H1 := Lib.hid (And.intro hb1 (And.intro hM (And.intro hr (And.intro hst hp))))
  clear hb1 hM hr hst HSI hp
  go_wp2_with fail
  obtain ⟨W2, hW2⟩ : ∃ W2, W2 = w1.alloc (.cells (List.replicate n Value.nilIface).toArray 20) := ⟨_, rfl⟩
  have H2 := Lib.hid (show RVs w1 n M vs n (.int .i64 ((0 : Nat) : Int)) W2 by
    rw [hW2]
    exact ⟨0, rfl, rfl, (Below.refl _ w1).alloc (Nat.le_refl _) _, by have h := heap_alloc_new w1 (.cells (List.replicate n Value.nilIface).toArray 20); simpa using h⟩)
  try rw [List.toArray_replicate] at hW2
  rw [← hW2]
  clear hW2 hmk
  go_loopg [27] n (fun k i wr => RVs w1 n M vs k i wr)
  case atStart => exact H2.out
  case round =>
    clear H2
    obtain ⟨j, rfl, hkj, hbr, hrow⟩ := hrel
    have HR := Lib.hid (And.intro hbr hrow)
    have HK := Lib.hid hkj
    by_cases hlt : j < n
    · have hMM := H1.out.2.1
      have hmj : M.getD j 0 < n := by
        have h1 : M.getD j 0 ∈ M := by rw [List.getD_eq_getElem?_getD, List.getElem?_eq_getElem (by rw [hMM.1]; exact hlt)]; exact List.getElem_mem _
        have h2 := H1.out.2.2.2.1.1.mem_iff.1 h1
        simpa using h2
      have x0 := pw_cell_below hbr (hMM.2.1 j hlt)
      have x1 := pw_cell_below hbr (hMM.2.2 _ hmj).1
      have H4 := Lib.hid (rvs_step (vs := vs) hMM.1 hlt hbr hrow)
      have hfr := list_cell (j := j) hrow (by simp [hMM.1]; omega)
      obtain ⟨old, hold⟩ : ∃ old, wr.cell? ⟨w1.heap.size, j, none⟩ = some old := ⟨_, hfr.1⟩
      have q1 := hfr.2
      have hs := HN.out.2.2 (vs.getD (M.getD j 0) .nilIface) (by rw [List.getD_eq_getElem?_getD, List.getElem?_eq_getElem (by have := HN.out.2.1; omega)]; exact List.getElem_mem _)
      have hlt2 : (j : Int) < (n : Int) := by omega
      have HLT := Lib.hid hlt
      generalize vs.getD (M.getD j 0) .nilIface = v at x1 H4 hs
      generalize p + 2 + M.getD j 0 = q at x0 x1
      clear hbr hrow hkj hlt hfr hMM hmj
      rcases hs with rfl | ⟨tt, gg, rfl⟩
      all_goals
        have H5 := H4
        go_wp2_with fail
        go_roundg (gk - 1)
        case measure => have := HK.out; have := HLT.out; omega
        case rel =>
          have hw : wrap64 ((j : Int) + 1) = ((j + 1 : Nat) : Int) := by have := HN.out.1; have := HLT.out; unfold wrap64; omega
          rw [hw]
          exact H5.out (gk - 1) (by have := HK.out; have := HLT.out; omega)
    · have hj : j = n := by have := HK.out; omega
      subst hj
      have hlt2 : ¬ (j : Int) < (j : Int) := by omega
      have hlt3 : decide ((j : Int) < (j : Int)) = false := decide_eq_false hlt2
      have hlt4 : decide (j < j) = false := decide_eq_false hlt
      clear hbr hrow hkj hlt hlt2
      go_wp2_with fail
      go_ret
      have hMM := H1.out.2.1
      have hrow := HR.out.2
      rw [List.take_of_length_le (by rw [hMM.1]; exact Nat.le_refl _), Nat.sub_self, List.replicate_zero, List.append_nil] at hrow
      exact ⟨_, M, rfl, H1.out.1.size, hrow, H1.out.1.trans (HR.out.1.mono H1.out.1.size), hMM.1, H1.out.2.2.1, H1.out.2.2.2.1⟩
/-- A sorted list of a list of values. -/
theorem sort_list {w : World} {x : V} {g : Value} {n : Nat} (nm : ByteArray) (h5 : x.f0 = 5) (hx : WL x) (zx : Sz x) (hG : G n w x g) :
    Calls Tryz.prog 117 #[.string nm, g, g] w (ShowsIs (lV (sortV x.f3)) w) := by
  obtain ⟨b, l, rfl, _, hl, hw, he⟩ := hG.list_inv h5
  have hlen : x.f3.length ≤ 1000000 := by cases hx; assumption
  have hm : ∀ y ∈ x.f3, WL y ∧ Sz y := fun y hy => ⟨hx.h3 y hy, sz_h3 zx y hy⟩
  have hGj : ∀ (j : Nat) (v : Value), l[j]? = some v → G n w (rd_T26 x.f3 j) v := fun j v hv => he j _ v (rd_at x.f3 j (by have := (List.getElem?_eq_some_iff.1 hv).1; omega)) hv
  refine (sort_by w nm b b x.f3.length n l l x.f3 hlen hl hl rfl hw hw (fun v hv => by
    obtain ⟨j, hj, rfl⟩ := List.mem_iff_getElem.1 hv
    exact (hGj j _ (List.getElem?_eq_getElem hj)).shape) hm hGj).mono ?_
  rintro e w' ⟨r, M, rfl, hr, hrow, hb, hM, hris, hst⟩
  have hmem : ∀ t ∈ M, t < x.f3.length := fun t ht => by have h2 := hst.1.mem_iff.1 ht; simpa using h2
  have e1 : M.map (fun t : Nat => rd_T26 x.f3 t) = sortV x.f3 := by
    refine sort_one hx.h3 ?_ ?_
    · have h1 := hst.1.map (fun t : Nat => rd_T26 x.f3 t)
      refine h1.trans ?_
      have e2 : (List.range x.f3.length).map (fun t : Nat => rd_T26 x.f3 t) = x.f3 := by
        refine List.ext_getElem? fun i => ?_
        by_cases c : i < x.f3.length
        · rw [rd_at x.f3 i c]
          simp [c]
        · rw [List.getElem?_eq_none (by simp; omega), List.getElem?_eq_none (by omega)]
      rw [e2]
    · exact List.pairwise_map.2 hris
  refine ⟨_, rfl, ?_, hb⟩
  rw [← e1]
  have hlm : (M.map (fun t : Nat => rd_T26 x.f3 t)).length = x.f3.length := by rw [List.length_map, hM]
  rw [← hlm]
  refine shows_part (k := n) (o := 0) (by rw [hlm]; exact hlen) (by simp) hrow (fun y hy => ?_) fun i y v hy hv => ?_
  · rw [e1] at hy
    exact hm y (mem_sortV.1 hy)
  · rw [List.getElem?_map] at hy
    rw [Nat.zero_add, List.getElem?_map] at hv
    cases ht : M[i]? with
    | none => rw [ht] at hy; cases hy
    | some t =>
      rw [ht] at hy hv
      cases hy
      cases hv
      have htl := hmem t (List.mem_of_getElem? ht)
      refine (hGj t _ ?_).keepB hb
      show l[t]? = some (l.getD t .nilIface)
      rw [List.getD_eq_getElem?_getD, List.getElem?_eq_getElem (by omega)]
      rfl
set_option maxHeartbeats 4000000 in
theorem zz_sort {w : World} {x : V} {g : Value} {n : Nat} (h5 : x.f0 = 5) (hx : WL x) (zx : Sz x) (hG : G n w x g) : Calls Tryz.prog 51 #[g] w (ShowsIs (lV (sortV x.f3)) w) := by
  have HC := Lib.hid (fun nm => sort_list nm h5 hx zx hG)
  have hs := hG.shape
  clear hG
  have HF : Hid (Calls Tryz.prog 89 #[g] w (ShowsIs (lV (sortV x.f3)) w)) := Lib.hid (by
    rcases hs with rfl | ⟨t, u, rfl⟩
    all_goals
      go_enter Tryz.func89, Tryz.ntmps89
      go_wp2_with fail
      refine (HC.out _).mono ?_
      rintro e w1 ⟨r, rfl, h⟩
      go_wp2_with fail
      go_ret
      exact ⟨_, rfl, h⟩)
  rcases hs with rfl | ⟨t, u, rfl⟩
  all_goals
    go_enter Tryz.func51, Tryz.ntmps51
    go_wp2_with fail
    refine HF.out.mono ?_
    rintro e w1 ⟨r, rfl, h⟩
    go_wp2_with fail
    go_ret
    exact ⟨_, rfl, h⟩
set_option maxHeartbeats 4000000 in
theorem impl_Sort (w0 : World) (a x : V) (Ka Ha : Int) (sa : ByteArray) (A3a A4a A5a : Option Addr) (n3a c3a n4a c4a n5a c5a : Nat) (Ta : ToGo w0 a [.int .i64 Ka, .int .i64 Ha, .string sa, .slice A3a n3a c3a, .slice A4a n4a c4a, .slice A5a n5a c5a])
    (HC : ∀ g n w, G n w a g → Calls Tryz.prog 51 #[g] w (ShowsIs x w)) (w : World) (hb : Below w0.heap.size w0 w) :
    Calls Tryz.prog 17 #[.agg #[.int .i64 Ka, .int .i64 Ha, .string sa, .slice A3a n3a c3a, .slice A4a n4a c4a, .slice A5a n5a c5a]] w (ResIs x w) := by
  have HXa := Lib.hid Ta
  have HCC := Lib.hid HC
  have HB := Lib.hid hb
  clear Ta HC hb
  go_enter Tryz.func17, Tryz.ntmps17
  go_wp2_with fail
  obtain ⟨W0, hw0⟩ : ∃ W0, W0 = (w.alloc (.cells #[.int .i64 Ka, .int .i64 Ha, .string sa, .slice A3a n3a c3a, .slice A4a n4a c4a, .slice A5a n5a c5a] 26)).alloc (.cells #[.int .i64 0, .int .i64 0, .string ⟨#[]⟩, .slice none 0 0, .slice none 0 0, .slice none 0 0, .int .i64 0] 30) := ⟨_, rfl⟩
  have h0 : SPL w [(w.heap.size, #[.int .i64 Ka, .int .i64 Ha, .string sa, .slice A3a n3a c3a, .slice A4a n4a c4a, .slice A5a n5a c5a], 26), (w.heap.size + 1, #[.int .i64 0, .int .i64 0, .string ⟨#[]⟩, .slice none 0 0, .slice none 0 0, .slice none 0 0, .int .i64 0], 30)] W0 := by rw [hw0]; exact SPL.two w _ _ _ _
  rw [← hw0]
  clear hw0
  have H0 := Lib.hid (And.intro h0 True.intro)
  clear h0
  refine (HXa.out W0 (HB.out.trans (H0.out.1.1.mono HB.out.size))).mono ?_
  rintro e w1 ⟨g, rfl, hG, hb⟩
  have H1 := Lib.hid (And.intro (H0.out.1.below hb) (And.intro hG True.intro))
  clear hb H0 hG
  go_wp2_with fail
  refine (HCC.out g _ w1 H1.out.2.1).mono ?_
  rintro e w2 ⟨r, rfl, hG, hb⟩
  have H2 := Lib.hid (H1.out.1.below hb)
  have HD := Lib.hid (result_any x r w2 hG.1 hG.2)
  clear hb H1 hG
  go_wp2_with fail
  refine HD.out.mono ?_
  rintro e w3 ⟨B3, d3, B4, d4, B5, d5, rfl, hM, hb⟩
  have hs := H2.out.below hb
  have hx := hs.get 1 rfl
  have hs3 : w.heap.size + 1 < w2.heap.size := ValA.lt_of_heap (H2.out.get 1 rfl)
  have H3 := Lib.hid (And.intro hs.1 (And.intro hM hs3))
  clear hb H2 hM hs3 hs
  have y := sev_cells hx
  go_wp2_with fail
  have hz := sev_set hx (.int .i64 x.f0) (.int .i64 x.f1) (.string x.f2) (.slice B3 x.f3.length d3) (.slice B4 x.f4.length d4) (.slice B5 x.f5.length d5) (.int .i64 0)
  have hg := sev_grown w3 (w.heap.size + 1) (.int .i64 x.f0) (.int .i64 x.f1) (.string x.f2) (.slice B3 x.f3.length d3) (.slice B4 x.f4.length d4) (.slice B5 x.f5.length d5) (.int .i64 0)
  obtain ⟨W2, hW⟩ : ∃ W2, W2 = ((((((w3.setCell ⟨w.heap.size + 1, 0, none⟩ (.int .i64 x.f0)).setCell ⟨w.heap.size + 1, 1, none⟩ (.int .i64 x.f1)).setCell ⟨w.heap.size + 1, 2, none⟩ (.string x.f2)).setCell ⟨w.heap.size + 1, 3, none⟩ (.slice B3 x.f3.length d3)).setCell ⟨w.heap.size + 1, 4, none⟩ (.slice B4 x.f4.length d4)).setCell ⟨w.heap.size + 1, 5, none⟩ (.slice B5 x.f5.length d5)).setCell ⟨w.heap.size + 1, 6, none⟩ (.int .i64 0) := ⟨_, rfl⟩
  rw [← hW] at hz hg ⊢
  clear hW y hx
  obtain ⟨q0, q1, q2, q3, q4, q5, q6, _⟩ := sev_cells hz
  refine bodyPost_ret (v := .agg #[.int .i64 x.f0, .int .i64 x.f1, .string x.f2, .slice B3 x.f3.length d3, .slice B4 x.f4.length d4, .slice B5 x.f5.length d5, .int .i64 0]) (by simp [results, Tryz.results17, go_sem, q0, q1, q2, q3, q4, q5, q6]) rfl ?_
  have hs3 := H3.out.2.2
  have hM4 := Kd.M_grown H3.out.2.1 hg (fun k hk e => by cases e; have : w2.heap.size ≤ w.heap.size + 1 := hk; omega)
  exact ⟨B3, d3, B4, d4, B5, d5, rfl, k26.M_mono (fun k hk => by show w.heap.size ≤ k; have : w2.heap.size ≤ k := hk; omega) (k26.M_lower (by omega) hM4), H3.out.1.grown hg H3.out.1.size (fun k hk => by cases hk; omega)⟩
set_option maxHeartbeats 4000000 in
theorem impl_Unique (w0 : World) (a x : V) (Ka Ha : Int) (sa : ByteArray) (A3a A4a A5a : Option Addr) (n3a c3a n4a c4a n5a c5a : Nat) (Ta : ToGo w0 a [.int .i64 Ka, .int .i64 Ha, .string sa, .slice A3a n3a c3a, .slice A4a n4a c4a, .slice A5a n5a c5a])
    (HC : ∀ g n w, G n w a g → Calls Tryz.prog 57 #[g] w (ShowsIs x w)) (w : World) (hb : Below w0.heap.size w0 w) :
    Calls Tryz.prog 23 #[.agg #[.int .i64 Ka, .int .i64 Ha, .string sa, .slice A3a n3a c3a, .slice A4a n4a c4a, .slice A5a n5a c5a]] w (ResIs x w) := by
  have HXa := Lib.hid Ta
  have HCC := Lib.hid HC
  have HB := Lib.hid hb
  clear Ta HC hb
  go_enter Tryz.func23, Tryz.ntmps23
  go_wp2_with fail
  obtain ⟨W0, hw0⟩ : ∃ W0, W0 = (w.alloc (.cells #[.int .i64 Ka, .int .i64 Ha, .string sa, .slice A3a n3a c3a, .slice A4a n4a c4a, .slice A5a n5a c5a] 26)).alloc (.cells #[.int .i64 0, .int .i64 0, .string ⟨#[]⟩, .slice none 0 0, .slice none 0 0, .slice none 0 0, .int .i64 0] 30) := ⟨_, rfl⟩
  have h0 : SPL w [(w.heap.size, #[.int .i64 Ka, .int .i64 Ha, .string sa, .slice A3a n3a c3a, .slice A4a n4a c4a, .slice A5a n5a c5a], 26), (w.heap.size + 1, #[.int .i64 0, .int .i64 0, .string ⟨#[]⟩, .slice none 0 0, .slice none 0 0, .slice none 0 0, .int .i64 0], 30)] W0 := by rw [hw0]; exact SPL.two w _ _ _ _
  rw [← hw0]
  clear hw0
  have H0 := Lib.hid (And.intro h0 True.intro)
  clear h0
  refine (HXa.out W0 (HB.out.trans (H0.out.1.1.mono HB.out.size))).mono ?_
  rintro e w1 ⟨g, rfl, hG, hb⟩
  have H1 := Lib.hid (And.intro (H0.out.1.below hb) (And.intro hG True.intro))
  clear hb H0 hG
  go_wp2_with fail
  refine (HCC.out g _ w1 H1.out.2.1).mono ?_
  rintro e w2 ⟨r, rfl, hG, hb⟩
  have H2 := Lib.hid (H1.out.1.below hb)
  have HD := Lib.hid (result_any x r w2 hG.1 hG.2)
  clear hb H1 hG
  go_wp2_with fail
  refine HD.out.mono ?_
  rintro e w3 ⟨B3, d3, B4, d4, B5, d5, rfl, hM, hb⟩
  have hs := H2.out.below hb
  have hx := hs.get 1 rfl
  have hs3 : w.heap.size + 1 < w2.heap.size := ValA.lt_of_heap (H2.out.get 1 rfl)
  have H3 := Lib.hid (And.intro hs.1 (And.intro hM hs3))
  clear hb H2 hM hs3 hs
  have y := sev_cells hx
  go_wp2_with fail
  have hz := sev_set hx (.int .i64 x.f0) (.int .i64 x.f1) (.string x.f2) (.slice B3 x.f3.length d3) (.slice B4 x.f4.length d4) (.slice B5 x.f5.length d5) (.int .i64 0)
  have hg := sev_grown w3 (w.heap.size + 1) (.int .i64 x.f0) (.int .i64 x.f1) (.string x.f2) (.slice B3 x.f3.length d3) (.slice B4 x.f4.length d4) (.slice B5 x.f5.length d5) (.int .i64 0)
  obtain ⟨W2, hW⟩ : ∃ W2, W2 = ((((((w3.setCell ⟨w.heap.size + 1, 0, none⟩ (.int .i64 x.f0)).setCell ⟨w.heap.size + 1, 1, none⟩ (.int .i64 x.f1)).setCell ⟨w.heap.size + 1, 2, none⟩ (.string x.f2)).setCell ⟨w.heap.size + 1, 3, none⟩ (.slice B3 x.f3.length d3)).setCell ⟨w.heap.size + 1, 4, none⟩ (.slice B4 x.f4.length d4)).setCell ⟨w.heap.size + 1, 5, none⟩ (.slice B5 x.f5.length d5)).setCell ⟨w.heap.size + 1, 6, none⟩ (.int .i64 0) := ⟨_, rfl⟩
  rw [← hW] at hz hg ⊢
  clear hW y hx
  obtain ⟨q0, q1, q2, q3, q4, q5, q6, _⟩ := sev_cells hz
  refine bodyPost_ret (v := .agg #[.int .i64 x.f0, .int .i64 x.f1, .string x.f2, .slice B3 x.f3.length d3, .slice B4 x.f4.length d4, .slice B5 x.f5.length d5, .int .i64 0]) (by simp [results, Tryz.results23, go_sem, q0, q1, q2, q3, q4, q5, q6]) rfl ?_
  have hs3 := H3.out.2.2
  have hM4 := Kd.M_grown H3.out.2.1 hg (fun k hk e => by cases e; have : w2.heap.size ≤ w.heap.size + 1 := hk; omega)
  exact ⟨B3, d3, B4, d4, B5, d5, rfl, k26.M_mono (fun k hk => by show w.heap.size ≤ k; have : w2.heap.size ≤ k := hk; omega) (k26.M_lower (by omega) hM4), H3.out.1.grown hg H3.out.1.size (fun k hk => by cases hk; omega)⟩
end Go.Proofs.YtbnfeicpjmfooaaGreatDoor.NumA
/-
Blocks that stand, some of them; counts.
-/
set_option linter.unusedSimpArgs false
set_option linter.unusedVariables false
namespace Go.Proofs.YtbnfeicpjmfooaaGreatDoor.ValA
open Go.RowKit Go.Lib Go.Proofs.YtbnfeicpjmfooaaGreatDoorW.PrintWords Go.Proofs.YtbnfeicpjmfooaaGreatDoorW.PrintLast Go.Proofs.YtbnfeicpjmfooaaGreatDoorW.PrintMore Go.Proofs.YtbnfeicpjmfooaaGreatDoor.PzzFits1 Go.Proofs.YtbnfeicpjmfooaaGreatDoor.NumA
theorem sp_nil (w : World) : SPN w [] w := ⟨SPL.nil w, List.nodup_nil, fun p hp => by cases hp⟩
theorem SPN.bel {w w1 : World} {L : List (Nat × Array Value × TypeId)} (h : SPN w L w1) : Below w.heap.size w w1 := h.1.1
theorem SPN.hd {w w1 : World} {p : Nat × Array Value × TypeId} {L : List (Nat × Array Value × TypeId)} (h : SPN w (p :: L) w1) : SPN w [p] w1 :=
  ⟨⟨h.1.1, fun x hx => h.1.2 x (by rw [List.mem_singleton.1 hx]; exact List.mem_cons_self)⟩, by simp, fun x hx => h.2.2 x (by rw [List.mem_singleton.1 hx]; exact List.mem_cons_self)⟩
theorem SPN.hd2 {w w1 : World} {p q r : Nat × Array Value × TypeId} (h : SPN w [p, q, r] w1) : SPN w [p, q] w1 :=
  ⟨⟨h.1.1, fun x hx => h.1.2 x (by rcases List.mem_cons.1 hx with rfl | hx; exact List.mem_cons_self; rw [List.mem_singleton.1 hx]; exact List.mem_cons_of_mem _ List.mem_cons_self)⟩, h.2.1.sublist (by simp), fun x hx => h.2.2 x (by rcases List.mem_cons.1 hx with rfl | hx; exact List.mem_cons_self; rw [List.mem_singleton.1 hx]; exact List.mem_cons_of_mem _ List.mem_cons_self)⟩
theorem ms_eq {k q n : Nat} (h : k + q = n ∧ q < n) : k - 1 + (q + 1) = n := by omega
theorem ms_lt {k q n : Nat} (h : k + q = n ∧ q < n) : k - 1 < k := by omega
theorem w_succ {q n : Nat} (h : q < n) (hn : n ≤ 1000001) : wrap64 ((q : Int) + 1) = ((q + 1 : Nat) : Int) := by unfold wrap64; omega
theorem w_pred {q n : Nat} (h : q < n) (hn : n ≤ 1000001) (h0 : 0 < q) : wrap64 ((q : Int) - 1) = ((q - 1 : Nat) : Int) := by unfold wrap64; omega
/-- How often a value is in a list. -/
def cntV (x : V) (l : List V) : Nat := l.countP fun y => cmpV x y == 0
end Go.Proofs.YtbnfeicpjmfooaaGreatDoor.ValA
