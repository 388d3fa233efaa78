/-
Parts of the proof, one behind the other: SrtQ, SrtU, SrtX.
-/
import Derived.Test.YtbnfeicpjmfooaaGreatDoorMY
import Derived.Test.YtbnfeicpjmfooaaGreatDoorM5
/-
A sorted list with equal neighbours once: plain.
-/
set_option linter.unusedSimpArgs false
set_option linter.unusedVariables false
namespace Go.Proofs.YtbnfeicpjmfooaaGreatDoor.NumA
open Go.RowKit Go.Lib Go.Proofs.YtbnfeicpjmfooaaGreatDoor.ValA Go.Proofs.YtbnfeicpjmfooaaGreatDoor.FloH Go.Proofs.YtbnfeicpjmfooaaGreatDoorW.PrintWords Go.Proofs.YtbnfeicpjmfooaaGreatDoorW.PrintLast Go.Proofs.YtbnfeicpjmfooaaGreatDoorW.PrintMore Go.Proofs.YtbnfeicpjmfooaaGreatDoor.PzzFits1 Go.Proofs.YtbnfeicpjmfooaaGreatDoor.Stb
/-- The first j elements, equal neighbours once. -/
def uqT (l : List V) : Nat → List V
  | 0 => []
  | j + 1 => uqT l j ++ if j = 0 ∨ cmpV (rd_T26 l ((j - 1 : Nat) : Int)) (rd_T26 l (j : Nat)) ≠ 0 then [rd_T26 l (j : Nat)] else []
def uqV (l : List V) : List V := uqT l l.length
/-- A list rises without equals. -/
def Up (l : List V) : Prop := l.Pairwise fun x y => ltV x y = true
theorem uqT_len (l : List V) : ∀ j, (uqT l j).length ≤ j
  | 0 => Nat.le_refl _
  | j + 1 => by
    have := uqT_len l j
    unfold uqT
    rw [List.length_append]
    split <;> simp <;> omega
theorem uqT_facts {l : List V} (h : Ris ltV l) : ∀ j, j ≤ l.length → Up (uqT l j) ∧ (∀ y ∈ uqT l j, ∃ t : Nat, t < j ∧ y = rd_T26 l (t : Nat)) ∧ ∀ t : Nat, t < j → ∃ z ∈ uqT l j, cmpV (rd_T26 l (t : Nat)) z = 0
  | 0, _ => ⟨List.Pairwise.nil, fun y hy => (by cases hy), fun t ht => absurd ht (by omega)⟩
  | j + 1, hj => by
    obtain ⟨h1, h2, h3⟩ := uqT_facts h j (by omega)
    have hle : ∀ a b : Nat, a ≤ b → b < l.length → ¬ 0 < cmpV (rd_T26 l (a : Nat)) (rd_T26 l (b : Nat)) := fun a b hab hb => by
      by_cases e : a = b
      · subst e; rw [cmpV_self]; omega
      have e1 := rd_at l a (by omega)
      have e2 := rd_at l b hb
      rw [List.getElem?_eq_getElem (by omega)] at e1 e2
      have h4 := of_decide_eq_false (List.pairwise_iff_getElem.1 h a b (by omega) hb (by omega))
      rw [Option.some.inj e1, Option.some.inj e2] at h4
      have h5 := cmpV_anti _ (rd_T26 l (a : Nat)) (Nat.lt_succ_self _) (rd_T26 l (b : Nat))
      omega
    unfold uqT
    by_cases c : j = 0 ∨ cmpV (rd_T26 l ((j - 1 : Nat) : Int)) (rd_T26 l (j : Nat)) ≠ 0
    · rw [if_pos c]
      refine ⟨List.pairwise_append.2 ⟨h1, by simp, fun y hy z hz => ?_⟩, fun y hy => ?_, fun t ht => ?_⟩
      · rw [List.mem_singleton.1 hz]
        obtain ⟨t, ht, rfl⟩ := h2 y hy
        have c2 := c.resolve_left (by omega)
        have a1 := hle t (j - 1) (by omega) (by omega)
        have a2 := hle (j - 1) j (by omega) (by omega)
        have a3 := cmpV_chain _ (rd_T26 l (t : Nat)) (Nat.lt_succ_self _) (rd_T26 l ((j - 1 : Nat) : Int)) (rd_T26 l (j : Nat))
        unfold Chain at a3
        exact decide_eq_true (by omega)
      · rcases List.mem_append.1 hy with hy | hy
        · obtain ⟨t, ht, e⟩ := h2 y hy
          exact ⟨t, by omega, e⟩
        · exact ⟨j, by omega, List.mem_singleton.1 hy⟩
      · by_cases e : t = j
        · subst e
          exact ⟨_, List.mem_append.2 (.inr (List.mem_singleton.2 rfl)), cmpV_self _⟩
        · obtain ⟨z, hz, hc⟩ := h3 t (by omega)
          exact ⟨z, List.mem_append.2 (.inl hz), hc⟩
    · rw [if_neg c, List.append_nil]
      refine ⟨h1, fun y hy => ?_, fun t ht => ?_⟩
      · obtain ⟨t, ht, e⟩ := h2 y hy
        exact ⟨t, by omega, e⟩
      · by_cases e : t = j
        · subst e
          have c0 : t ≠ 0 := fun e => c (.inl e)
          have c1 : cmpV (rd_T26 l ((t - 1 : Nat) : Int)) (rd_T26 l (t : Nat)) = 0 := Classical.byContradiction fun e => c (.inr e)
          obtain ⟨z, hz, hc⟩ := h3 (t - 1) (by omega)
          have a3 := cmpV_chain _ (rd_T26 l (t : Nat)) (Nat.lt_succ_self _) (rd_T26 l ((t - 1 : Nat) : Int)) z
          have a4 := cmpV_anti _ (rd_T26 l (t : Nat)) (Nat.lt_succ_self _) (rd_T26 l ((t - 1 : Nat) : Int))
          unfold Chain at a3
          exact ⟨z, hz, by omega⟩
        · exact h3 t (by omega)
theorem mem_rd {l : List V} {y : V} (h : y ∈ l) : ∃ t : Nat, t < l.length ∧ y = rd_T26 l (t : Nat) := by
  obtain ⟨t, ht, rfl⟩ := List.mem_iff_getElem.1 h
  have e := rd_at l t ht
  rw [List.getElem?_eq_getElem ht] at e
  exact ⟨t, ht, Option.some.inj e⟩
theorem uq_up {l : List V} (h : Ris ltV l) : Up (uqV l) := (uqT_facts h l.length (Nat.le_refl _)).1
theorem mem_uq {l : List V} (h : Ris ltV l) (hl : ∀ y ∈ l, WL y) {y : V} : y ∈ uqV l ↔ y ∈ l := by
  obtain ⟨_, h2, h3⟩ := uqT_facts h l.length (Nat.le_refl _)
  constructor
  · intro hy
    obtain ⟨t, ht, rfl⟩ := h2 y hy
    exact rd_mem l t ht
  · intro hy
    obtain ⟨t, ht, rfl⟩ := mem_rd hy
    obtain ⟨z, hz, hc⟩ := h3 t ht
    obtain ⟨t2, ht2, e⟩ := h2 z hz
    rw [cmp_eq _ _ (Nat.lt_succ_self _) z (hl _ hy) (by rw [e]; exact hl _ (rd_mem l t2 ht2)) hc]
    exact hz
theorem up_uniq : ∀ {a b : List V}, Up a → Up b → (∀ y, y ∈ a ↔ y ∈ b) → a = b
  | [], [], _, _, _ => rfl
  | [], y :: b, _, _, h => by have := (h y).2 (List.mem_cons_self ..); cases this
  | x :: a, [], _, _, h => by have := (h x).1 (List.mem_cons_self ..); cases this
  | x :: a, y :: b, ha, hb, h => by
    have ha' := List.pairwise_cons.1 ha
    have hb' := List.pairwise_cons.1 hb
    have e : x = y := by
      rcases List.mem_cons.1 ((h x).1 (List.mem_cons_self ..)) with e | e
      · exact e
      · rcases List.mem_cons.1 ((h y).2 (List.mem_cons_self ..)) with e2 | e2
        · exact e2.symm
        · have a1 := wk_ltV.anti _ _ (hb'.1 x e)
          rw [ha'.1 y e2] at a1
          cases a1
    subst e
    have ns : ∀ z, ltV x z = true → z ≠ x := fun z hz e => by rw [e, wk_ltV.self] at hz; cases hz
    rw [up_uniq ha'.2 hb'.2 fun z => ⟨fun hz => (List.mem_cons.1 ((h z).1 (List.mem_cons_of_mem _ hz))).resolve_left (ns z (ha'.1 z hz)), fun hz => (List.mem_cons.1 ((h z).2 (List.mem_cons_of_mem _ hz))).resolve_left (ns z (hb'.1 z hz))⟩]
/-- Sorting what rises without equals, and taking equals once, changes nothing. -/
theorem uq_again {u : List V} (h : Up u) (hu : ∀ y ∈ u, WL y) : uqV (sortV u) = u := by
  have hm := fun y (hy : y ∈ sortV u) => hu y (mem_sortV.1 hy)
  exact up_uniq (uq_up (sortV_ris u)) h fun y => (mem_uq (sortV_ris u) hm).trans mem_sortV
theorem uq_twice {l : List V} (hl : ∀ y ∈ l, WL y) : uqV (sortV (l ++ l)) = uqV (sortV l) := by
  have h2 : ∀ y ∈ l ++ l, WL y := fun y hy => by rcases List.mem_append.1 hy with h | h <;> exact hl y h
  refine up_uniq (uq_up (sortV_ris _)) (uq_up (sortV_ris _)) fun y => ?_
  rw [mem_uq (sortV_ris _) (fun y hy => h2 y (mem_sortV.1 hy)), mem_uq (sortV_ris _) (fun y hy => hl y (mem_sortV.1 hy)), mem_sortV, mem_sortV, List.mem_append]
  exact ⟨fun h => h.elim id id, .inl⟩
theorem uq_len (l : List V) : (uqV l).length ≤ l.length := uqT_len l _
theorem uqT_succ (l : List V) (j : Nat) : uqT l (j + 1) = uqT l j ++ if j = 0 ∨ cmpV (rd_T26 l ((j - 1 : Nat) : Int)) (rd_T26 l (j : Nat)) ≠ 0 then [rd_T26 l (j : Nat)] else [] := by rw [uqT]
end Go.Proofs.YtbnfeicpjmfooaaGreatDoor.NumA
/-
gojq's unique of an array.
-/
set_option linter.unusedSimpArgs false
set_option linter.unusedVariables false
namespace Go.Proofs.YtbnfeicpjmfooaaGreatDoor.NumA
open Go.RowKit Go.Lib Go.Sort Go.Proofs.YtbnfeicpjmfooaaGreatDoor.ValA Go.Proofs.YtbnfeicpjmfooaaGreatDoor.FloH Go.Proofs.YtbnfeicpjmfooaaGreatDoorW.PrintWords Go.Proofs.YtbnfeicpjmfooaaGreatDoorW.PrintLast Go.Proofs.YtbnfeicpjmfooaaGreatDoorW.PrintMore Go.Proofs.YtbnfeicpjmfooaaGreatDoor.PzzFits1 Go.Proofs.YtbnfeicpjmfooaaGreatDoor.Stb
/-- The loop. -/
def RU (W1 : World) (m n : Nat) (ks : List V) (k : Nat) (s last i : Value) (wr : World) : Prop :=
  ∃ (j : Nat) (xs : List Value), i = .int .i64 j ∧ k + j = n ∧ Below W1.heap.size W1 wr ∧ wr.ownsRow W1.heap.size 20 1 s xs.length xs ∧ PairsG m W1 (uqT ks j) xs ∧ xs.length ≤ j ∧ s ≠ .slice none 0 0 ∧ (0 < j → G m W1 (rd_T26 ks ((j - 1 : Nat) : Int)) last)
theorem ru_app {W1 wr : World} {m n j : Nat} {ks : List V} {s u : Value} {xs : List Value} (hb : Below W1.heap.size W1 wr) (ho : wr.ownsRow W1.heap.size 20 1 s xs.length xs) (hp : PairsG m W1 (uqT ks j) xs) (hx : xs.length ≤ j) (hs : s ≠ .slice none 0 0) (hn : n ≤ 1000000) (hj : j < n)
    (hG : G m W1 (rd_T26 ks j) u) (hyes : j = 0 ∨ cmpV (rd_T26 ks ((j - 1 : Nat) : Int)) (rd_T26 ks (j : Nat)) ≠ 0) :
    ∃ s1 w1, (Builtin.append_ #[81, 81] 81 #[s, .slice (some ⟨wr.heap.size, 0, none⟩) 1 1]).run Tryz.prog (wr.alloc (.cells #[u] 20)) = .ok s1 w1 ∧ Below W1.heap.size W1 w1 ∧ ∃ xs1 : List Value, w1.ownsRow W1.heap.size 20 1 s1 xs1.length xs1 ∧ PairsG m W1 (uqT ks (j + 1)) xs1 ∧ xs1.length ≤ j + 1 ∧ s1 ≠ .slice none 0 0 := by
  have hi := info_any
  obtain ⟨i0, hi0, hzz⟩ := Option.map_eq_some_iff.1 hi
  simp only [Prod.mk.injEq] at hzz
  obtain ⟨hz0, hz1, hz2⟩ := hzz
  have hcl : u.oneCell' = true := by rcases hG.shape with rfl | ⟨t, v, rfl⟩ <;> rfl
  obtain ⟨s1, w1, hrun, h2, hg, hnil, hat⟩ := run_append_own_at (P := Tryz.prog) (wr.alloc (.cells #[u] 20)) W1.heap.size 81 81 20 i0 .nilIface 1 16 Tryz.underlying81 hi0 hz0 hz1 hz2 rfl (by decide) s xs.length xs (ho.alloc _) ⟨wr.heap.size, 0, none⟩ 1 1 [u] rfl
    (by simpa using World.news_of_block (cs := #[u]) (t := 20) (fr := (0, 0)) (MapKept.heap_alloc wr (.cells #[u] 20)).1) (fun v hv => by rw [List.mem_singleton.1 hv]; exact hcl) (by simp only [maxLen]; omega) (by omega) (by rw [World.size_alloc]; have := hb.size; omega)
  refine ⟨s1, w1, hrun, (hb.alloc hb.size _).grown hg (by rw [World.size_alloc]; have := hb.size; omega) (fun k hk => (ho.lt k hk).1), xs ++ [u], by rw [List.length_append, List.length_singleton]; exact h2, ?_, by rw [List.length_append, List.length_singleton]; omega, fun e => hs (hnil.1 e).1⟩
  rw [uqT_succ, if_pos hyes]
  exact hp.snoc hG
theorem ru_end {W1 wr : World} {m : Nat} {ks : List V} {s : Value} {xs : List Value} (hb : Below W1.heap.size W1 wr) (ho : wr.ownsRow W1.heap.size 20 1 s xs.length xs) (hp : PairsG m W1 (uqV ks) xs) (hs : s ≠ .slice none 0 0) (hn : ks.length ≤ 1000000) (hl : ∀ y ∈ uqV ks, WL y ∧ Sz y) :
    Shows (lV (uqV ks)) (.iface 81 s) wr := by
  obtain ⟨h1, h2⟩ := ho
  rcases h2 with ⟨rfl, _⟩ | ⟨g, cap, cur, rfl, hg, hc, hnc, hcap, hsz, htk⟩
  · exact absurd rfl hs
  have hlen := hp.1
  have hsub := uq_len ks
  rw [Nat.mul_one] at htk hsz
  have hcl : cur.toList.length = cap := by simpa using hsz
  rw [hlen]
  refine shows_part (k := m) (vs := cur.toList) (o := 0) (by omega) (by omega) (by rw [Array.toArray_toList]; exact hc) hl (fun i y v hy hv => (hp.2 i y v hy ?_).keepB hb)
  rw [Nat.zero_add] at hv
  have hi : i < (uqV ks).length := (List.getElem?_eq_some_iff.1 hy).1
  rw [← htk, List.getElem?_take, if_pos (by omega)]
  exact hv
set_option maxRecDepth 100000 in
set_option maxHeartbeats 4000000 in
theorem unique_by (w : World) (nm : ByteArray) (b n m : Nat) (vs : List Value) (kl : List V) (hn : n ≤ 1000000) (hvs : vs.length = n) (hk : kl.length = n) (hb : w.heap[b]? = some (.cells vs.toArray 20 (0, 0)))
    (hw : ∀ y ∈ kl, WL y ∧ Sz y) (hG : ∀ (j : Nat) (v : Value), vs[j]? = some v → G m w (rd_T26 kl j) v) :
    Calls Tryz.prog 118 #[.string nm, .iface 81 (.slice (some ⟨b, 0, none⟩) n n), .iface 81 (.slice (some ⟨b, 0, none⟩) n n)] w (ShowsIs (lV (uqV (sortV kl))) w) := by
  have hsh : ∀ v ∈ vs, v = .nilIface ∨ ∃ t u, v = .iface t u := fun v hv => by
    obtain ⟨j, hj, rfl⟩ := List.mem_iff_getElem.1 hv
    exact (hG j _ (List.getElem?_eq_getElem hj)).shape
  have HSI := Lib.hid (sort_items w nm b b n m vs vs kl hn hvs hvs hk hb hb hsh hw hG)
  have HG := Lib.hid (And.intro hvs (And.intro hk (And.intro hw hG)))
  have HN := Lib.hid hn
  clear hb hvs hk hw hG hn hsh
  go_enter Tryz.func118, Tryz.ntmps118
  go_wp2_with fail
  refine HSI.out.mono ?_
  rintro e w1 ⟨rfl, hb1, M, hM, hris, hst⟩
  obtain ⟨ks, hks⟩ : ∃ ks, ks = M.map (fun t : Nat => rd_T26 kl t) := ⟨_, rfl⟩
  have hmem : ∀ t ∈ M, t < n := fun t ht => by have h2 := hst.1.mem_iff.1 ht; simpa using h2
  have hE : ks = sortV kl := by
    rw [hks]
    refine sort_one (fun y hy => (HG.out.2.2.1 y hy).1) ?_ (List.pairwise_map.2 hris)
    have h1 := hst.1.map (fun t : Nat => rd_T26 kl t)
    refine h1.trans ?_
    have e2 : (List.range n).map (fun t : Nat => rd_T26 kl t) = kl := by
      refine List.ext_getElem? fun i => ?_
      by_cases c : i < n
      · rw [rd_at kl i (by rw [HG.out.2.1]; exact c)]
        simp [c]
      · rw [List.getElem?_eq_none (by simp; omega), List.getElem?_eq_none (by rw [HG.out.2.1]; omega)]
    rw [e2]
  have HKS : Hid (ks.length = n ∧ (∀ y ∈ ks, WL y ∧ Sz y) ∧ ks = sortV kl) := Lib.hid ⟨by rw [hks, List.length_map, hM.1], fun y hy => by
    rw [hE] at hy
    exact HG.out.2.2.1 y (mem_sortV.1 hy), hE⟩
  have HEL : Hid (∀ j : Nat, j < n → M.getD j 0 < n ∧ G m w1 (rd_T26 ks j) (vs.getD (M.getD j 0) .nilIface)) := Lib.hid (fun j hj => by
    have e1 : M.getD j 0 = M[j]'(by rw [hM.1]; exact hj) := by rw [List.getD_eq_getElem?_getD, List.getElem?_eq_getElem (by rw [hM.1]; exact hj)]; rfl
    have h1 : M.getD j 0 < n := hmem _ (by rw [e1]; exact List.getElem_mem _)
    refine ⟨h1, ?_⟩
    have e3 : rd_T26 ks j = rd_T26 kl (M.getD j 0 : Nat) := by
      have h2 := rd_at ks j (by rw [hks, List.length_map, hM.1]; exact hj)
      rw [hks, List.getElem?_map, List.getElem?_eq_getElem (by rw [hM.1]; exact hj)] at h2
      rw [hks, ← Option.some.inj h2, e1]
    rw [e3]
    refine (HG.out.2.2.2 _ _ ?_).keepB hb1
    generalize M.getD j 0 = t at h1 ⊢
    rw [List.getD_eq_getElem?_getD, List.getElem?_eq_getElem (by rw [HG.out.1]; exact h1)]
    rfl)
  obtain ⟨p, hp⟩ : ∃ p, p = w.heap.size := ⟨_, rfl⟩
  rw [← hp] at hM ⊢
  have H1 := Lib.hid (And.intro hb1 (And.intro hM hp))
  clear hb1 hM hris hst HSI hp hks hE hmem
  go_wp2_with fail
  obtain ⟨W2, hW2⟩ : ∃ W2, W2 = w1.alloc (.cells #[] 20) := ⟨_, rfl⟩
  have H2 := Lib.hid (show RU w1 m n ks n (.slice (some ⟨w1.heap.size, 0, none⟩) 0 0) .nilIface (.int .i64 ((0 : Nat) : Int)) W2 by
    rw [hW2]
    refine ⟨0, [], rfl, rfl, (Below.refl _ w1).alloc (Nat.le_refl _) _, ?_, ⟨by simp [uqT], fun i y u h => by simp [uqT] at h⟩, Nat.le_refl _, by simp, fun h => absurd h (by omega)⟩
    exact ⟨rfl, .inr ⟨w1.heap.size, 0, #[], rfl, Nat.le_refl _, heap_alloc_new w1 _, Nat.le_refl _, by unfold maxLen; omega, rfl, rfl⟩⟩)
  rw [← hW2]
  clear hW2
  go_loopg [9, 10, 26] n (fun k s last i wr => RU w1 m n ks k s last i wr)
  case atStart => exact H2.out
  case round =>
    clear H2
    obtain ⟨j, xs, rfl, hkj, hbr, ho, hpg, hxj, hs, hlast⟩ := hrel
    have HR := Lib.hid (And.intro hbr (And.intro ho (And.intro hpg (And.intro hxj (And.intro hs hlast)))))
    have HK := Lib.hid hkj
    clear ho hpg hxj hs hlast hkj
    by_cases hlt : j < n
    · have hMM := H1.out.2.1
      have hE := HEL.out j hlt
      have x0 := pw_cell_below hbr (hMM.2.1 j hlt)
      have c0 := (hMM.2.2 _ hE.1).1
      have c1 := (hMM.2.2 _ hE.1).2
      have x1 := pw_cell_below hbr c0
      have x2 := pw_cell_below hbr c1
      have hsv := hE.2.shape
      obtain ⟨v, hv⟩ : ∃ v, v = vs.getD (M.getD j 0) .nilIface := ⟨_, rfl⟩
      rw [← hv] at c0 c1 x1 x2 hsv
      have HV := Lib.hid (And.intro hv hE.2)
      have HCg : ∀ lastv : Value, (0 < j → G m w1 (rd_T26 ks ((j - 1 : Nat) : Int)) lastv) → ∀ w', Below w1.heap.size w1 w' → 0 < j → Calls Tryz.prog 163 #[lastv, v] w' (Gz (cmpV (rd_T26 ks ((j - 1 : Nat) : Int)) (rd_T26 ks j)) w') := fun lastv hl w' hb' h0 => by
        have k1 := HKS.out.2.1 _ (rd_mem ks (j - 1) (by rw [HKS.out.1]; omega))
        have k2 := HKS.out.2.1 _ (rd_mem ks j (by rw [HKS.out.1]; exact hlt))
        rw [hv]
        exact compare_any _ _ (Nat.lt_succ_self _) k1.1 k1.2 _ k2.1 k2.2 _ _ m m w' ((hl h0).keepB hb') (hE.2.keepB hb')
      have hC0 := HCg _ HR.out.2.2.2.2.2
      generalize p + 2 + M.getD j 0 = q at x0 x1 x2 c0 c1
      have hlt2 : (j : Int) < (n : Int) := by omega
      have HLT := Lib.hid hlt
      have HCC := Lib.hid (And.intro c0 c1)
      obtain ⟨z, hz⟩ : ∃ z, z = cmpV (rd_T26 ks ((j - 1 : Nat) : Int)) (rd_T26 ks j) := ⟨_, rfl⟩
      rw [← hz] at hC0
      have HC := Lib.hid hC0
      have HZ := Lib.hid hz
      clear hMM hE hv hz hlt c0 c1 hbr HCg hC0
      rcases hsv with rfl | ⟨tt, gg, rfl⟩
      · have HG0 : Hid (G m w1 (rd_T26 ks j) (.nilIface)) := Lib.hid (by rw [HV.out.1]; exact HV.out.2)
        by_cases h0 : j = 0
        · have hj1 : ((j : Int) == 0) = true := by rw [h0]; rfl
          have hj2 : (j == 0) = true := by rw [h0]; rfl
          have HJ3 := Lib.hid h0
          clear h0
          go_wp2_with fail
          obtain ⟨s1, wa, hrun, hA⟩ := ru_app (u := .nilIface) (pw_below_drewN HR.out.1 1) (owns_below HR.out.2.1 (pw_below_drewN (Below.refl _ _) 1)) HR.out.2.2.1 HR.out.2.2.2.1 HR.out.2.2.2.2.1 HN.out HLT.out HG0.out (Or.inl HJ3.out)
          have HRUN := Lib.hid hrun
          have HA := Lib.hid hA
          clear hrun hA
          refine start_ (n := 13) (S := fun w' => w'.cell? ⟨q, 0, none⟩ = some (.nilIface) ∧ w'.cell? ⟨q, 1, none⟩ = some (.nilIface)) (ds := []) #[false, false, false, false, false, false, false, false, false, false, false, false, false] (by kernel_rfl) rfl rfl ⟨x1, x2⟩ (fun hHeld => ?_)
          refine pure_ (i := 0) (N := some 42) (v := ?_) (a' := ?_) #[true, false, false, false, false, false, false, false, false, false, false, false, false] rfl rfl (by kernel_rfl) (fun _ _ _ h => h) (Or.inl ⟨by rfl, ?_⟩) ?_ ?_
          rotate_left
          · intro w'
            go_simp
            with_reducible rfl
          rotate_left
          · simp only [Act.put, List.setIfInBounds_toArray, List.set_cons_zero, List.set_cons_succ, i64_w, i32_w]
            rfl
          refine pure_ (i := 1) (N := some 43) (v := ?_) (a' := ?_) #[true, true, false, false, false, false, false, false, false, false, false, false, false] rfl rfl (by kernel_rfl) (fun _ _ _ h => h) (Or.inl ⟨by rfl, ?_⟩) ?_ ?_
          rotate_left
          · intro w'
            go_simp
            with_reducible rfl
          rotate_left
          · simp only [Act.put, List.setIfInBounds_toArray, List.set_cons_zero, List.set_cons_succ, i64_w, i32_w]
            rfl
          refine pure_ (i := 2) (N := some 44) (v := ?_) (a' := ?_) #[true, true, true, false, false, false, false, false, false, false, false, false, false] rfl rfl (by kernel_rfl) (fun _ _ _ h => h) (Or.inl ⟨by rfl, ?_⟩) ?_ ?_
          rotate_left
          · intro w'
            go_simp
            with_reducible rfl
          rotate_left
          · simp only [Act.put, List.setIfInBounds_toArray, List.set_cons_zero, List.set_cons_succ, i64_w, i32_w]
            rfl
          refine pure_ (i := 3) (N := some 45) (v := ?_) (a' := ?_) #[true, true, true, true, false, false, false, false, false, false, false, false, false] rfl rfl (by kernel_rfl) (fun _ _ _ h => h) (Or.inl ⟨by rfl, ?_⟩) ?_ ?_
          rotate_left
          · intro w'
            go_simp
            with_reducible rfl
          rotate_left
          · simp only [Act.put, List.setIfInBounds_toArray, List.set_cons_zero, List.set_cons_succ, i64_w, i32_w]
            rfl
          refine pure_ (i := 7) (N := some 49) (v := ?_) (a' := ?_) #[true, true, true, true, false, false, false, true, false, false, false, false, false] rfl rfl (by kernel_rfl) (fun _ _ _ h => h) (Or.inl ⟨by rfl, ?_⟩) ?_ ?_
          rotate_left
          · intro w'
            go_simp
            with_reducible rfl
          rotate_left
          · simp only [Act.put, List.setIfInBounds_toArray, List.set_cons_zero, List.set_cons_succ, i64_w, i32_w]
            rfl
          refine pure_ (i := 8) (N := some 50) (v := ?_) (a' := ?_) #[true, true, true, true, false, false, false, true, true, false, false, false, false] rfl rfl (by kernel_rfl) (fun _ _ _ h => h) (Or.inl ⟨by rfl, ?_⟩) ?_ ?_
          rotate_left
          · intro w'
            go_simp
            with_reducible rfl
          rotate_left
          · simp only [Act.put, List.setIfInBounds_toArray, List.set_cons_zero, List.set_cons_succ, i64_w, i32_w]
            rfl
          refine pure_ (i := 9) (N := some 51) (v := ?_) (a' := ?_) #[true, true, true, true, false, false, false, true, true, true, false, false, false] rfl rfl (by kernel_rfl) (fun _ _ _ h => h) (Or.inl ⟨by rfl, ?_⟩) ?_ ?_
          rotate_left
          · intro w'
            go_simp
            with_reducible rfl
          rotate_left
          · simp only [Act.put, List.setIfInBounds_toArray, List.set_cons_zero, List.set_cons_succ, i64_w, i32_w]
            rfl
          refine take_ (i := 4) (N := some 46) (v := ?_) (a' := ?_) #[true, true, true, true, true, false, false, true, true, true, false, false, false] rfl rfl (by kernel_rfl) (fun _ _ _ h => h) (Or.inl ⟨by rfl, ?_⟩) hHeld ?_ ?_
          rotate_left
          · rintro w' ⟨s0, s1⟩
            go_simp
            with_reducible rfl
          rotate_left
          · simp only [Act.put, List.setIfInBounds_toArray, List.set_cons_zero, List.set_cons_succ, i64_w, i32_w]
            rfl
          refine take_ (i := 10) (N := some 52) (v := ?_) (a' := ?_) #[true, true, true, true, true, false, false, true, true, true, true, false, false] rfl rfl (by kernel_rfl) (fun _ _ _ h => h) (Or.inl ⟨by rfl, ?_⟩) hHeld ?_ ?_
          rotate_left
          · rintro w' ⟨s0, s1⟩
            go_simp
            with_reducible rfl
          rotate_left
          · simp only [Act.put, List.setIfInBounds_toArray, List.set_cons_zero, List.set_cons_succ, i64_w, i32_w]
            rfl
          refine one_ (i := 5) (N := some 47) #[true, true, true, true, true, true, false, true, true, true, true, false, false] rfl rfl (by kernel_rfl) (by decide) (fun K hK => ?_)
          refine value_ (w1 := ?_) (v := ?_) (by rfl) rfl ?_ ?_
          rotate_left 2
          · go_simp
            constructor
            · rfl
            · rfl
          refine hK.out _ _ ⟨(pw_cell_below ((Below.refl _ _).alloc (Nat.le_refl _) _) hHeld.1), (pw_cell_below ((Below.refl _ _).alloc (Nat.le_refl _) _) hHeld.2)⟩ (fun hHeld => ?_)
          clear hK K
          refine norm_ (a' := ?_) ?_ ?_
          rotate_left
          · show Act.put _ (some 47) _ = _
            simp only [Act.put, List.setIfInBounds_toArray, List.set_cons_zero, List.set_cons_succ, i64_w, i32_w]
            rfl
          refine one_ (i := 6) (N := some 48) #[true, true, true, true, true, true, true, true, true, true, true, false, false] rfl rfl (by kernel_rfl) (by decide) (fun K hK => ?_)
          refine append_step_ (by rfl) rfl rfl rfl rfl rfl HRUN.out ?_
          refine hK.out _ _ ⟨(pw_cell_below HA.out.1 HCC.out.1), (pw_cell_below HA.out.1 HCC.out.2)⟩ (fun hHeld => ?_)
          clear hK K
          refine norm_ (a' := ?_) ?_ ?_
          rotate_left
          · show Act.put _ (some 48) _ = _
            simp only [Act.put, List.setIfInBounds_toArray, List.set_cons_zero, List.set_cons_succ, i64_w, i32_w]
            rfl
          refine pure_ (i := 11) (N := some 9) (v := ?_) (a' := ?_) #[true, true, true, true, true, true, true, true, true, true, true, true, false] rfl rfl (by kernel_rfl) (fun _ _ _ h => h) (Or.inl ⟨by rfl, ?_⟩) ?_ ?_
          rotate_left
          · intro w'
            go_simp
            with_reducible rfl
          rotate_left
          · simp only [Act.put, List.setIfInBounds_toArray, List.set_cons_zero, List.set_cons_succ, i64_w, i32_w]
            rfl
          refine pure_ (i := 12) (N := some 10) (v := ?_) (a' := ?_) #[true, true, true, true, true, true, true, true, true, true, true, true, true] rfl rfl (by kernel_rfl) (fun _ _ _ h => h) (Or.inl ⟨by rfl, ?_⟩) ?_ ?_
          rotate_left
          · intro w'
            go_simp
            with_reducible rfl
          rotate_left
          · simp only [Act.put, List.setIfInBounds_toArray, List.set_cons_zero, List.set_cons_succ, i64_w, i32_w]
            rfl
          refine done_ (by kernel_rfl) ?_
          go_wp2_with fail
          go_roundg (gk - 1)
          case measure => have := HK.out; have := HLT.out; omega
          case rel =>
            have hw : wrap64 ((j : Int) + 1) = ((j + 1 : Nat) : Int) := by have := HN.out; have := HLT.out; unfold wrap64; omega
            rw [hw]
            obtain ⟨hbw, xs1, h1, h2, h3, h4⟩ := HA.out
            exact ⟨j + 1, xs1, rfl, by have := HK.out; have := HLT.out; omega, hbw, h1, h2, h3, h4, fun _ => by rw [Nat.add_sub_cancel]; exact HG0.out⟩
        · have hj1 : ((j : Int) == 0) = false := by rw [Bool.eq_false_iff]; intro h; rw [beq_iff_eq] at h; omega
          have hj2 : (j == 0) = false := by rw [Bool.eq_false_iff]; intro h; rw [beq_iff_eq] at h; omega
          have hC := HC.out _ HR.out.1 (by omega)
          have HC2 := Lib.hid hC
          have HJ := Lib.hid h0
          clear h0 hC
          go_wp2_with fail
          refine HC2.out.mono ?_
          rintro e w5 ⟨rfl, hb5⟩
          have y1 := pw_cell_below hb5 x1
          have y2 := pw_cell_below hb5 x2
          have H5 := Lib.hid (And.intro hb5 (HR.out.1.trans (hb5.mono HR.out.1.size)))
          clear hb5 x0 x1 x2
          by_cases hz0 : z = 0
          · have hz1 : (z == 0) = true := by rw [hz0]; rfl
            have hz2 : (z != 0) = false := by rw [hz0]; rfl
            have HZ0 := Lib.hid hz0
            clear hz0
            go_wp2_with fail
            go_roundg (gk - 1)
            case measure => have := HK.out; have := HLT.out; omega
            case rel =>
              have hw : wrap64 ((j : Int) + 1) = ((j + 1 : Nat) : Int) := by have := HN.out; have := HLT.out; unfold wrap64; omega
              rw [hw]
              refine ⟨j + 1, xs, rfl, by have := HK.out; have := HLT.out; omega, H5.out.2, owns_below HR.out.2.1 H5.out.1, ?_, by have := HR.out.2.2.2.1; omega, HR.out.2.2.2.2.1, fun _ => ?_⟩
              · rw [uqT_succ, if_neg (fun h => h.elim (fun h => HJ.out h) (fun h => h (by rw [← HZ.out]; exact HZ0.out))), List.append_nil]
                exact HR.out.2.2.1
              · have k1 := HKS.out.2.1 _ (rd_mem ks (j - 1) (by rw [HKS.out.1]; have := HLT.out; omega))
                have k2 := HKS.out.2.1 _ (rd_mem ks j (by rw [HKS.out.1]; exact HLT.out))
                rw [Nat.add_sub_cancel, ← cmp_eq _ _ (Nat.lt_succ_self _) _ k1.1 k2.1 (by rw [← HZ.out]; exact HZ0.out)]
                exact HR.out.2.2.2.2.2 (by have := HJ.out; omega)
          · have hz1 : (z == 0) = false := by rw [Bool.eq_false_iff]; intro h; rw [beq_iff_eq] at h; exact hz0 h
            have hz2 : (z != 0) = true := by simp [bne, hz1]
            have HZ0 := Lib.hid hz0
            clear hz0
            go_wp2_with fail
            obtain ⟨s1, wa, hrun, hA⟩ := ru_app (u := .nilIface) (pw_below_drewN H5.out.2 1) (owns_below HR.out.2.1 (pw_below_drewN H5.out.1 1)) HR.out.2.2.1 HR.out.2.2.2.1 HR.out.2.2.2.2.1 HN.out HLT.out HG0.out (Or.inr (by rw [← HZ.out]; exact HZ0.out))
            have HRUN := Lib.hid hrun
            have HA := Lib.hid hA
            clear hrun hA
            refine start_ (n := 13) (S := fun w' => w'.cell? ⟨q, 0, none⟩ = some (.nilIface) ∧ w'.cell? ⟨q, 1, none⟩ = some (.nilIface)) (ds := []) #[false, false, false, false, false, false, false, false, false, false, false, false, false] (by kernel_rfl) rfl rfl ⟨y1, y2⟩ (fun hHeld => ?_)
            refine pure_ (i := 0) (N := some 42) (v := ?_) (a' := ?_) #[true, false, false, false, false, false, false, false, false, false, false, false, false] rfl rfl (by kernel_rfl) (fun _ _ _ h => h) (Or.inl ⟨by rfl, ?_⟩) ?_ ?_
            rotate_left
            · intro w'
              go_simp
              with_reducible rfl
            rotate_left
            · simp only [Act.put, List.setIfInBounds_toArray, List.set_cons_zero, List.set_cons_succ, i64_w, i32_w]
              rfl
            refine pure_ (i := 1) (N := some 43) (v := ?_) (a' := ?_) #[true, true, false, false, false, false, false, false, false, false, false, false, false] rfl rfl (by kernel_rfl) (fun _ _ _ h => h) (Or.inl ⟨by rfl, ?_⟩) ?_ ?_
            rotate_left
            · intro w'
              go_simp
              with_reducible rfl
            rotate_left
            · simp only [Act.put, List.setIfInBounds_toArray, List.set_cons_zero, List.set_cons_succ, i64_w, i32_w]
              rfl
            refine pure_ (i := 2) (N := some 44) (v := ?_) (a' := ?_) #[true, true, true, false, false, false, false, false, false, false, false, false, false] rfl rfl (by kernel_rfl) (fun _ _ _ h => h) (Or.inl ⟨by rfl, ?_⟩) ?_ ?_
            rotate_left
            · intro w'
              go_simp
              with_reducible rfl
            rotate_left
            · simp only [Act.put, List.setIfInBounds_toArray, List.set_cons_zero, List.set_cons_succ, i64_w, i32_w]
              rfl
            refine pure_ (i := 3) (N := some 45) (v := ?_) (a' := ?_) #[true, true, true, true, false, false, false, false, false, false, false, false, false] rfl rfl (by kernel_rfl) (fun _ _ _ h => h) (Or.inl ⟨by rfl, ?_⟩) ?_ ?_
            rotate_left
            · intro w'
              go_simp
              with_reducible rfl
            rotate_left
            · simp only [Act.put, List.setIfInBounds_toArray, List.set_cons_zero, List.set_cons_succ, i64_w, i32_w]
              rfl
            refine pure_ (i := 7) (N := some 49) (v := ?_) (a' := ?_) #[true, true, true, true, false, false, false, true, false, false, false, false, false] rfl rfl (by kernel_rfl) (fun _ _ _ h => h) (Or.inl ⟨by rfl, ?_⟩) ?_ ?_
            rotate_left
            · intro w'
              go_simp
              with_reducible rfl
            rotate_left
            · simp only [Act.put, List.setIfInBounds_toArray, List.set_cons_zero, List.set_cons_succ, i64_w, i32_w]
              rfl
            refine pure_ (i := 8) (N := some 50) (v := ?_) (a' := ?_) #[true, true, true, true, false, false, false, true, true, false, false, false, false] rfl rfl (by kernel_rfl) (fun _ _ _ h => h) (Or.inl ⟨by rfl, ?_⟩) ?_ ?_
            rotate_left
            · intro w'
              go_simp
              with_reducible rfl
            rotate_left
            · simp only [Act.put, List.setIfInBounds_toArray, List.set_cons_zero, List.set_cons_succ, i64_w, i32_w]
              rfl
            refine pure_ (i := 9) (N := some 51) (v := ?_) (a' := ?_) #[true, true, true, true, false, false, false, true, true, true, false, false, false] rfl rfl (by kernel_rfl) (fun _ _ _ h => h) (Or.inl ⟨by rfl, ?_⟩) ?_ ?_
            rotate_left
            · intro w'
              go_simp
              with_reducible rfl
            rotate_left
            · simp only [Act.put, List.setIfInBounds_toArray, List.set_cons_zero, List.set_cons_succ, i64_w, i32_w]
              rfl
            refine take_ (i := 4) (N := some 46) (v := ?_) (a' := ?_) #[true, true, true, true, true, false, false, true, true, true, false, false, false] rfl rfl (by kernel_rfl) (fun _ _ _ h => h) (Or.inl ⟨by rfl, ?_⟩) hHeld ?_ ?_
            rotate_left
            · rintro w' ⟨s0, s1⟩
              go_simp
              with_reducible rfl
            rotate_left
            · simp only [Act.put, List.setIfInBounds_toArray, List.set_cons_zero, List.set_cons_succ, i64_w, i32_w]
              rfl
            refine take_ (i := 10) (N := some 52) (v := ?_) (a' := ?_) #[true, true, true, true, true, false, false, true, true, true, true, false, false] rfl rfl (by kernel_rfl) (fun _ _ _ h => h) (Or.inl ⟨by rfl, ?_⟩) hHeld ?_ ?_
            rotate_left
            · rintro w' ⟨s0, s1⟩
              go_simp
              with_reducible rfl
            rotate_left
            · simp only [Act.put, List.setIfInBounds_toArray, List.set_cons_zero, List.set_cons_succ, i64_w, i32_w]
              rfl
            refine one_ (i := 5) (N := some 47) #[true, true, true, true, true, true, false, true, true, true, true, false, false] rfl rfl (by kernel_rfl) (by decide) (fun K hK => ?_)
            refine value_ (w1 := ?_) (v := ?_) (by rfl) rfl ?_ ?_
            rotate_left 2
            · go_simp
              constructor
              · rfl
              · rfl
            refine hK.out _ _ ⟨(pw_cell_below ((Below.refl _ _).alloc (Nat.le_refl _) _) hHeld.1), (pw_cell_below ((Below.refl _ _).alloc (Nat.le_refl _) _) hHeld.2)⟩ (fun hHeld => ?_)
            clear hK K
            refine norm_ (a' := ?_) ?_ ?_
            rotate_left
            · show Act.put _ (some 47) _ = _
              simp only [Act.put, List.setIfInBounds_toArray, List.set_cons_zero, List.set_cons_succ, i64_w, i32_w]
              rfl
            refine one_ (i := 6) (N := some 48) #[true, true, true, true, true, true, true, true, true, true, true, false, false] rfl rfl (by kernel_rfl) (by decide) (fun K hK => ?_)
            refine append_step_ (by rfl) rfl rfl rfl rfl rfl HRUN.out ?_
            refine hK.out _ _ ⟨(pw_cell_below HA.out.1 HCC.out.1), (pw_cell_below HA.out.1 HCC.out.2)⟩ (fun hHeld => ?_)
            clear hK K
            refine norm_ (a' := ?_) ?_ ?_
            rotate_left
            · show Act.put _ (some 48) _ = _
              simp only [Act.put, List.setIfInBounds_toArray, List.set_cons_zero, List.set_cons_succ, i64_w, i32_w]
              rfl
            refine pure_ (i := 11) (N := some 9) (v := ?_) (a' := ?_) #[true, true, true, true, true, true, true, true, true, true, true, true, false] rfl rfl (by kernel_rfl) (fun _ _ _ h => h) (Or.inl ⟨by rfl, ?_⟩) ?_ ?_
            rotate_left
            · intro w'
              go_simp
              with_reducible rfl
            rotate_left
            · simp only [Act.put, List.setIfInBounds_toArray, List.set_cons_zero, List.set_cons_succ, i64_w, i32_w]
              rfl
            refine pure_ (i := 12) (N := some 10) (v := ?_) (a' := ?_) #[true, true, true, true, true, true, true, true, true, true, true, true, true] rfl rfl (by kernel_rfl) (fun _ _ _ h => h) (Or.inl ⟨by rfl, ?_⟩) ?_ ?_
            rotate_left
            · intro w'
              go_simp
              with_reducible rfl
            rotate_left
            · simp only [Act.put, List.setIfInBounds_toArray, List.set_cons_zero, List.set_cons_succ, i64_w, i32_w]
              rfl
            refine done_ (by kernel_rfl) ?_
            go_wp2_with fail
            go_roundg (gk - 1)
            case measure => have := HK.out; have := HLT.out; omega
            case rel =>
              have hw : wrap64 ((j : Int) + 1) = ((j + 1 : Nat) : Int) := by have := HN.out; have := HLT.out; unfold wrap64; omega
              rw [hw]
              obtain ⟨hbw, xs1, h1, h2, h3, h4⟩ := HA.out
              exact ⟨j + 1, xs1, rfl, by have := HK.out; have := HLT.out; omega, hbw, h1, h2, h3, h4, fun _ => by rw [Nat.add_sub_cancel]; exact HG0.out⟩
      · have HG0 : Hid (G m w1 (rd_T26 ks j) (.iface tt gg)) := Lib.hid (by rw [HV.out.1]; exact HV.out.2)
        by_cases h0 : j = 0
        · have hj1 : ((j : Int) == 0) = true := by rw [h0]; rfl
          have hj2 : (j == 0) = true := by rw [h0]; rfl
          have HJ3 := Lib.hid h0
          clear h0
          go_wp2_with fail
          obtain ⟨s1, wa, hrun, hA⟩ := ru_app (u := .iface tt gg) (pw_below_drewN HR.out.1 1) (owns_below HR.out.2.1 (pw_below_drewN (Below.refl _ _) 1)) HR.out.2.2.1 HR.out.2.2.2.1 HR.out.2.2.2.2.1 HN.out HLT.out HG0.out (Or.inl HJ3.out)
          have HRUN := Lib.hid hrun
          have HA := Lib.hid hA
          clear hrun hA
          refine start_ (n := 13) (S := fun w' => w'.cell? ⟨q, 0, none⟩ = some (.iface tt gg) ∧ w'.cell? ⟨q, 1, none⟩ = some (.iface tt gg)) (ds := []) #[false, false, false, false, false, false, false, false, false, false, false, false, false] (by kernel_rfl) rfl rfl ⟨x1, x2⟩ (fun hHeld => ?_)
          refine pure_ (i := 0) (N := some 42) (v := ?_) (a' := ?_) #[true, false, false, false, false, false, false, false, false, false, false, false, false] rfl rfl (by kernel_rfl) (fun _ _ _ h => h) (Or.inl ⟨by rfl, ?_⟩) ?_ ?_
          rotate_left
          · intro w'
            go_simp
            with_reducible rfl
          rotate_left
          · simp only [Act.put, List.setIfInBounds_toArray, List.set_cons_zero, List.set_cons_succ, i64_w, i32_w]
            rfl
          refine pure_ (i := 1) (N := some 43) (v := ?_) (a' := ?_) #[true, true, false, false, false, false, false, false, false, false, false, false, false] rfl rfl (by kernel_rfl) (fun _ _ _ h => h) (Or.inl ⟨by rfl, ?_⟩) ?_ ?_
          rotate_left
          · intro w'
            go_simp
            with_reducible rfl
          rotate_left
          · simp only [Act.put, List.setIfInBounds_toArray, List.set_cons_zero, List.set_cons_succ, i64_w, i32_w]
            rfl
          refine pure_ (i := 2) (N := some 44) (v := ?_) (a' := ?_) #[true, true, true, false, false, false, false, false, false, false, false, false, false] rfl rfl (by kernel_rfl) (fun _ _ _ h => h) (Or.inl ⟨by rfl, ?_⟩) ?_ ?_
          rotate_left
          · intro w'
            go_simp
            with_reducible rfl
          rotate_left
          · simp only [Act.put, List.setIfInBounds_toArray, List.set_cons_zero, List.set_cons_succ, i64_w, i32_w]
            rfl
          refine pure_ (i := 3) (N := some 45) (v := ?_) (a' := ?_) #[true, true, true, true, false, false, false, false, false, false, false, false, false] rfl rfl (by kernel_rfl) (fun _ _ _ h => h) (Or.inl ⟨by rfl, ?_⟩) ?_ ?_
          rotate_left
          · intro w'
            go_simp
            with_reducible rfl
          rotate_left
          · simp only [Act.put, List.setIfInBounds_toArray, List.set_cons_zero, List.set_cons_succ, i64_w, i32_w]
            rfl
          refine pure_ (i := 7) (N := some 49) (v := ?_) (a' := ?_) #[true, true, true, true, false, false, false, true, false, false, false, false, false] rfl rfl (by kernel_rfl) (fun _ _ _ h => h) (Or.inl ⟨by rfl, ?_⟩) ?_ ?_
          rotate_left
          · intro w'
            go_simp
            with_reducible rfl
          rotate_left
          · simp only [Act.put, List.setIfInBounds_toArray, List.set_cons_zero, List.set_cons_succ, i64_w, i32_w]
            rfl
          refine pure_ (i := 8) (N := some 50) (v := ?_) (a' := ?_) #[true, true, true, true, false, false, false, true, true, false, false, false, false] rfl rfl (by kernel_rfl) (fun _ _ _ h => h) (Or.inl ⟨by rfl, ?_⟩) ?_ ?_
          rotate_left
          · intro w'
            go_simp
            with_reducible rfl
          rotate_left
          · simp only [Act.put, List.setIfInBounds_toArray, List.set_cons_zero, List.set_cons_succ, i64_w, i32_w]
            rfl
          refine pure_ (i := 9) (N := some 51) (v := ?_) (a' := ?_) #[true, true, true, true, false, false, false, true, true, true, false, false, false] rfl rfl (by kernel_rfl) (fun _ _ _ h => h) (Or.inl ⟨by rfl, ?_⟩) ?_ ?_
          rotate_left
          · intro w'
            go_simp
            with_reducible rfl
          rotate_left
          · simp only [Act.put, List.setIfInBounds_toArray, List.set_cons_zero, List.set_cons_succ, i64_w, i32_w]
            rfl
          refine take_ (i := 4) (N := some 46) (v := ?_) (a' := ?_) #[true, true, true, true, true, false, false, true, true, true, false, false, false] rfl rfl (by kernel_rfl) (fun _ _ _ h => h) (Or.inl ⟨by rfl, ?_⟩) hHeld ?_ ?_
          rotate_left
          · rintro w' ⟨s0, s1⟩
            go_simp
            with_reducible rfl
          rotate_left
          · simp only [Act.put, List.setIfInBounds_toArray, List.set_cons_zero, List.set_cons_succ, i64_w, i32_w]
            rfl
          refine take_ (i := 10) (N := some 52) (v := ?_) (a' := ?_) #[true, true, true, true, true, false, false, true, true, true, true, false, false] rfl rfl (by kernel_rfl) (fun _ _ _ h => h) (Or.inl ⟨by rfl, ?_⟩) hHeld ?_ ?_
          rotate_left
          · rintro w' ⟨s0, s1⟩
            go_simp
            with_reducible rfl
          rotate_left
          · simp only [Act.put, List.setIfInBounds_toArray, List.set_cons_zero, List.set_cons_succ, i64_w, i32_w]
            rfl
          refine one_ (i := 5) (N := some 47) #[true, true, true, true, true, true, false, true, true, true, true, false, false] rfl rfl (by kernel_rfl) (by decide) (fun K hK => ?_)
          refine value_ (w1 := ?_) (v := ?_) (by rfl) rfl ?_ ?_
          rotate_left 2
          · go_simp
            constructor
            · rfl
            · rfl
          refine hK.out _ _ ⟨(pw_cell_below ((Below.refl _ _).alloc (Nat.le_refl _) _) hHeld.1), (pw_cell_below ((Below.refl _ _).alloc (Nat.le_refl _) _) hHeld.2)⟩ (fun hHeld => ?_)
          clear hK K
          refine norm_ (a' := ?_) ?_ ?_
          rotate_left
          · show Act.put _ (some 47) _ = _
            simp only [Act.put, List.setIfInBounds_toArray, List.set_cons_zero, List.set_cons_succ, i64_w, i32_w]
            rfl
          refine one_ (i := 6) (N := some 48) #[true, true, true, true, true, true, true, true, true, true, true, false, false] rfl rfl (by kernel_rfl) (by decide) (fun K hK => ?_)
          refine append_step_ (by rfl) rfl rfl rfl rfl rfl HRUN.out ?_
          refine hK.out _ _ ⟨(pw_cell_below HA.out.1 HCC.out.1), (pw_cell_below HA.out.1 HCC.out.2)⟩ (fun hHeld => ?_)
          clear hK K
          refine norm_ (a' := ?_) ?_ ?_
          rotate_left
          · show Act.put _ (some 48) _ = _
            simp only [Act.put, List.setIfInBounds_toArray, List.set_cons_zero, List.set_cons_succ, i64_w, i32_w]
            rfl
          refine pure_ (i := 11) (N := some 9) (v := ?_) (a' := ?_) #[true, true, true, true, true, true, true, true, true, true, true, true, false] rfl rfl (by kernel_rfl) (fun _ _ _ h => h) (Or.inl ⟨by rfl, ?_⟩) ?_ ?_
          rotate_left
          · intro w'
            go_simp
            with_reducible rfl
          rotate_left
          · simp only [Act.put, List.setIfInBounds_toArray, List.set_cons_zero, List.set_cons_succ, i64_w, i32_w]
            rfl
          refine pure_ (i := 12) (N := some 10) (v := ?_) (a' := ?_) #[true, true, true, true, true, true, true, true, true, true, true, true, true] rfl rfl (by kernel_rfl) (fun _ _ _ h => h) (Or.inl ⟨by rfl, ?_⟩) ?_ ?_
          rotate_left
          · intro w'
            go_simp
            with_reducible rfl
          rotate_left
          · simp only [Act.put, List.setIfInBounds_toArray, List.set_cons_zero, List.set_cons_succ, i64_w, i32_w]
            rfl
          refine done_ (by kernel_rfl) ?_
          go_wp2_with fail
          go_roundg (gk - 1)
          case measure => have := HK.out; have := HLT.out; omega
          case rel =>
            have hw : wrap64 ((j : Int) + 1) = ((j + 1 : Nat) : Int) := by have := HN.out; have := HLT.out; unfold wrap64; omega
            rw [hw]
            obtain ⟨hbw, xs1, h1, h2, h3, h4⟩ := HA.out
            exact ⟨j + 1, xs1, rfl, by have := HK.out; have := HLT.out; omega, hbw, h1, h2, h3, h4, fun _ => by rw [Nat.add_sub_cancel]; exact HG0.out⟩
        · have hj1 : ((j : Int) == 0) = false := by rw [Bool.eq_false_iff]; intro h; rw [beq_iff_eq] at h; omega
          have hj2 : (j == 0) = false := by rw [Bool.eq_false_iff]; intro h; rw [beq_iff_eq] at h; omega
          have hC := HC.out _ HR.out.1 (by omega)
          have HC2 := Lib.hid hC
          have HJ := Lib.hid h0
          clear h0 hC
          go_wp2_with fail
          refine HC2.out.mono ?_
          rintro e w5 ⟨rfl, hb5⟩
          have y1 := pw_cell_below hb5 x1
          have y2 := pw_cell_below hb5 x2
          have H5 := Lib.hid (And.intro hb5 (HR.out.1.trans (hb5.mono HR.out.1.size)))
          clear hb5 x0 x1 x2
          by_cases hz0 : z = 0
          · have hz1 : (z == 0) = true := by rw [hz0]; rfl
            have hz2 : (z != 0) = false := by rw [hz0]; rfl
            have HZ0 := Lib.hid hz0
            clear hz0
            go_wp2_with fail
            go_roundg (gk - 1)
            case measure => have := HK.out; have := HLT.out; omega
            case rel =>
              have hw : wrap64 ((j : Int) + 1) = ((j + 1 : Nat) : Int) := by have := HN.out; have := HLT.out; unfold wrap64; omega
              rw [hw]
              refine ⟨j + 1, xs, rfl, by have := HK.out; have := HLT.out; omega, H5.out.2, owns_below HR.out.2.1 H5.out.1, ?_, by have := HR.out.2.2.2.1; omega, HR.out.2.2.2.2.1, fun _ => ?_⟩
              · rw [uqT_succ, if_neg (fun h => h.elim (fun h => HJ.out h) (fun h => h (by rw [← HZ.out]; exact HZ0.out))), List.append_nil]
                exact HR.out.2.2.1
              · have k1 := HKS.out.2.1 _ (rd_mem ks (j - 1) (by rw [HKS.out.1]; have := HLT.out; omega))
                have k2 := HKS.out.2.1 _ (rd_mem ks j (by rw [HKS.out.1]; exact HLT.out))
                rw [Nat.add_sub_cancel, ← cmp_eq _ _ (Nat.lt_succ_self _) _ k1.1 k2.1 (by rw [← HZ.out]; exact HZ0.out)]
                exact HR.out.2.2.2.2.2 (by have := HJ.out; omega)
          · have hz1 : (z == 0) = false := by rw [Bool.eq_false_iff]; intro h; rw [beq_iff_eq] at h; exact hz0 h
            have hz2 : (z != 0) = true := by simp [bne, hz1]
            have HZ0 := Lib.hid hz0
            clear hz0
            go_wp2_with fail
            obtain ⟨s1, wa, hrun, hA⟩ := ru_app (u := .iface tt gg) (pw_below_drewN H5.out.2 1) (owns_below HR.out.2.1 (pw_below_drewN H5.out.1 1)) HR.out.2.2.1 HR.out.2.2.2.1 HR.out.2.2.2.2.1 HN.out HLT.out HG0.out (Or.inr (by rw [← HZ.out]; exact HZ0.out))
            have HRUN := Lib.hid hrun
            have HA := Lib.hid hA
            clear hrun hA
            refine start_ (n := 13) (S := fun w' => w'.cell? ⟨q, 0, none⟩ = some (.iface tt gg) ∧ w'.cell? ⟨q, 1, none⟩ = some (.iface tt gg)) (ds := []) #[false, false, false, false, false, false, false, false, false, false, false, false, false] (by kernel_rfl) rfl rfl ⟨y1, y2⟩ (fun hHeld => ?_)
            refine pure_ (i := 0) (N := some 42) (v := ?_) (a' := ?_) #[true, false, false, false, false, false, false, false, false, false, false, false, false] rfl rfl (by kernel_rfl) (fun _ _ _ h => h) (Or.inl ⟨by rfl, ?_⟩) ?_ ?_
            rotate_left
            · intro w'
              go_simp
              with_reducible rfl
            rotate_left
            · simp only [Act.put, List.setIfInBounds_toArray, List.set_cons_zero, List.set_cons_succ, i64_w, i32_w]
              rfl
            refine pure_ (i := 1) (N := some 43) (v := ?_) (a' := ?_) #[true, true, false, false, false, false, false, false, false, false, false, false, false] rfl rfl (by kernel_rfl) (fun _ _ _ h => h) (Or.inl ⟨by rfl, ?_⟩) ?_ ?_
            rotate_left
            · intro w'
              go_simp
              with_reducible rfl
            rotate_left
            · simp only [Act.put, List.setIfInBounds_toArray, List.set_cons_zero, List.set_cons_succ, i64_w, i32_w]
              rfl
            refine pure_ (i := 2) (N := some 44) (v := ?_) (a' := ?_) #[true, true, true, false, false, false, false, false, false, false, false, false, false] rfl rfl (by kernel_rfl) (fun _ _ _ h => h) (Or.inl ⟨by rfl, ?_⟩) ?_ ?_
            rotate_left
            · intro w'
              go_simp
              with_reducible rfl
            rotate_left
            · simp only [Act.put, List.setIfInBounds_toArray, List.set_cons_zero, List.set_cons_succ, i64_w, i32_w]
              rfl
            refine pure_ (i := 3) (N := some 45) (v := ?_) (a' := ?_) #[true, true, true, true, false, false, false, false, false, false, false, false, false] rfl rfl (by kernel_rfl) (fun _ _ _ h => h) (Or.inl ⟨by rfl, ?_⟩) ?_ ?_
            rotate_left
            · intro w'
              go_simp
              with_reducible rfl
            rotate_left
            · simp only [Act.put, List.setIfInBounds_toArray, List.set_cons_zero, List.set_cons_succ, i64_w, i32_w]
              rfl
            refine pure_ (i := 7) (N := some 49) (v := ?_) (a' := ?_) #[true, true, true, true, false, false, false, true, false, false, false, false, false] rfl rfl (by kernel_rfl) (fun _ _ _ h => h) (Or.inl ⟨by rfl, ?_⟩) ?_ ?_
            rotate_left
            · intro w'
              go_simp
              with_reducible rfl
            rotate_left
            · simp only [Act.put, List.setIfInBounds_toArray, List.set_cons_zero, List.set_cons_succ, i64_w, i32_w]
              rfl
            refine pure_ (i := 8) (N := some 50) (v := ?_) (a' := ?_) #[true, true, true, true, false, false, false, true, true, false, false, false, false] rfl rfl (by kernel_rfl) (fun _ _ _ h => h) (Or.inl ⟨by rfl, ?_⟩) ?_ ?_
            rotate_left
            · intro w'
              go_simp
              with_reducible rfl
            rotate_left
            · simp only [Act.put, List.setIfInBounds_toArray, List.set_cons_zero, List.set_cons_succ, i64_w, i32_w]
              rfl
            refine pure_ (i := 9) (N := some 51) (v := ?_) (a' := ?_) #[true, true, true, true, false, false, false, true, true, true, false, false, false] rfl rfl (by kernel_rfl) (fun _ _ _ h => h) (Or.inl ⟨by rfl, ?_⟩) ?_ ?_
            rotate_left
            · intro w'
              go_simp
              with_reducible rfl
            rotate_left
            · simp only [Act.put, List.setIfInBounds_toArray, List.set_cons_zero, List.set_cons_succ, i64_w, i32_w]
              rfl
            refine take_ (i := 4) (N := some 46) (v := ?_) (a' := ?_) #[true, true, true, true, true, false, false, true, true, true, false, false, false] rfl rfl (by kernel_rfl) (fun _ _ _ h => h) (Or.inl ⟨by rfl, ?_⟩) hHeld ?_ ?_
            rotate_left
            · rintro w' ⟨s0, s1⟩
              go_simp
              with_reducible rfl
            rotate_left
            · simp only [Act.put, List.setIfInBounds_toArray, List.set_cons_zero, List.set_cons_succ, i64_w, i32_w]
              rfl
            refine take_ (i := 10) (N := some 52) (v := ?_) (a' := ?_) #[true, true, true, true, true, false, false, true, true, true, true, false, false] rfl rfl (by kernel_rfl) (fun _ _ _ h => h) (Or.inl ⟨by rfl, ?_⟩) hHeld ?_ ?_
            rotate_left
            · rintro w' ⟨s0, s1⟩
              go_simp
              with_reducible rfl
            rotate_left
            · simp only [Act.put, List.setIfInBounds_toArray, List.set_cons_zero, List.set_cons_succ, i64_w, i32_w]
              rfl
            refine one_ (i := 5) (N := some 47) #[true, true, true, true, true, true, false, true, true, true, true, false, false] rfl rfl (by kernel_rfl) (by decide) (fun K hK => ?_)
            refine value_ (w1 := ?_) (v := ?_) (by rfl) rfl ?_ ?_
            rotate_left 2
            · go_simp
              constructor
              · rfl
              · rfl
            refine hK.out _ _ ⟨(pw_cell_below ((Below.refl _ _).alloc (Nat.le_refl _) _) hHeld.1), (pw_cell_below ((Below.refl _ _).alloc (Nat.le_refl _) _) hHeld.2)⟩ (fun hHeld => ?_)
            clear hK K
            refine norm_ (a' := ?_) ?_ ?_
            rotate_left
            · show Act.put _ (some 47) _ = _
              simp only [Act.put, List.setIfInBounds_toArray, List.set_cons_zero, List.set_cons_succ, i64_w, i32_w]
              rfl
            refine one_ (i := 6) (N := some 48) #[true, true, true, true, true, true, true, true, true, true, true, false, false] rfl rfl (by kernel_rfl) (by decide) (fun K hK => ?_)
            refine append_step_ (by rfl) rfl rfl rfl rfl rfl HRUN.out ?_
            refine hK.out _ _ ⟨(pw_cell_below HA.out.1 HCC.out.1), (pw_cell_below HA.out.1 HCC.out.2)⟩ (fun hHeld => ?_)
            clear hK K
            refine norm_ (a' := ?_) ?_ ?_
            rotate_left
            · show Act.put _ (some 48) _ = _
              simp only [Act.put, List.setIfInBounds_toArray, List.set_cons_zero, List.set_cons_succ, i64_w, i32_w]
              rfl
            refine pure_ (i := 11) (N := some 9) (v := ?_) (a' := ?_) #[true, true, true, true, true, true, true, true, true, true, true, true, false] rfl rfl (by kernel_rfl) (fun _ _ _ h => h) (Or.inl ⟨by rfl, ?_⟩) ?_ ?_
            rotate_left
            · intro w'
              go_simp
              with_reducible rfl
            rotate_left
            · simp only [Act.put, List.setIfInBounds_toArray, List.set_cons_zero, List.set_cons_succ, i64_w, i32_w]
              rfl
            refine pure_ (i := 12) (N := some 10) (v := ?_) (a' := ?_) #[true, true, true, true, true, true, true, true, true, true, true, true, true] rfl rfl (by kernel_rfl) (fun _ _ _ h => h) (Or.inl ⟨by rfl, ?_⟩) ?_ ?_
            rotate_left
            · intro w'
              go_simp
              with_reducible rfl
            rotate_left
            · simp only [Act.put, List.setIfInBounds_toArray, List.set_cons_zero, List.set_cons_succ, i64_w, i32_w]
              rfl
            refine done_ (by kernel_rfl) ?_
            go_wp2_with fail
            go_roundg (gk - 1)
            case measure => have := HK.out; have := HLT.out; omega
            case rel =>
              have hw : wrap64 ((j : Int) + 1) = ((j + 1 : Nat) : Int) := by have := HN.out; have := HLT.out; unfold wrap64; omega
              rw [hw]
              obtain ⟨hbw, xs1, h1, h2, h3, h4⟩ := HA.out
              exact ⟨j + 1, xs1, rfl, by have := HK.out; have := HLT.out; omega, hbw, h1, h2, h3, h4, fun _ => by rw [Nat.add_sub_cancel]; exact HG0.out⟩
    · have hj : j = n := by have := HK.out; omega
      subst hj
      have hlt2 : ¬ (j : Int) < (j : Int) := by omega
      have hlt3 : decide ((j : Int) < (j : Int)) = false := decide_eq_false hlt2
      have hlt4 : decide (j < j) = false := decide_eq_false hlt
      clear hbr hlt hlt2
      go_wp2_with fail
      go_ret
      refine ⟨_, rfl, ?_, H1.out.1.trans (HR.out.1.mono H1.out.1.size)⟩
      rw [← HKS.out.2.2]
      refine ru_end HR.out.1 HR.out.2.1 (by unfold uqV; rw [HKS.out.1]; exact HR.out.2.2.1) HR.out.2.2.2.2.1 (by rw [HKS.out.1]; exact HN.out) (fun y hy => ?_)
      have hr : Ris ltV ks := by rw [HKS.out.2.2]; exact sortV_ris kl
      exact HKS.out.2.1 y ((mem_uq hr (fun y hy => (HKS.out.2.1 y hy).1)).1 hy)
/-- unique of an array. -/
theorem unique_list {w : World} {x : V} {g : Value} {n : Nat} (nm : ByteArray) (h5 : x.f0 = 5) (hx : WL x) (zx : Sz x) (hG : G n w x g) : Calls Tryz.prog 118 #[.string nm, g, g] w (ShowsIs (lV (uqV (sortV x.f3))) w) := by
  obtain ⟨b, l, rfl, _, hl, hw, he⟩ := hG.list_inv h5
  exact unique_by w nm b x.f3.length n l x.f3 (by cases hx; assumption) hl rfl hw (fun y hy => ⟨hx.h3 y hy, sz_h3 zx y hy⟩) fun j v hv => he j _ v (rd_at x.f3 j (by have := (List.getElem?_eq_some_iff.1 hv).1; omega)) hv
set_option maxHeartbeats 4000000 in
theorem zz_Unique {w : World} {x : V} {g : Value} {n : Nat} (h5 : x.f0 = 5) (hx : WL x) (zx : Sz x) (hG : G n w x g) : Calls Tryz.prog 57 #[g] w (ShowsIs (lV (uqV (sortV x.f3))) w) := by
  have HC := Lib.hid (fun nm => unique_list nm h5 hx zx hG)
  clear hG
  have HF : Hid (Calls Tryz.prog 90 #[g] w (ShowsIs (lV (uqV (sortV x.f3))) w)) := Lib.hid (by
    go_enter Tryz.func90, Tryz.ntmps90
    go_wp2_with fail
    refine (HC.out _).mono ?_
    rintro e w1 ⟨r, rfl, h⟩
    go_wp2_with fail
    go_ret
    exact ⟨_, rfl, h⟩)
  go_enter Tryz.func57, Tryz.ntmps57
  go_wp2_with fail
  refine HF.out.mono ?_
  rintro e w1 ⟨r, rfl, h⟩
  go_wp2_with fail
  go_ret
  exact ⟨_, rfl, h⟩
end Go.Proofs.YtbnfeicpjmfooaaGreatDoor.NumA
/-
Rows that are owned beside blocks: more.
-/
set_option linter.unusedSimpArgs false
set_option linter.unusedVariables false
namespace Go.Proofs.YtbnfeicpjmfooaaGreatDoor.ValA
open Go.RowKit Go.Lib Go.Proofs.YtbnfeicpjmfooaaGreatDoorW.PrintWords Go.Proofs.YtbnfeicpjmfooaaGreatDoorW.PrintLast Go.Proofs.YtbnfeicpjmfooaaGreatDoorW.PrintMore Go.Proofs.YtbnfeicpjmfooaaGreatDoor.PzzFits1 Go.Proofs.YtbnfeicpjmfooaaGreatDoor.NumA
theorem SPR.pre1 {w w1 : World} {a : Nat × Array Value × TypeId} {L : List (Nat × Array Value × TypeId)} {rs rs' : List (V × Array Value)} (h : SPR w (a :: L) (rs ++ rs') w1) : SPR w [a] rs w1 := by
  have hs : ∀ p ∈ [a], p ∈ a :: L := fun p hp => by rw [List.mem_singleton.1 hp]; exact List.mem_cons_self
  exact ⟨SPN.hd h.1, fun r hr => (h.2 r (List.mem_append_left _ hr)).perm hs⟩
theorem SPO.none_ {w w1 : World} {L : List (Nat × Array Value × TypeId)} {v : Value} {xs : List V} (h : SPO w L v xs w1) : SPO w [] v xs w1 :=
  ⟨⟨⟨h.1.1.1, fun p hp => by cases hp⟩, List.nodup_nil, fun p hp => by cases hp⟩, h.2.1, fun k hk => ⟨(h.2.2 k hk).1, fun p hp => by cases hp⟩⟩
theorem SPO.row2 {w w1 : World} {L : List (Nat × Array Value × TypeId)} {v : Value} {l : List V} (h : SPO w L v (l ++ l) w1) : ∃ A c, v = .slice A (l.length + l.length) c ∧ l.length + l.length ≤ c ∧ k26.K w1 (lV (l ++ l)) [.int .i64 5, .int .i64 0, .string ⟨#[]⟩, .slice A (l.length + l.length) c, .slice none 0 0, .slice none 0 0] := by
  obtain ⟨A, c, e, hle, hC⟩ := h.row
  have hl : l.length + l.length = (l ++ l).length := by simp
  rw [hl]
  exact ⟨A, c, e, hle, k26_mk w1 (lV (l ++ l)) hle hC (Nat.le_refl _) (Kd.C_nil _ _) (Nat.le_refl _) (Kd.C_nil _ _)⟩
theorem spec_arrayU (A : Option Addr) (n c : Nat) (w : World) : Calls Tryz.prog 15 #[.slice A n c] w fun e w' => e = .returned (.agg #[.int .i64 5, .int .i64 0, .string ⟨#[]⟩, .slice A n c, .slice none 0 0, .slice none 0 0]) ∧ Below w.heap.size w w' := by
  go_enter Tryz.func15, Tryz.ntmps15
  go_wp2_with fail
  refine bodyPost_ret (v := .agg #[.int .i64 5, .int .i64 0, .string ⟨#[]⟩, .slice A n c, .slice none 0 0, .slice none 0 0]) (by simp [results, Tryz.results15, go_sem]) rfl ?_
  exact ⟨rfl, (Below.refl _ w).alloc (Nat.le_refl _) _⟩
/-- What is appended in the loop. -/
theorem spo_grow {w w1 : World} {v : Value} {ks : List V} {j Y : Nat} {y : V} {c0 c1 c2 c3 c4 c5 : Value} {L : List (Nat × Array Value × TypeId)} (h : SPO w L v (uqT ks j) w1) (hL : L[0]? = some (Y, #[c0, c1, c2, c3, c4, c5], 26)) (hK : k26.K w y [c0, c1, c2, c3, c4, c5]) (hn : j ≤ 1000000) (hy : y = rd_T26 ks (j : Nat))
    (hyes : j = 0 ∨ cmpV (rd_T26 ks ((j - 1 : Nat) : Int)) (rd_T26 ks (j : Nat)) ≠ 0) :
    ∃ v1 w2, (Builtin.append_ #[22, 22] 22 #[v, .slice (some ⟨w1.heap.size, 0, none⟩) 1 1]).run Tryz.prog (w1.alloc (.cells #[c0, c1, c2, c3, c4, c5] 26)) = .ok v1 w2 ∧ SPO w [] v1 (uqT ks (j + 1)) w2 := by
  have h2 := h.none_.more #[c0, c1, c2, c3, c4, c5] 26
  have hl := uqT_len ks j
  obtain ⟨v1, w2, hrun, hO⟩ := h2.app (h2.one 0 rfl hK) (by omega)
  refine ⟨v1, w2, hrun, ?_⟩
  rw [uqT_succ, if_pos hyes, ← hy]
  exact hO.none_
end Go.Proofs.YtbnfeicpjmfooaaGreatDoor.ValA
