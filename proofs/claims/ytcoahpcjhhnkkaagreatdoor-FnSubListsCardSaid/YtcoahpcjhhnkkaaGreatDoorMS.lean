/-
Parts of the proof, one behind the other: SubL.
-/
import Derived.Test.YtcoahpcjhhnkkaaGreatDoorCmpH
import Derived.Test.YtcoahpcjhhnkkaaGreatDoorMK
import Derived.WalkMore
/-
An array less another one.
-/
set_option linter.unusedSimpArgs false
set_option linter.unusedVariables false
namespace Go.Proofs.YtcoahpcjhhnkkaaGreatDoor.NumA
open Go.RowKit Go.Lib Go.Proofs.YtcoahpcjhhnkkaaGreatDoor.ValA Go.Proofs.YtcoahpcjhhnkkaaGreatDoor.FloH Go.Proofs.YtcoahpcjhhnkkaaGreatDoorW.PrintWords Go.Proofs.YtcoahpcjhhnkkaaGreatDoorW.PrintLast Go.Proofs.YtcoahpcjhhnkkaaGreatDoorW.PrintMore Go.Proofs.YtcoahpcjhhnkkaaGreatDoor.PzzFits1
/-- Is a value among some. -/
def amongV (l : List V) (x : V) : Bool := l.any fun y => cmpV x y == 0
theorem among_pos {l : List V} {x y : V} (h : y ∈ l) (e : (cmpV x y == 0) = true) : amongV l x = true := List.any_eq_true.2 ⟨y, h, e⟩
/-- What is left. -/
def subL (l l' : List V) : List V := l.filter fun x => !amongV l' x
theorem sub_take {l l' : List V} {j : Nat} (hj : j < l.length) : subL (l.take (j + 1)) l' = if amongV l' (rd_T26 l j) = true then subL (l.take j) l' else subL (l.take j) l' ++ [rd_T26 l j] := by
  unfold subL
  rw [List.take_add_one, rd_at l j hj, List.filter_append]
  simp only [Option.toList_some]
  by_cases h : amongV l' (rd_T26 l j) = true
  · rw [if_pos h, List.filter_cons_of_neg (by rw [h]; simp)]
    simp
  · rw [if_neg h, List.filter_cons_of_pos (by simpa using h)]
    simp
theorem sub_mem {l l' : List V} {y : V} (h : y ∈ subL l l') : y ∈ l := (List.mem_filter.1 h).1
theorem sub_len (l l' : List V) : (subL l l').length ≤ l.length := List.length_filter_le _ _
/-- The values of a list, one by one. -/
def PairsG (p : Nat) (w : World) (fl : List V) (xs : List Value) : Prop := xs.length = fl.length ∧ ∀ (i : Nat) (y : V) (u : Value), fl[i]? = some y → xs[i]? = some u → G p w y u
theorem PairsG.snoc {p : Nat} {w : World} {fl : List V} {xs : List Value} (h : PairsG p w fl xs) {y : V} {u : Value} (hG : G p w y u) : PairsG p w (fl ++ [y]) (xs ++ [u]) := by
  refine ⟨by simp [h.1], fun i z v hz hv => ?_⟩
  by_cases e : i < fl.length
  · rw [List.getElem?_append_left e] at hz
    rw [List.getElem?_append_left (by have := h.1; omega)] at hv
    exact h.2 i z v hz hv
  · have hi : i = fl.length := by have := (List.getElem?_eq_some_iff.1 hz).1; rw [List.length_append, List.length_singleton] at this; omega
    subst hi
    rw [List.getElem?_append_right (Nat.le_refl _), Nat.sub_self] at hz
    rw [List.getElem?_append_right (by have := h.1; omega), show fl.length - xs.length = 0 by have := h.1; omega] at hv
    cases hz
    cases hv
    exact hG
theorem owns_below {w w' : World} {base : Nat} {e : TypeId} {size : Nat} {v : Value} {n : Nat} {xs : List Value} (h : w.ownsRow base e size v n xs) (hb : Below w.heap.size w w') : w'.ownsRow base e size v n xs := by
  obtain ⟨h1, h2⟩ := h
  refine ⟨h1, ?_⟩
  rcases h2 with h2 | ⟨g, cap, cur, hv, hg, hc, rest⟩
  · exact Or.inl h2
  · exact Or.inr ⟨g, cap, cur, hv, hg, (hb.block g (lt_of_heap hc)).trans hc, rest⟩
theorem runMake0 (n : Nat) (hn : n ≤ 1000000) (w : World) : (Instr.makeSlice 78 (.int .i64 0) (.int .i64 n)).run Tryz.prog w = .ok (.slice (some ⟨w.heap.size, 0, none⟩) 0 n) (w.alloc (.cells (List.replicate n Value.nilIface).toArray 20)) := by
  have hi := info_any
  cases h : Tryz.prog.info? 20 with
  | none => rw [h] at hi; cases hi
  | some i =>
    rw [h] at hi
    have hi := Option.some.inj hi
    simp only [Prod.mk.injEq] at hi
    obtain ⟨h1, h2, h3⟩ := hi
    have := run_makeSlice (P := Tryz.prog) w 78 20 i .nilIface Tryz.underlying78 h h1 .i64 .i64 (0 : Int) (n : Int) (by omega) (by omega) (by rw [h2]; omega) (by rw [h3]; omega) (by omega)
    rw [this, Int.toNat_natCast, h2, made_nil]
    rfl
/-- The head of a round. -/
def RSub (w : World) (p n : Nat) (l l' : List V) (k : Nat) (s i : Value) (wr : World) : Prop :=
  ∃ (j : Nat) (xs : List Value), i = .int .i64 j ∧ k + j = n ∧ Below w.heap.size w wr ∧ wr.ownsRow w.heap.size 20 1 s xs.length xs ∧ PairsG p w (subL (l.take j) l') xs ∧ xs.length ≤ j ∧ s ≠ .slice none 0 0
theorem rsub_app {w wr : World} {p n j : Nat} {l l' : List V} {s u : Value} {xs : List Value} (hb : Below w.heap.size w wr) (ho : wr.ownsRow w.heap.size 20 1 s xs.length xs) (hp : PairsG p w (subL (l.take j) l') xs) (hx : xs.length ≤ j) (hs : s ≠ .slice none 0 0) (hn : n ≤ 1000000) (hj : j < n) (hl : l.length = n)
    (hG : G p w (rd_T26 l j) u) (hno : amongV l' (rd_T26 l j) = false) :
    ∃ s1 w1, (Builtin.append_ #[78, 78] 78 #[s, .slice (some ⟨wr.heap.size, 0, none⟩) 1 1]).run Tryz.prog (wr.alloc (.cells #[u] 20)) = .ok s1 w1 ∧ ∀ k, k + (j + 1) = n → RSub w p n l l' k s1 (.int .i64 ((j + 1 : Nat) : Int)) w1 := by
  have hi := info_any
  obtain ⟨i0, hi0, hzz⟩ := Option.map_eq_some_iff.1 hi
  simp only [Prod.mk.injEq] at hzz
  obtain ⟨hz0, hz1, hz2⟩ := hzz
  have hcl : u.oneCell' = true := by rcases hG.shape with rfl | ⟨t, v, rfl⟩ <;> rfl
  obtain ⟨s1, w1, hrun, h2, hg, hnil, hat⟩ := run_append_own_at (P := Tryz.prog) (wr.alloc (.cells #[u] 20)) w.heap.size 78 78 20 i0 .nilIface 1 16 Tryz.underlying78 hi0 hz0 hz1 hz2 rfl (by decide) s xs.length xs (ho.alloc _) ⟨wr.heap.size, 0, none⟩ 1 1 [u] rfl
    (by simpa using World.news_of_block (cs := #[u]) (t := 20) (fr := (0, 0)) (MapKept.heap_alloc wr (.cells #[u] 20)).1) (fun v hv => by rw [List.mem_singleton.1 hv]; exact hcl) (by simp only [maxLen]; omega) (by omega) (by rw [World.size_alloc]; have := hb.size; omega)
  refine ⟨s1, w1, hrun, fun k hk => ⟨j + 1, xs ++ [u], rfl, hk, ?_, by rw [List.length_append, List.length_singleton]; exact h2, ?_, by rw [List.length_append, List.length_singleton]; omega, fun e => hs (hnil.1 e).1⟩⟩
  · exact ((hb.alloc hb.size _).grown hg (by rw [World.size_alloc]; have := hb.size; omega) (fun k hk => (ho.lt k hk).1))
  · rw [sub_take (by omega), if_neg (by rw [hno]; simp)]
    exact hp.snoc hG
/-- What is left, as an answer. -/
def SubIs (x : V) (w : World) (e : Ending) (w' : World) : Prop := ∃ r, e = .returned r ∧ Shows x r w' ∧ Below w.heap.size w w'
theorem rsub_end {w wr : World} {p n : Nat} {l l' : List V} {s : Value} {xs : List Value} (hb : Below w.heap.size w wr) (ho : wr.ownsRow w.heap.size 20 1 s xs.length xs) (hp : PairsG p w (subL l l') xs) (hs : s ≠ .slice none 0 0) (hn : l.length ≤ 1000000) (hl : ∀ y ∈ l, WL y ∧ Sz y) :
    Shows (lV (subL l l')) (.iface 78 s) wr := by
  obtain ⟨h1, h2⟩ := ho
  rcases h2 with ⟨rfl, _⟩ | ⟨g, cap, cur, rfl, hg, hc, hnc, hcap, hsz, htk⟩
  · exact absurd rfl hs
  have hlen := hp.1
  have hsub := sub_len l l'
  rw [Nat.mul_one] at htk hsz
  have hcl : cur.toList.length = cap := by simpa using hsz
  rw [hlen]
  refine shows_part (k := p) (vs := cur.toList) (o := 0) (by omega) (by omega) (by rw [Array.toArray_toList]; exact hc) (fun y hy => hl y (sub_mem hy)) (fun i y v hy hv => (hp.2 i y v hy ?_).keepB hb)
  rw [Nat.zero_add] at hv
  have hi : i < (subL l l').length := (List.getElem?_eq_some_iff.1 hy).1
  rw [← htk, List.getElem?_take, if_pos (by omega)]
  exact hv
set_option maxRecDepth 100000 in
set_option maxHeartbeats 4000000 in
theorem sub_lists_at (w : World) (p b c n m : Nat) (l l' : List V) (vs us : List Value) (hl : l.length = n) (hl' : l'.length = m) (hn : n ≤ 1000000) (hm : m ≤ 1000000) (hvs : vs.length = n) (hus : us.length = m)
    (hb : w.heap[b]? = some (.cells vs.toArray 20 (0, 0))) (hc : w.heap[c]? = some (.cells us.toArray 20 (0, 0))) (hG : ∀ (j : Nat) (v : Value), vs[j]? = some v → G p w (rd_T26 l j) v) (hw : ∀ y ∈ l, WL y ∧ Sz y)
    (IH : ∀ (i j : Nat) (v u : Value), vs[i]? = some v → us[j]? = some u → ∀ w', Below w.heap.size w w' → Calls Tryz.prog 38 #[v, u] w' (Gz (cmpV (rd_T26 l i) (rd_T26 l' j)) w')) :
    Calls Tryz.prog 133 #[.slice (some ⟨b, 0, none⟩) n n, .slice (some ⟨c, 0, none⟩) m m] w (SubIs (lV (subL l l')) w) := by
  have HI := Lib.hid (fun i j v u h h' w' hw => IH i j v u h h' w' hw)
  have HBC := Lib.hid (And.intro hb hc)
  have HN := Lib.hid (And.intro hl hl')
  have HM := Lib.hid (And.intro hn hm)
  have HV := Lib.hid (And.intro hvs hus)
  have HG := Lib.hid hG
  have HW := Lib.hid hw
  have hmk := runMake0 n hn w
  obtain ⟨W0, hW0⟩ : ∃ W0, W0 = w.alloc (.cells (List.replicate n Value.nilIface).toArray 20) := ⟨_, rfl⟩
  rw [← hW0] at hmk
  have H0 := Lib.hid (show RSub w p n l l' n (.slice (some ⟨w.heap.size, 0, none⟩) 0 n) (.int .i64 ((0 : Nat) : Int)) W0 by
    refine ⟨0, [], rfl, rfl, by rw [hW0]; exact (Below.refl _ w).alloc (Nat.le_refl _) _, ?_, ⟨by simp [subL], fun i y u h => by simp [subL] at h⟩, Nat.le_refl _, by simp⟩
    rw [hW0]
    exact World.ownsRow_made w _ n (Nat.le_refl _) (by unfold maxLen; omega) (by simp))
  clear IH hb hc hl hl' hn hm hvs hus hG hw hW0
  go_enter Tryz.func133, Tryz.ntmps133
  go_wp2_with fail
  refine wp_scope_straight ?_
  go_wp2_with fail
  refine wp_label ?_
  go_wp2_with fail
  clear hmk
  go_loopg [5, 15] n (fun k s i wr => RSub w p n l l' k s i wr)
  case atStart => exact H0.out
  case round =>
    clear H0
    obtain ⟨j, xs, rfl, hkj, hbr, ho, hp, hxj, hs⟩ := hrel
    have HR := Lib.hid (And.intro hbr (And.intro ho (And.intro hp (And.intro hxj (And.intro hs hkj)))))
    clear hkj ho hp hxj hs
    by_cases hlt : j < n
    · obtain ⟨v, hv⟩ : ∃ v, vs[j]? = some v := ⟨_, List.getElem?_eq_getElem (by have := HV.out.1; omega)⟩
      have x1 : wr.cell? ⟨b, j, none⟩ = some v := by
        have h := list_cell ((hbr.block _ (lt_of_heap HBC.out.1)).trans HBC.out.1) (by have := HV.out.1; omega : j < vs.length)
        have hv2 := hv
        rw [List.getElem?_eq_getElem (by have := HV.out.1; omega)] at hv2
        rw [h.1, Option.some.inj hv2]
      have HL := Lib.hid (fun q u hu w' hw => HI.out j q v u hv hu w' hw)
      have HGJ := Lib.hid (HG.out j v hv)
      have e2 : (j : Int) < (n : Int) := by omega
      have HLT := Lib.hid hlt
      clear hbr hlt hv
      go_wp2_with fail
      clear x1
      obtain ⟨wo, rfl⟩ : ∃ wo, wo = wr := ⟨_, rfl⟩
      obtain ⟨ko, rfl⟩ : ∃ ko, ko = gk := ⟨_, rfl⟩
      go_loopg [21] m (fun k i w2 => ∃ q : Nat, i = .int .i64 q ∧ k + q = m ∧ Below wo.heap.size wo w2 ∧ ∀ a ∈ l'.take q, (cmpV (rd_T26 l j) a == 0) = false)
      case atStart => exact ⟨0, rfl, by omega, Below.refl _ _, fun r hr => by simp at hr⟩
      case round =>
        obtain ⟨q, rfl, hkq, hb2, hno⟩ := hrel
        have HR2 := Lib.hid (And.intro hb2 (And.intro hno hkq))
        clear hkq hno
        by_cases hlt : q < m
        · obtain ⟨u, hu⟩ : ∃ u, us[q]? = some u := ⟨_, List.getElem?_eq_getElem (by have := HV.out.2; omega)⟩
          have hbw := HR.out.1.trans (hb2.mono HR.out.1.size)
          have x1 : wr.cell? ⟨c, q, none⟩ = some u := by
            have h := list_cell ((hbw.block _ (lt_of_heap HBC.out.2)).trans HBC.out.2) (by have := HV.out.2; omega : q < us.length)
            have hu2 := hu
            rw [List.getElem?_eq_getElem (by have := HV.out.2; omega)] at hu2
            rw [h.1, Option.some.inj hu2]
          have HC := Lib.hid (HL.out q u hu wr hbw)
          have e3 : (q : Int) < (m : Int) := by omega
          have HLT2 := Lib.hid hlt
          clear hb2 hlt hu hbw
          go_wp2_with fail
          refine HC.out.mono ?_
          rintro e w3 ⟨rfl, hb3⟩
          have HB4 := Lib.hid (HR2.out.1.trans (hb3.mono HR2.out.1.size))
          clear hb3 x1 HC
          cases ho : (cmpV (rd_T26 l j) (rd_T26 l' q) == 0) with
          | true =>
            have HO := Lib.hid ho
            go_wp2_with fail
            go_roundg (ko - 1)
            case measure => have := HR.out.2.2.2.2.2; have := HLT.out; omega
            case rel =>
              have hw : wrap64 ((j : Int) + 1) = ((j + 1 : Nat) : Int) := by have := HM.out.1; have := HLT.out; unfold wrap64; omega
              rw [hw]
              refine ⟨j + 1, xs, rfl, by have := HR.out.2.2.2.2.2; have := HLT.out; omega, HR.out.1.trans (HB4.out.mono HR.out.1.size), owns_below HR.out.2.1 HB4.out, ?_, by have := HR.out.2.2.2.1; omega, HR.out.2.2.2.2.1⟩
              rw [sub_take (by have := HN.out.1; have := HLT.out; omega), if_pos (among_pos (rd_mem l' q (by have := HN.out.2; have := HLT2.out; omega)) HO.out)]
              exact HR.out.2.2.1
          | false =>
            have HO := Lib.hid ho
            go_wp2_with fail
            go_roundg (gk - 1)
            case measure => have := HR2.out.2.2; have := HLT2.out; omega
            case rel =>
              have hw : wrap64 ((q : Int) + 1) = ((q + 1 : Nat) : Int) := by have := HM.out.2; have := HLT2.out; unfold wrap64; omega
              rw [hw]
              refine ⟨q + 1, rfl, by have := HR2.out.2.2; have := HLT2.out; omega, HB4.out, fun a ha => ?_⟩
              rw [List.take_add_one, rd_at l' q (by have := HN.out.2; have := HLT2.out; omega), List.mem_append] at ha
              rcases ha with ha | ha
              · exact HR2.out.2.1 a ha
              · obtain rfl : a = rd_T26 l' q := by simpa using ha
                exact HO.out
        · have q2 : ¬ (q : Int) < (m : Int) := by omega
          have q4 : decide ((q : Int) < (m : Int)) = false := decide_eq_false q2
          have q5 : decide (q < m) = false := decide_eq_false hlt
          have hall : amongV l' (rd_T26 l j) = false := by
            refine List.any_eq_false.2 fun a ha => ?_
            have h := HR2.out.2.1 a (by rw [List.take_of_length_le (by have := HN.out.2; have := HR2.out.2.2; omega)]; exact ha)
            rw [h]
            simp
          rcases HGJ.out.shape with rfl | ⟨tv, vv, rfl⟩
          all_goals
          obtain ⟨s1, w1, hrun, hrel1⟩ := rsub_app (HR.out.1.trans (hb2.mono HR.out.1.size)) (owns_below HR.out.2.1 hb2) HR.out.2.2.1 HR.out.2.2.2.1 HR.out.2.2.2.2.1 HM.out.1 HLT.out HN.out.1 HGJ.out hall
          have HRUN := Lib.hid hrun
          have HREL := Lib.hid hrel1
          clear hb2 hlt q2 hall hrun hrel1
          go_wp2_with ((with_reducible refine gate_builtin (b := .append) (xs := #[.tmp 30, .tmp 32]) rfl ?_); at_builtin; refine wp_append_run rfl (.tmp 30) (.tmp 32) 78 rfl _ _ rfl rfl HRUN.out ?_)
          go_roundg (ko - 1)
          case measure => have := HR.out.2.2.2.2.2; have := HLT.out; omega
          case rel =>
            have hw : wrap64 ((j : Int) + 1) = ((j + 1 : Nat) : Int) := by have := HM.out.1; have := HLT.out; unfold wrap64; omega
            rw [hw]
            exact HREL.out (ko - 1) (by have := HR.out.2.2.2.2.2; have := HLT.out; omega)
    · have q2 : ¬ (j : Int) < (n : Int) := by omega
      have q4 : decide ((j : Int) < (n : Int)) = false := decide_eq_false q2
      have q5 : decide (j < n) = false := decide_eq_false hlt
      have hall : l.take j = l := List.take_of_length_le (by have := HN.out.1; omega)
      have HE := Lib.hid (rsub_end (n := n) HR.out.1 HR.out.2.1 (by have h := HR.out.2.2.1; rw [hall] at h; exact h) HR.out.2.2.2.2.1 (by have := HN.out.1; have := HM.out.1; omega) HW.out)
      clear hbr hlt q2 hall
      go_wp2_with fail
      go_ret
      exact ⟨_, rfl, HE.out, HR.out.1⟩
set_option maxRecDepth 100000 in
set_option maxHeartbeats 4000000 in
theorem zz_sub_ll (x : V) (A B : Option Addr) (n m : Nat) (w : World) (HC : Calls Tryz.prog 133 #[.slice A n n, .slice B m m] w (SubIs x w)) :
    Calls Tryz.prog 54 #[.iface 78 (.slice A n n), .iface 78 (.slice B m m)] w (ShowsIs x w) := by
  have H := Lib.hid HC
  clear HC
  have H1 : Hid (Calls Tryz.prog 106 #[.iface 78 (.slice A n n), .iface 78 (.slice B m m), Value.func (Fn.func 128) #[] #[], Value.func (Fn.func 130) #[] #[], Value.func (Fn.func 131) #[] #[], Value.func (Fn.func 132) #[] #[], Value.func (Fn.func 133) #[] #[], Value.func (Fn.func 134) #[] #[], Value.func (Fn.func 135) #[] #[]] w (ShowsIs x w)) := by
    refine Lib.hid ?_
    have faJ := fun w => qLJ (.slice A n n) w
    have faI := fun w => qLI (.slice A n n) w
    have faF := fun w => qLF (.slice A n n) w
    have faB := fun w => qLB (.slice A n n) w
    have faS := fun w => qLS (.slice A n n) w
    have ga := fun w => qL (.slice A n n) w
    have fbJ := fun w => qLJ (.slice B m m) w
    have gb := fun w => qL (.slice B m m) w
    go_enter Tryz.func106, Tryz.ntmps106
    go_wp2_with fail
    refine H.out.mono ?_
    rintro e w1 ⟨v, rfl, hv⟩
    have HB := Lib.hid hv; clear hv
    go_wp2_with fail
    go_ret
    exact ⟨_, rfl, HB.out⟩
  clear H
  have H2 : Hid (Calls Tryz.prog 91 #[.nilIface, .iface 78 (.slice A n n), .iface 78 (.slice B m m)] w (ShowsIs x w)) := by
    refine Lib.hid ?_
    go_enter Tryz.func91, Tryz.ntmps91
    go_wp2_with fail
    refine H1.out.mono ?_
    rintro e w1 ⟨v, rfl, hv⟩
    have HB := Lib.hid hv; clear hv
    go_wp2_with fail
    go_ret
    exact ⟨_, rfl, HB.out⟩
  clear H1
  go_enter Tryz.func54, Tryz.ntmps54
  go_wp2_with fail
  refine H2.out.mono ?_
  rintro e w1 ⟨v, rfl, hv⟩
  have HB := Lib.hid hv; clear hv
  go_wp2_with fail
  go_ret
  exact ⟨_, rfl, HB.out⟩
theorem zz_sub_lists {x y : V} (hx : WL x) (zx : Sz x) (hy : WL y) (zy : Sz y) (kx : x.f0 = 5) (ky : y.f0 = 5) {n m : Nat} {w : World} {g h : Value} (hg : G n w x g) (hh : G m w y h) : Calls Tryz.prog 54 #[g, h] w (ShowsIs (lV (subL x.f3 y.f3)) w) := by
  obtain ⟨b, l, rfl, _, hl, hw, he⟩ := hg.list_inv kx
  obtain ⟨b', l', rfl, _, hl', hw', he'⟩ := hh.list_inv ky
  obtain ⟨_, _, _, n3, _, _, w3, _⟩ := hx
  obtain ⟨_, _, _, p3, _, _, v3, _⟩ := hy
  obtain ⟨_, _, _, z3, _⟩ := zx
  obtain ⟨_, _, _, y3, _⟩ := zy
  refine zz_sub_ll _ _ _ _ _ w (sub_lists_at w n b b' _ _ x.f3 y.f3 l l' rfl rfl n3 p3 hl hl' hw hw' (fun j v hv => ?_) (fun a ha => ⟨w3 a ha, z3 a ha⟩) fun i j v u hv hu w' hb => ?_)
  · have hj : j < x.f3.length := by have := (List.getElem?_eq_some_iff.1 hv).1; omega
    exact he j _ v (rd_at x.f3 j hj) hv
  · have hi : i < x.f3.length := by have := (List.getElem?_eq_some_iff.1 hv).1; omega
    have hj : j < y.f3.length := by have := (List.getElem?_eq_some_iff.1 hu).1; omega
    have hm1 := rd_mem x.f3 i hi
    have hm2 := rd_mem y.f3 j hj
    exact compare_any _ _ (Nat.lt_succ_self _) (w3 _ hm1) (z3 _ hm1) _ (v3 _ hm2) (y3 _ hm2) v u n m w' ((he i _ v (rd_at x.f3 i hi) hv).keepB hb) ((he' j _ u (rd_at y.f3 j hj) hu).keepB hb)
set_option maxHeartbeats 4000000 in
theorem impl_OpSub (w0 : World) (a b x : V) (Ka Ha : Int) (sa : ByteArray) (A3a A4a A5a : Option Addr) (n3a c3a n4a c4a n5a c5a : Nat) (Kb Hb : Int) (sb : ByteArray) (A3b A4b A5b : Option Addr) (n3b c3b n4b c4b n5b c5b : Nat) (Ta : ToGo w0 a [.int .i64 Ka, .int .i64 Ha, .string sa, .slice A3a n3a c3a, .slice A4a n4a c4a, .slice A5a n5a c5a]) (Tb : ToGo w0 b [.int .i64 Kb, .int .i64 Hb, .string sb, .slice A3b n3b c3b, .slice A4b n4b c4b, .slice A5b n5b c5b])
    (HC : ∀ g h n m w, G n w a g → G m w b h → Calls Tryz.prog 54 #[g, h] w (ShowsIs x w)) (w : World) (hb : Below w0.heap.size w0 w) :
    Calls Tryz.prog 31 #[.agg #[.int .i64 Ka, .int .i64 Ha, .string sa, .slice A3a n3a c3a, .slice A4a n4a c4a, .slice A5a n5a c5a], .agg #[.int .i64 Kb, .int .i64 Hb, .string sb, .slice A3b n3b c3b, .slice A4b n4b c4b, .slice A5b n5b c5b]] w (ResIs x w) := by
  have HXa := Lib.hid Ta
  have HXb := Lib.hid Tb
  have HCC := Lib.hid HC
  have HB := Lib.hid hb
  clear Ta Tb HC hb
  go_enter Tryz.func31, Tryz.ntmps31
  go_wp2_with fail
  obtain ⟨W0, hw0⟩ : ∃ W0, W0 = ((w.alloc (.cells #[.int .i64 Ka, .int .i64 Ha, .string sa, .slice A3a n3a c3a, .slice A4a n4a c4a, .slice A5a n5a c5a] 26)).alloc (.cells #[.int .i64 Kb, .int .i64 Hb, .string sb, .slice A3b n3b c3b, .slice A4b n4b c4b, .slice A5b n5b c5b] 26)).alloc (.cells #[.int .i64 0, .int .i64 0, .string ⟨#[]⟩, .slice none 0 0, .slice none 0 0, .slice none 0 0, .int .i64 0] 36) := ⟨_, rfl⟩
  have h0 : SPL w [(w.heap.size, #[.int .i64 Ka, .int .i64 Ha, .string sa, .slice A3a n3a c3a, .slice A4a n4a c4a, .slice A5a n5a c5a], 26), (w.heap.size + 1, #[.int .i64 Kb, .int .i64 Hb, .string sb, .slice A3b n3b c3b, .slice A4b n4b c4b, .slice A5b n5b c5b], 26), (w.heap.size + 1 + 1, #[.int .i64 0, .int .i64 0, .string ⟨#[]⟩, .slice none 0 0, .slice none 0 0, .slice none 0 0, .int .i64 0], 36)] W0 := by rw [hw0]; exact SPL.three w _ _ _ _ _ _
  rw [← hw0]
  clear hw0
  have H0 := Lib.hid (And.intro h0 True.intro)
  clear h0
  refine (HXa.out W0 (HB.out.trans (H0.out.1.1.mono HB.out.size))).mono ?_
  rintro e w1 ⟨g, rfl, hG, hb⟩
  have H1 := Lib.hid (And.intro (H0.out.1.below hb) (And.intro hG True.intro))
  clear hb H0 hG
  have y := six_cells (H1.out.1.get 1 rfl)
  go_wp2_with fail
  refine (HXb.out w1 (HB.out.trans (H1.out.1.1.mono HB.out.size))).mono ?_
  rintro e w2 ⟨h, rfl, hG, hb⟩
  clear y
  have H2 := Lib.hid (And.intro (H1.out.1.below hb) (And.intro (H1.out.2.1.keepB hb) (And.intro hG True.intro)))
  clear hb H1 hG
  go_wp2_with fail
  refine (HCC.out g h _ _ w2 H2.out.2.1 H2.out.2.2.1).mono ?_
  rintro e w3 ⟨r, rfl, hG, hb⟩
  have H3 := Lib.hid (H2.out.1.below hb)
  have HD := Lib.hid (result_any x r w3 hG.1 hG.2)
  clear hb H2 hG
  go_wp2_with fail
  refine HD.out.mono ?_
  rintro e w4 ⟨B3, d3, B4, d4, B5, d5, rfl, hM, hb⟩
  have hs := H3.out.below hb
  have hx := hs.get 2 rfl
  have hs3 : w.heap.size + 1 + 1 < w3.heap.size := lt_of_heap (H3.out.get 2 rfl)
  have H4 := Lib.hid (And.intro hs.1 (And.intro hM hs3))
  clear hb H3 hM hs3 hs
  have y := sev_cells hx
  go_wp2_with fail
  have hz := sev_set hx (.int .i64 x.f0) (.int .i64 x.f1) (.string x.f2) (.slice B3 x.f3.length d3) (.slice B4 x.f4.length d4) (.slice B5 x.f5.length d5) (.int .i64 0)
  have hg := sev_grown w4 (w.heap.size + 1 + 1) (.int .i64 x.f0) (.int .i64 x.f1) (.string x.f2) (.slice B3 x.f3.length d3) (.slice B4 x.f4.length d4) (.slice B5 x.f5.length d5) (.int .i64 0)
  obtain ⟨W2, hW⟩ : ∃ W2, W2 = ((((((w4.setCell ⟨w.heap.size + 1 + 1, 0, none⟩ (.int .i64 x.f0)).setCell ⟨w.heap.size + 1 + 1, 1, none⟩ (.int .i64 x.f1)).setCell ⟨w.heap.size + 1 + 1, 2, none⟩ (.string x.f2)).setCell ⟨w.heap.size + 1 + 1, 3, none⟩ (.slice B3 x.f3.length d3)).setCell ⟨w.heap.size + 1 + 1, 4, none⟩ (.slice B4 x.f4.length d4)).setCell ⟨w.heap.size + 1 + 1, 5, none⟩ (.slice B5 x.f5.length d5)).setCell ⟨w.heap.size + 1 + 1, 6, none⟩ (.int .i64 0) := ⟨_, rfl⟩
  rw [← hW] at hz hg ⊢
  clear hW y hx
  obtain ⟨q0, q1, q2, q3, q4, q5, q6, _⟩ := sev_cells hz
  refine bodyPost_ret (v := .agg #[.int .i64 x.f0, .int .i64 x.f1, .string x.f2, .slice B3 x.f3.length d3, .slice B4 x.f4.length d4, .slice B5 x.f5.length d5, .int .i64 0]) (by simp [results, Tryz.results31, go_sem, q0, q1, q2, q3, q4, q5, q6]) rfl ?_
  have hs3 := H4.out.2.2
  have hM4 := Kd.M_grown H4.out.2.1 hg (fun k hk e => by cases e; have : w3.heap.size ≤ w.heap.size + 1 + 1 := hk; omega)
  exact ⟨B3, d3, B4, d4, B5, d5, rfl, k26.M_mono (fun k hk => by show w.heap.size ≤ k; have : w3.heap.size ≤ k := hk; omega) (k26.M_lower (by omega) hM4), H4.out.1.grown hg H4.out.1.size (fun k hk => by cases hk; omega)⟩
end Go.Proofs.YtcoahpcjhhnkkaaGreatDoor.NumA
