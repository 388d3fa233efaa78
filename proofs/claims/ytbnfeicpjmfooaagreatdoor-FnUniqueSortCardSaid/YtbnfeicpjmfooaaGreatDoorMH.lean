/-
Parts of the proof, one behind the other: FrA, FrB, FrC, FrD, IterV, FrE.
-/
import Derived.Test.YtbnfeicpjmfooaaGreatDoorME
import Derived.Test.YtbnfeicpjmfooaaGreatDoorMD
import Derived.Test.YtbnfeicpjmfooaaGreatDoorMF
import Derived.Test.YtbnfeicpjmfooaaGreatDoorProg
import Derived.Shelf.SlIter.Nil
import Derived.Shelf.SortM.Plain
import Derived.Shelf.SortM.SortNone
import Derived.Test.YtbnfeicpjmfooaaGreatDoorMG
/-
impl.listFromGo.
-/
set_option linter.unusedSimpArgs false
set_option linter.unusedVariables false
namespace Go.Proofs.YtbnfeicpjmfooaaGreatDoor.NumA
open Go.RowKit Go.Lib Go.Proofs.YtbnfeicpjmfooaaGreatDoor.ValA Go.Proofs.YtbnfeicpjmfooaaGreatDoor.FloH Go.Proofs.YtbnfeicpjmfooaaGreatDoorW.PrintWords Go.Proofs.YtbnfeicpjmfooaaGreatDoorW.PrintLast Go.Proofs.YtbnfeicpjmfooaaGreatDoorW.PrintMore Go.Proofs.YtbnfeicpjmfooaaGreatDoor.PzzFits1
theorem R_run {α : Type} {P : Program} (d : Kd α) {W : World} (base : Nat) (t ty e : TypeId) (z : Value) (bytes : Nat)
    (ht : P.underlying t = some (.slice e)) (hinfo : (P.info? e).map (fun i => (i.zero, i.size, i.bytes)) = some (some z, d.sz, bytes)) (hz : z.cells.size = d.sz) (hs0 : 0 < d.sz) (hb0 : 0 < bytes)
    (v : Value) (xs : List α) (p : α) (cs : List Value) (ok okp : Nat → Prop) (hp : d.M W base okp p cs) (hokp : ∀ k, okp k → ok k ∧ some k ≠ v.ownBlock) (hfresh : ∀ k, W.heap.size ≤ k → ok k)
    (HO : d.R e W base ok v xs) (hbase : base ≤ W.heap.size) (hl : (xs.length + 1) * bytes ≤ 140737488355328) :
    ∃ v1 w1, (Builtin.append_ #[t, t] ty #[v, .slice (some ⟨W.heap.size, 0, none⟩) 1 1]).run P (W.alloc (.cells cs.toArray e)) = .ok v1 w1 ∧ d.R e w1 base ok v1 (xs ++ [p]) ∧ W.grownBy w1 v.ownBlock := by
  obtain ⟨h0, inner, hown, hr⟩ := HO
  obtain ⟨i0, hi, hzz⟩ := Option.map_eq_some_iff.1 hinfo
  simp only [Prod.mk.injEq] at hzz
  obtain ⟨hz0, hz1, hz2⟩ := hzz
  have hlen : xs.length + 1 ≤ 140737488355328 := Nat.le_trans (Nat.le_mul_of_pos_right _ hb0) hl
  have hcl := d.K_len (d.K_of_M hp)
  obtain ⟨v1, w1, hrun, hown1, hg1, _, hat⟩ := run_append_own_at (P := P) (W.alloc (.cells cs.toArray e)) base t ty e i0 z d.sz bytes ht hi hz0 hz1 hz2 hz hs0 v xs.length inner (hown.alloc _) ⟨W.heap.size, 0, none⟩ 1 1 cs (by rw [hcl, Nat.one_mul])
    (by simpa using World.news_of_block (cs := cs.toArray) (t := e) (fr := (0, 0)) (MapKept.heap_alloc W (.cells cs.toArray e)).1) (d.K_one (d.K_of_M hp)) (by simp only [maxLen]; omega) hl (by simp; omega)
  have hg : W.grownBy w1 v.ownBlock := World.grownBy.trans (World.grownBy_alloc W _ _) hg1
  have hat' : v1.ownBlock = v.ownBlock ∨ ∃ b, v1.ownBlock = some b ∧ W.heap.size ≤ b := by
    rcases hat with hat | hat
    · exact .inl hat
    · exact .inr ⟨_, hat, by simp⟩
  exact ⟨v1, w1, hrun, Kd.R_appended h0 hr hp hokp hfresh hown1 hg hat', hg⟩
theorem info_val : (Tryz.prog.info? 26).map (fun i => (i.zero, i.size, i.bytes)) = some (some (.agg #[.int .i64 0, .int .i64 0, .string ⟨#[]⟩, .slice none 0 0, .slice none 0 0, .slice none 0 0]), 6, 104) := by kernel_rfl
/-- impl.fromGo at g gives x. -/
def FromGo (x : V) (g : Value) (w : World) : Prop := Calls Tryz.prog 88 #[g] w fun e w' => ∃ cs, e = .returned (.tuple #[.agg cs.toArray, .bool true]) ∧ k26.M w' w.heap.size (fun k => w.heap.size ≤ k) x cs ∧ Below w.heap.size w w'
/-- The head of listFromGo's round. -/
def RFr (w : World) (l : List V) (n k : Nat) (i : Value) (wr : World) : Prop :=
  ∃ (j : Nat) (A : Option Addr) (m c : Nat), i = .int .i64 j ∧ k + j = n ∧ Below w.heap.size w wr ∧ wr.heap[w.heap.size]? = some (.cells #[.int .i64 0, .int .i64 0, .string ⟨#[]⟩, .slice none 0 0, .slice none 0 0, .slice none 0 0] 26 (0, 0)) ∧
    wr.heap[w.heap.size + 1]? = some (.cells #[.int .i64 5, .int .i64 0, .string ⟨#[]⟩, .slice A m c, .slice none 0 0, .slice none 0 0] 26 (0, 0)) ∧
    k26.R 26 wr (w.heap.size + 2) (fun k => w.heap.size + 2 ≤ k) (.slice A m c) (l.take j)
theorem wp_append_run {P : Program} {ops : Array Oper} {rest : List Oper} {o : Oper} {a : Act} {Q : Exit → Act → World → Prop} (hgd : o.guard = none) (s x : Operand) (t : TypeId) (ho : o.op = .call { callee := .builtin .append, args := #[s, x], argTypes := #[t, t] })
    (v y : Value) (hs : a.eval s = v) (hx : a.eval x = y) {W w1 : World} {v1 : Value} (hrun : (Builtin.append_ #[t, t] o.type #[v, y]).run P W = .ok v1 w1) (h : wpList P ops Q rest (a.put o.dst v1) w1) : wpList P ops Q (o :: rest) a W := by
  refine wpList_plain hgd fun K' hK' => ?_
  unfold Oper.wp
  simp [execOp, ho, resolve, invoke, builtin, hs, hx, hrun, Result.andThen]
  exact hK' _ _ h
theorem own_lt_R {w : World} {base : Nat} {ok : Nat → Prop} {v : Value} {xs : List V} (h : k26.R 26 w base ok v xs) : ∀ k, v.ownBlock = some k → k < w.heap.size := by
  obtain ⟨_, inner, ho, _⟩ := h
  exact fun k hk => own_lt ho k hk
/-- A round's append. -/
theorem fr_append {w wr w4 : World} {l : List V} {n j m c : Nat} {A : Option Addr} (hl : l.length = n) (hn : n ≤ 1000000) (hlt : j < n) (hbr : Below w.heap.size w wr) (hsz : w.heap.size + 2 ≤ wr.heap.size)
    (hR : k26.R 26 wr (w.heap.size + 2) (fun k => w.heap.size + 2 ≤ k) (.slice A m c) (l.take j)) (hb : Below wr.heap.size wr w4)
    {cs : List Value} (hM : k26.M w4 wr.heap.size (fun k => wr.heap.size ≤ k) (rd_T26 l j) cs) (o : Obj) :
    ∃ (A1 : Option Addr) (m1 c1 : Nat) (w6 : World), (Builtin.append_ #[22, 22] 22 #[.slice A m c, .slice (some ⟨w4.heap.size + 1, 0, none⟩) 1 1]).run Tryz.prog ((w4.alloc o).alloc (.cells cs.toArray 26)) = .ok (.slice A1 m1 c1) w6 ∧
      k26.R 26 w6 (w.heap.size + 2) (fun k => w.heap.size + 2 ≤ k) (.slice A1 m1 c1) (l.take (j + 1)) ∧ (∀ k, k < w.heap.size + 2 → k < wr.heap.size → w6.heap[k]? = w4.heap[k]?) ∧ Below w.heap.size w w6 := by
  have hb4 : Below wr.heap.size wr (w4.alloc o) := hb.alloc hb.size o
  have hsz4 : wr.heap.size ≤ w4.heap.size := hb.size
  obtain ⟨v1, w6, hrun, hR6, hg⟩ := R_run (P := Tryz.prog) k26 (W := w4.alloc o) (w.heap.size + 2) 22 22 26 _ 104 Tryz.underlying22 info_val rfl (by decide) (by decide) (.slice A m c) (l.take j) (rd_T26 l j) cs (fun k => w.heap.size + 2 ≤ k) (fun k => wr.heap.size ≤ k)
    (Kd.M_below (k26.M_lower hsz hM) ((Below.refl _ w4).alloc (Nat.le_refl _) o)) (fun k hk => ⟨by omega, fun e => by have := own_lt_R hR k e.symm; omega⟩) (fun k hk => by rw [World.size_alloc] at hk; omega)
    (Kd.R_below hR hb4) (by rw [World.size_alloc]; omega) (by rw [List.length_take]; omega)
  rw [World.size_alloc] at hrun
  have e1 : l.take j ++ [rd_T26 l j] = l.take (j + 1) := by
    have h := rd_at l j (by omega)
    rw [List.take_add_one, h]
    rfl
  rw [e1] at hR6
  obtain ⟨A1, c1, rfl⟩ := Kd.R_slice hR6
  refine ⟨A1, _, c1, w6, hrun, hR6, ?_, ?_⟩
  · intro k hk hk2
    rw [hg.block k (by rw [World.size_alloc]; omega) (fun e => by have := hR.1 k e.symm; omega)]
    exact Below.heap_alloc w4 o k (by omega)
  · exact ((hbr.trans (hb.mono hbr.size)).alloc (by omega) o).grown hg (by rw [World.size_alloc]; omega) (fun k hk => by have := hR.1 k hk; omega)
set_option maxRecDepth 100000 in
set_option maxHeartbeats 4000000 in
theorem listFromGo_any (w : World) (b n : Nat) (l : List V) (vs : List Value) (hl : l.length = n) (hn : n ≤ 1000000) (hvs : vs.length = n) (hb : w.heap[b]? = some (.cells vs.toArray 20 (0, 0)))
    (IH : ∀ (j : Nat) (v : Value), vs[j]? = some v → ∀ w', Below w.heap.size w w' → FromGo (rd_T26 l j) v w') :
    Calls Tryz.prog 115 #[.slice (some ⟨b, 0, none⟩) n n] w fun e w' => ∃ cs, e = .returned (.tuple #[.agg cs.toArray, .bool true]) ∧ k26.M w' w.heap.size (fun k => w.heap.size ≤ k) ⟨5, 0, ⟨#[]⟩, l, [], []⟩ cs ∧ Below w.heap.size w w' := by
  have HI := Lib.hid (fun j v h w' hw => IH j v h w' hw)
  have HBV := Lib.hid (And.intro hb hvs)
  have HN := Lib.hid (And.intro hn hl)
  clear IH hb hvs hl
  go_enter Tryz.func115, Tryz.ntmps115
  go_wp2_with fail
  obtain ⟨W0, hW0⟩ : ∃ W0, W0 = (w.alloc (.cells #[.int .i64 0, .int .i64 0, .string ⟨#[]⟩, .slice none 0 0, .slice none 0 0, .slice none 0 0] 26)).alloc (.cells #[.int .i64 5, .int .i64 0, .string ⟨#[]⟩, .slice none 0 0, .slice none 0 0, .slice none 0 0] 26) := ⟨_, rfl⟩
  have H0 := Lib.hid (show RFr w l n n (.int .i64 ((0 : Nat) : Int)) W0 by
    rw [hW0]
    have h2 := SPL.two w #[.int .i64 0, .int .i64 0, .string ⟨#[]⟩, .slice none 0 0, .slice none 0 0, .slice none 0 0] #[.int .i64 5, .int .i64 0, .string ⟨#[]⟩, .slice none 0 0, .slice none 0 0, .slice none 0 0] 26 26
    exact ⟨0, none, 0, 0, rfl, by omega, h2.1, h2.get 0 rfl, h2.get 1 rfl, by rw [List.take_zero]; exact Kd.R_nil _ _ _ _ _⟩)
  rw [← hW0]
  clear hW0
  go_loopg [12] n (fun k i wr => RFr w l n k i wr)
  case atStart => exact H0.out
  case round =>
    clear H0
    obtain ⟨j, A, m, c, rfl, hkj, hbr, hR0, hO, hRR⟩ := hrel
    have HR := Lib.hid (And.intro hbr (And.intro hR0 (And.intro hO hRR)))
    have HK := Lib.hid hkj
    by_cases hlt : j < n
    · obtain ⟨v, hv⟩ : ∃ v, vs[j]? = some v := ⟨_, List.getElem?_eq_getElem (by have := HBV.out.2; omega)⟩
      have HL := Lib.hid (HI.out j v hv wr hbr)
      have x0 : wr.cell? ⟨b, j, none⟩ = some v := by
        have h := list_cell ((hbr.block _ (lt_of_heap HBV.out.1)).trans HBV.out.1) (by have := HBV.out.2; omega : j < vs.length)
        rw [List.getElem?_eq_getElem (by have := HBV.out.2; omega)] at hv
        rw [h.1, Option.some.inj hv]
      have hlt2 : (j : Int) < (n : Int) := by omega
      have HLT := Lib.hid hlt
      clear hbr hR0 hO hRR hkj hv hlt hn
      unfold FromGo at HL
      go_wp2_with fail
      refine HL.out.mono ?_
      rintro e w4 ⟨cs, rfl, hM, hb4⟩
      obtain ⟨v3, v4, v5, rfl, g3, g4, g5⟩ := k26_openM hM
      obtain ⟨B3, d3, rfl⟩ := Kd.R_slice g3
      obtain ⟨B4, d4, rfl⟩ := Kd.R_slice g4
      obtain ⟨B5, d5, rfl⟩ := Kd.R_slice g5
      have hO4 := (hb4.block _ (lt_of_heap HR.out.2.2.1)).trans HR.out.2.2.1
      have hR4 := (hb4.block _ (lt_of_heap HR.out.2.1)).trans HR.out.2.1
      have hlt4 := lt_of_heap HR.out.2.2.1
      obtain ⟨A1, m1, c1, w6, hrun, hR6, hkeep, hb6⟩ := fr_append HN.out.2 HN.out.1 HLT.out HR.out.1 hlt4 HR.out.2.2.2 hb4 hM (.cells #[.int .i64 (rd_T26 l j).f0, .int .i64 (rd_T26 l j).f1, .string (rd_T26 l j).f2, .slice B3 (rd_T26 l j).f3.length d3, .slice B4 (rd_T26 l j).f4.length d4, .slice B5 (rd_T26 l j).f5.length d5] 26)
      have y : ∀ o, (w4.alloc o).cell? ⟨w.heap.size + 1, 3, none⟩ = some (.slice A m c) := fun o => by
        have h := (Below.heap_alloc w4 o (w.heap.size + 1) (lt_of_heap hO4)).trans hO4
        exact (six_cells h).2.2.2.1
      have hO6 := (hkeep (w.heap.size + 1) (by omega) hlt4).trans hO4
      have hR6' := (hkeep w.heap.size (by omega) (lt_of_heap HR.out.2.1)).trans hR4
      have q0 := (six_cells hO6).2.2.2.1
      have q1 := (six_cells hO6).2.2.2.2.2.2.2.2.2.1
      have H4 := Lib.hid (show RFr w l n (gk - 1) (.int .i64 ((j + 1 : Nat) : Int)) (w6.setCell ⟨w.heap.size + 1, 3, none⟩ (.slice A1 m1 c1)) by
        have hgr : w6.grownBy (w6.setCell ⟨w.heap.size + 1, 3, none⟩ (.slice A1 m1 c1)) (some (w.heap.size + 1)) := grown_set (World.grownBy.refl w6 _) 3 _
        refine ⟨j + 1, A1, m1, c1, rfl, by have := HK.out; have := HLT.out; omega, hb6.grown hgr hb6.size (fun k hk => by cases hk; omega), (hgr.block _ (lt_of_heap hR6') (by simp)).trans hR6', ?_, Kd.R_far hR6 (fun k hk => by show k ≠ w.heap.size + 1; omega) _⟩
        rw [heap_set hO6 3 _]
        rfl)
      clear hM g3 g4 g5 hO4 hR4 hlt4 hR6 hkeep hb6 hO6 hR6' hb4 x0
      have HRUN := Lib.hid hrun
      clear hrun
      go_wp2_with ((with_reducible refine gate_builtin (b := .append) (xs := #[.tmp 25, .tmp 27]) rfl ?_); at_builtin; refine wp_append_run rfl (.tmp 25) (.tmp 27) 22 rfl _ _ rfl rfl HRUN.out ?_)
      go_roundg (gk - 1)
      case measure => have := HK.out; have := HLT.out; omega
      case rel =>
        have hw : wrap64 ((j : Int) + 1) = ((j + 1 : Nat) : Int) := by have := HN.out.1; have := HLT.out; unfold wrap64; omega
        rw [hw]
        exact H4.out
    · have hlt2 : ¬ (j : Int) < (n : Int) := by omega
      have hlt3 : decide ((j : Int) < (n : Int)) = false := decide_eq_false hlt2
      have hlt4 : decide (j < n) = false := decide_eq_false hlt
      have HNL := Lib.hid hlt
      have yO := six_cells hO
      have yR := six_cells hR0
      clear hbr hR0 hO hRR hkj hn hlt hlt2
      go_wp2_with fail
      obtain ⟨W9, hW9⟩ : ∃ W9, W9 = (((((wr.setCell ⟨w.heap.size, 0, none⟩ (.int .i64 5)).setCell ⟨w.heap.size, 1, none⟩ (.int .i64 0)).setCell ⟨w.heap.size, 2, none⟩ (.string ⟨#[]⟩)).setCell ⟨w.heap.size, 3, none⟩ (.slice A m c)).setCell ⟨w.heap.size, 4, none⟩ (.slice none 0 0)).setCell ⟨w.heap.size, 5, none⟩ (.slice none 0 0) := ⟨_, rfl⟩
      have hz : W9.heap[w.heap.size]? = some (.cells #[.int .i64 5, .int .i64 0, .string ⟨#[]⟩, .slice A m c, .slice none 0 0, .slice none 0 0] 26 (0, 0)) := by rw [hW9]; exact six_set HR.out.2.1 _ _ _ _ _ _
      have hg : wr.grownBy W9 (some w.heap.size) := by rw [hW9]; exact six_grown _ _ _ _ _ _ _ _
      rw [← hW9]
      clear hW9 yO yR
      obtain ⟨q0, q1, q2, q3, q4, q5, _⟩ := six_cells hz
      refine bodyPost_ret (v := .tuple #[.agg #[.int .i64 5, .int .i64 0, .string ⟨#[]⟩, .slice A m c, .slice none 0 0, .slice none 0 0], .bool true]) (by simp [results, Tryz.results115, go_sem, q0, q1, q2, q3, q4, q5]) rfl ?_
      have hj : j = n := by have := HK.out; have := HNL.out; omega
      have hR9 : k26.R 26 W9 w.heap.size (fun k => w.heap.size ≤ k) (.slice A m c) l := by
        have h := Kd.R_grown HR.out.2.2.2 hg (fun k hk e => by cases e; omega)
        rw [hj, List.take_of_length_le (by have := HN.out.2; omega)] at h
        exact Kd.R_mono (Kd.R_lower h (by omega)) (fun k hk => by show w.heap.size ≤ k; have : w.heap.size + 2 ≤ k := hk; omega)
      exact ⟨[.int .i64 5, .int .i64 0, .string ⟨#[]⟩, .slice A m c, .slice none 0 0, .slice none 0 0], rfl, k26_mkM W9 w.heap.size _ ⟨5, 0, ⟨#[]⟩, l, [], []⟩ hR9 (Kd.R_nil _ _ _ _ _) (Kd.R_nil _ _ _ _ _), HR.out.1.grown hg HR.out.1.size (fun k hk => by cases hk; exact Nat.le_refl _)⟩
end Go.Proofs.YtbnfeicpjmfooaaGreatDoor.NumA
/-
impl.fromGo at null, booleans, numbers, strings, arrays.
-/
set_option linter.unusedSimpArgs false
set_option linter.unusedVariables false
namespace Go.Proofs.YtbnfeicpjmfooaaGreatDoor.NumA
open Go.RowKit Go.Lib Go.Proofs.YtbnfeicpjmfooaaGreatDoor.ValA Go.Proofs.YtbnfeicpjmfooaaGreatDoor.FloH Go.Proofs.YtbnfeicpjmfooaaGreatDoorW.PrintWords Go.Proofs.YtbnfeicpjmfooaaGreatDoorW.PrintLast Go.Proofs.YtbnfeicpjmfooaaGreatDoorW.PrintMore Go.Proofs.YtbnfeicpjmfooaaGreatDoor.PzzFits1
/-- A value of JSON has nothing beside what its kind says. -/
theorem wf_shape {x : V} (h : WL x) : (x.f0 ≠ 3 → x.f1 = 0) ∧ (x.f0 ≠ 4 → x.f2 = ⟨#[]⟩) ∧ (x.f0 ≠ 5 → x.f3 = []) ∧ (x.f0 ≠ 6 → x.f4 = [] ∧ x.f5 = []) := by
  obtain ⟨_, h1, _⟩ := h
  unfold c1B at h1
  simp only [Bool.and_eq_true, Bool.or_eq_true, decide_eq_true_eq, beq_iff_eq] at h1
  obtain ⟨⟨⟨⟨⟨_, a1⟩, a2⟩, a3⟩, a4⟩, a5⟩ := h1
  refine ⟨fun e => a1.resolve_left e, fun e => ?_, fun e => List.eq_nil_of_length_eq_zero (a3.resolve_left e), fun e => ?_⟩
  · have := a2.resolve_left e
    rw [List.isEmpty_iff, Lib.toList_data] at this
    have h := x.f2
    cases hx : x.f2 with
    | mk d =>
      rw [hx] at this
      simp at this
      rw [this]
  · have := a4.resolve_left e
    exact ⟨List.eq_nil_of_length_eq_zero this, List.eq_nil_of_length_eq_zero (by omega)⟩
/-- A flat value's cells are made. -/
theorem flat_M (w w' : World) (x : V) (h3 : x.f3 = []) (h4 : x.f4 = []) (h5 : x.f5 = []) : k26.M w' w.heap.size (fun k => w.heap.size ≤ k) x [.int .i64 x.f0, .int .i64 x.f1, .string x.f2, .slice none 0 0, .slice none 0 0, .slice none 0 0] :=
  k26_mkM w' w.heap.size _ x (by rw [h3]; exact Kd.R_nil _ _ _ _ _) (by rw [h4]; exact Kd.R_nil _ _ _ _ _) (by rw [h5]; exact Kd.R_nil _ _ _ _ _)
theorem fromGo_of_flat (x : V) (g : Value) (w : World) (h3 : x.f3 = []) (h4 : x.f4 = []) (h5 : x.f5 = []) (H : Calls Tryz.prog 88 #[g] w fun e w' => e = .returned (.tuple #[.agg #[.int .i64 x.f0, .int .i64 x.f1, .string x.f2, .slice none 0 0, .slice none 0 0, .slice none 0 0], .bool true]) ∧ Below w.heap.size w w') : FromGo x g w := by
  refine H.mono ?_
  rintro e w' ⟨rfl, hb⟩
  exact ⟨_, rfl, flat_M w w' x h3 h4 h5, hb⟩
theorem fromGo_nil (w : World) : Calls Tryz.prog 88 #[.nilIface] w fun e w' => e = .returned (.tuple #[vl 0 0 r0, .bool true]) ∧ Below w.heap.size w w' := by
  have fT := fun w => noNT w
  have fI := fun w => noNI w
  have fF := fun w => noNF w
  have fS := fun w => noNS w
  have fL := fun w => noNL w
  have fM := fun w => noNM w
  go_enter Tryz.func88, Tryz.ntmps88
  go_wp2_with fail
  refine bodyPost_ret (v := .tuple #[vl 0 0 r0, .bool true]) (by simp [results, Tryz.results88, go_sem, vl, r0]) rfl ⟨rfl, ?_⟩
  exact (Below.refl _ w).alloc (Nat.le_refl _) _
theorem fromGo_str (s : ByteArray) (w : World) : Calls Tryz.prog 88 #[.iface 9 (.string s)] w fun e w' => e = .returned (.tuple #[.agg #[.int .i64 4, .int .i64 0, .string s, .slice none 0 0, .slice none 0 0, .slice none 0 0], .bool true]) ∧ Below w.heap.size w w' := by
  have fT := fun w => qST (.string s) w
  have fI := fun w => qSI (.string s) w
  have fF := fun w => qSF (.string s) w
  have gS := fun w => qS (.string s) w
  go_enter Tryz.func88, Tryz.ntmps88
  go_wp2_with fail
  refine bodyPost_ret (v := .tuple #[.agg #[.int .i64 4, .int .i64 0, .string s, .slice none 0 0, .slice none 0 0, .slice none 0 0], .bool true]) (by simp [results, Tryz.results88, go_sem]) rfl ⟨rfl, ?_⟩
  exact (Below.refl _ w).alloc (Nat.le_refl _) _
/-- A flat value. -/
theorem fromGo_flat (x : V) (hw : WL x) (hk : x.f0 ≤ 4) (w : World) : FromGo x (fg x.f0 x.f1 x.f2) w := by
  obtain ⟨s1, s2, s3, s4⟩ := wf_shape hw
  obtain ⟨f0, f6, fj, f45⟩ := wf_facts hw
  refine fromGo_of_flat x _ w (s3 (by omega)) (s4 (by omega)).1 (s4 (by omega)).2 ?_
  have hc : x.f0 = 0 ∨ x.f0 = 1 ∨ x.f0 = 2 ∨ x.f0 = 3 ∨ x.f0 = 4 := by omega
  rcases hc with c | c | c | c | c
  · rw [s1 (by omega), s2 (by omega), c]; exact fromGo_nil w
  · rw [s1 (by omega), s2 (by omega), c]; exact fromGo_false w
  · rw [s1 (by omega), s2 (by omega), c]; exact fromGo_true w
  · rw [s2 (by omega), c]
    show Calls _ _ #[gv x.f1] w _
    unfold gv
    by_cases e : x.f1 % 2 = 0
    · rw [if_pos e]
      have h := fromGo_int (x.f1 / 2) w (by have := fj.1; omega) (by have := fj.1; omega)
      rw [show 2 * (x.f1 / 2) = x.f1 by omega] at h
      exact h
    · rw [if_neg e]
      have hb := fj.2.resolve_left e
      exact fromGo_flt x.f1 w (by omega) (by omega)
  · rw [s1 (by omega), c]; exact fromGo_str x.f2 w
/-- The tail of fromGo: what a part has given is handed on. -/
theorem fromGo_of_list (w : World) (x : V) (b n : Nat) (H : ∀ w1, Below w.heap.size w w1 → Calls Tryz.prog 115 #[.slice (some ⟨b, 0, none⟩) n n] w1 fun e w' => ∃ cs, e = .returned (.tuple #[.agg cs.toArray, .bool true]) ∧ k26.M w' w1.heap.size (fun k => w1.heap.size ≤ k) x cs ∧ Below w1.heap.size w1 w') : FromGo x (.iface 81 (.slice (some ⟨b, 0, none⟩) n n)) w := by
  have HH := Lib.hid (H (w.alloc (.cells #[.int .i64 0, .int .i64 0, .string ⟨#[]⟩, .slice none 0 0, .slice none 0 0, .slice none 0 0] 26)) ((Below.refl _ w).alloc (Nat.le_refl _) _))
  clear H
  have fT := fun w => qLT (.slice (some ⟨b, 0, none⟩) n n) w
  have fI := fun w => qLI (.slice (some ⟨b, 0, none⟩) n n) w
  have fF := fun w => qLF (.slice (some ⟨b, 0, none⟩) n n) w
  have fS := fun w => qLS (.slice (some ⟨b, 0, none⟩) n n) w
  have gL := fun w => qL (.slice (some ⟨b, 0, none⟩) n n) w
  unfold FromGo
  go_enter Tryz.func88, Tryz.ntmps88
  go_wp2_with fail
  refine HH.out.mono ?_
  rintro e w4 ⟨cs, rfl, hM, hb4⟩
  obtain ⟨v3, v4, v5, rfl, g3, g4, g5⟩ := k26_openM hM
  obtain ⟨B3, d3, rfl⟩ := Kd.R_slice g3
  obtain ⟨B4, d4, rfl⟩ := Kd.R_slice g4
  obtain ⟨B5, d5, rfl⟩ := Kd.R_slice g5
  have hx := (hb4.block _ (by rw [World.size_alloc]; omega)).trans (heap_alloc_new w (.cells #[.int .i64 0, .int .i64 0, .string ⟨#[]⟩, .slice none 0 0, .slice none 0 0, .slice none 0 0] 26))
  have H4 := Lib.hid (show k26.M w4 (w.heap.size + 1) (fun k => w.heap.size + 1 ≤ k) x _ ∧ Below w.heap.size w w4 from ⟨by rw [World.size_alloc] at hM; exact hM, ((Below.refl _ w).alloc (Nat.le_refl _) _).trans (hb4.mono (by rw [World.size_alloc]; omega))⟩)
  have y := six_cells hx
  clear hM hb4 g3 g4 g5
  go_wp2_with fail
  have hz := six_set hx (.int .i64 x.f0) (.int .i64 x.f1) (.string x.f2) (.slice B3 x.f3.length d3) (.slice B4 x.f4.length d4) (.slice B5 x.f5.length d5)
  have hg := six_grown w4 w.heap.size (.int .i64 x.f0) (.int .i64 x.f1) (.string x.f2) (.slice B3 x.f3.length d3) (.slice B4 x.f4.length d4) (.slice B5 x.f5.length d5)
  obtain ⟨W2, hW⟩ : ∃ W2, W2 = ((((((w4.setCell ⟨w.heap.size, 0, none⟩ (.int .i64 x.f0)).setCell ⟨w.heap.size, 1, none⟩ (.int .i64 x.f1)).setCell ⟨w.heap.size, 2, none⟩ (.string x.f2)).setCell ⟨w.heap.size, 3, none⟩ (.slice B3 x.f3.length d3)).setCell ⟨w.heap.size, 4, none⟩ (.slice B4 x.f4.length d4)).setCell ⟨w.heap.size, 5, none⟩ (.slice B5 x.f5.length d5)) := ⟨_, rfl⟩
  rw [← hW] at hz hg ⊢
  clear hW y hx
  obtain ⟨q0, q1, q2, q3, q4, q5, _⟩ := six_cells hz
  refine bodyPost_ret (v := .tuple #[.agg #[.int .i64 x.f0, .int .i64 x.f1, .string x.f2, .slice B3 x.f3.length d3, .slice B4 x.f4.length d4, .slice B5 x.f5.length d5], .bool true]) (by simp [results, Tryz.results88, go_sem, q0, q1, q2, q3, q4, q5]) rfl ?_
  have hM2 := Kd.M_grown H4.out.1 hg (fun k hk e => by cases e; have : w.heap.size + 1 ≤ w.heap.size := hk; omega)
  exact ⟨[.int .i64 x.f0, .int .i64 x.f1, .string x.f2, .slice B3 x.f3.length d3, .slice B4 x.f4.length d4, .slice B5 x.f5.length d5], rfl, k26.M_mono (fun k hk => by show w.heap.size ≤ k; have : w.heap.size + 1 ≤ k := hk; omega) (k26.M_lower (by omega) hM2), H4.out.2.grown hg H4.out.2.size (fun k hk => by cases hk; exact Nat.le_refl _)⟩
theorem fromGo_of_map (w : World) (x : V) (b : Nat) (H : ∀ w1, Below w.heap.size w w1 → Calls Tryz.prog 116 #[.map (some b)] w1 fun e w' => ∃ cs, e = .returned (.tuple #[.agg cs.toArray, .bool true]) ∧ k26.M w' w1.heap.size (fun k => w1.heap.size ≤ k) x cs ∧ Below w1.heap.size w1 w') : FromGo x (.iface 90 (.map (some b))) w := by
  have HH := Lib.hid (H (w.alloc (.cells #[.int .i64 0, .int .i64 0, .string ⟨#[]⟩, .slice none 0 0, .slice none 0 0, .slice none 0 0] 26)) ((Below.refl _ w).alloc (Nat.le_refl _) _))
  clear H
  have fT := fun w => qMT (.map (some b)) w
  have fI := fun w => qMI (.map (some b)) w
  have fF := fun w => qMF (.map (some b)) w
  have fS := fun w => qMS (.map (some b)) w
  have fL := fun w => qML (.map (some b)) w
  have gM := fun w => qM (.map (some b)) w
  unfold FromGo
  go_enter Tryz.func88, Tryz.ntmps88
  go_wp2_with fail
  refine HH.out.mono ?_
  rintro e w4 ⟨cs, rfl, hM, hb4⟩
  obtain ⟨v3, v4, v5, rfl, g3, g4, g5⟩ := k26_openM hM
  obtain ⟨B3, d3, rfl⟩ := Kd.R_slice g3
  obtain ⟨B4, d4, rfl⟩ := Kd.R_slice g4
  obtain ⟨B5, d5, rfl⟩ := Kd.R_slice g5
  have hx := (hb4.block _ (by rw [World.size_alloc]; omega)).trans (heap_alloc_new w (.cells #[.int .i64 0, .int .i64 0, .string ⟨#[]⟩, .slice none 0 0, .slice none 0 0, .slice none 0 0] 26))
  have H4 := Lib.hid (show k26.M w4 (w.heap.size + 1) (fun k => w.heap.size + 1 ≤ k) x _ ∧ Below w.heap.size w w4 from ⟨by rw [World.size_alloc] at hM; exact hM, ((Below.refl _ w).alloc (Nat.le_refl _) _).trans (hb4.mono (by rw [World.size_alloc]; omega))⟩)
  have y := six_cells hx
  clear hM hb4 g3 g4 g5
  go_wp2_with fail
  have hz := six_set hx (.int .i64 x.f0) (.int .i64 x.f1) (.string x.f2) (.slice B3 x.f3.length d3) (.slice B4 x.f4.length d4) (.slice B5 x.f5.length d5)
  have hg := six_grown w4 w.heap.size (.int .i64 x.f0) (.int .i64 x.f1) (.string x.f2) (.slice B3 x.f3.length d3) (.slice B4 x.f4.length d4) (.slice B5 x.f5.length d5)
  obtain ⟨W2, hW⟩ : ∃ W2, W2 = ((((((w4.setCell ⟨w.heap.size, 0, none⟩ (.int .i64 x.f0)).setCell ⟨w.heap.size, 1, none⟩ (.int .i64 x.f1)).setCell ⟨w.heap.size, 2, none⟩ (.string x.f2)).setCell ⟨w.heap.size, 3, none⟩ (.slice B3 x.f3.length d3)).setCell ⟨w.heap.size, 4, none⟩ (.slice B4 x.f4.length d4)).setCell ⟨w.heap.size, 5, none⟩ (.slice B5 x.f5.length d5)) := ⟨_, rfl⟩
  rw [← hW] at hz hg ⊢
  clear hW y hx
  obtain ⟨q0, q1, q2, q3, q4, q5, _⟩ := six_cells hz
  refine bodyPost_ret (v := .tuple #[.agg #[.int .i64 x.f0, .int .i64 x.f1, .string x.f2, .slice B3 x.f3.length d3, .slice B4 x.f4.length d4, .slice B5 x.f5.length d5], .bool true]) (by simp [results, Tryz.results88, go_sem, q0, q1, q2, q3, q4, q5]) rfl ?_
  have hM2 := Kd.M_grown H4.out.1 hg (fun k hk e => by cases e; have : w.heap.size + 1 ≤ w.heap.size := hk; omega)
  exact ⟨[.int .i64 x.f0, .int .i64 x.f1, .string x.f2, .slice B3 x.f3.length d3, .slice B4 x.f4.length d4, .slice B5 x.f5.length d5], rfl, k26.M_mono (fun k hk => by show w.heap.size ≤ k; have : w.heap.size + 1 ≤ k := hk; omega) (k26.M_lower (by omega) hM2), H4.out.2.grown hg H4.out.2.size (fun k hk => by cases hk; exact Nat.le_refl _)⟩
end Go.Proofs.YtbnfeicpjmfooaaGreatDoor.NumA
/-
impl.mapFromGo: its plain part.
-/
set_option linter.unusedSimpArgs false
set_option linter.unusedVariables false
namespace Go.Proofs.YtbnfeicpjmfooaaGreatDoor.NumA
open Go.RowKit Go.Lib Go.Proofs.YtbnfeicpjmfooaaGreatDoor.ValA Go.Proofs.YtbnfeicpjmfooaaGreatDoor.FloH Go.Proofs.YtbnfeicpjmfooaaGreatDoorW.PrintWords Go.Proofs.YtbnfeicpjmfooaaGreatDoorW.PrintLast Go.Proofs.YtbnfeicpjmfooaaGreatDoorW.PrintMore Go.Proofs.YtbnfeicpjmfooaaGreatDoor.PzzFits1
theorem R_run_at {α : Type} {P : Program} (d : Kd α) {W : World} (base : Nat) (t ty e : TypeId) (z : Value) (bytes : Nat)
    (ht : P.underlying t = some (.slice e)) (hinfo : (P.info? e).map (fun i => (i.zero, i.size, i.bytes)) = some (some z, d.sz, bytes)) (hz : z.cells.size = d.sz) (hs0 : 0 < d.sz) (hb0 : 0 < bytes)
    (v : Value) (xs : List α) (p : α) (cs : List Value) (ok okp : Nat → Prop) (g : Nat) (hbox : W.heap[g]? = some (.cells cs.toArray e (0, 0))) (hp : d.M W base okp p cs) (hokp : ∀ k, okp k → ok k ∧ some k ≠ v.ownBlock) (hfresh : ∀ k, W.heap.size ≤ k → ok k)
    (HO : d.R e W base ok v xs) (hbase : base ≤ W.heap.size) (hl : (xs.length + 1) * bytes ≤ 140737488355328) :
    ∃ v1 w1, (Builtin.append_ #[t, t] ty #[v, .slice (some ⟨g, 0, none⟩) 1 1]).run P W = .ok v1 w1 ∧ d.R e w1 base ok v1 (xs ++ [p]) ∧ W.grownBy w1 v.ownBlock ∧ (v1.ownBlock = v.ownBlock ∨ ∃ b, v1.ownBlock = some b ∧ W.heap.size ≤ b) := by
  obtain ⟨h0, inner, hown, hr⟩ := HO
  obtain ⟨i0, hi, hzz⟩ := Option.map_eq_some_iff.1 hinfo
  simp only [Prod.mk.injEq] at hzz
  obtain ⟨hz0, hz1, hz2⟩ := hzz
  have hlen : xs.length + 1 ≤ 140737488355328 := Nat.le_trans (Nat.le_mul_of_pos_right _ hb0) hl
  have hcl := d.K_len (d.K_of_M hp)
  obtain ⟨v1, w1, hrun, hown1, hg, _, hat⟩ := run_append_own_at (P := P) W base t ty e i0 z d.sz bytes ht hi hz0 hz1 hz2 hz hs0 v xs.length inner hown ⟨g, 0, none⟩ 1 1 cs (by rw [hcl, Nat.one_mul])
    (by simpa using World.news_of_block (cs := cs.toArray) (t := e) (fr := (0, 0)) hbox) (d.K_one (d.K_of_M hp)) (by simp only [maxLen]; omega) hl hbase
  have hat' : v1.ownBlock = v.ownBlock ∨ ∃ b, v1.ownBlock = some b ∧ W.heap.size ≤ b := by
    rcases hat with hat | hat
    · exact .inl hat
    · exact .inr ⟨_, hat, Nat.le_refl _⟩
  exact ⟨v1, w1, hrun, Kd.R_appended h0 hr hp hokp hfresh hown1 hg hat', hg, hat'⟩
/-- A list of keys of the call's own. -/
def KR (w : World) (base : Nat) (ks : Value) (l : List ByteArray) : Prop := Kd.string.R 9 w base (fun k => some k = ks.ownBlock) ks l
/-- A list of values of the call's own, apart from ks. -/
def VR (w : World) (base : Nat) (ks vs : Value) (f : List V) : Prop := k26.R 26 w base (fun k => base ≤ k ∧ some k ≠ ks.ownBlock) vs f
theorem KR.own {w : World} {base : Nat} {ks : Value} {l : List ByteArray} (h : KR w base ks l) : w.ownsRow base 9 1 ks l.length (encs Value.string l) := Kd.own_of_R h
theorem KR.of {w : World} {base : Nat} {ks : Value} {l : List ByteArray} {ok : Nat → Prop} (h : Kd.string.R 9 w base ok ks l) : KR w base ks l := Kd.R_of_own (Kd.own_of_R h) (fun k hk => hk.symm)
/-- What lay between w's end, two blocks on, and w2's end lies there still. -/
def KF (w w2 w' : World) : Prop := w2.heap.size ≤ w'.heap.size ∧ ∀ k, w.heap.size + 2 ≤ k → k < w2.heap.size → w'.heap[k]? = w2.heap[k]?
theorem KF.up {w w2 w' w'' : World} (h : KF w w2 w') (hb : Below w'.heap.size w' w'') : KF w w2 w'' := ⟨Nat.le_trans h.1 hb.size, fun k h1 h2 => (hb.block k (Nat.lt_of_lt_of_le h2 h.1)).trans (h.2 k h1 h2)⟩
theorem KF.grown {w w2 w' w'' : World} {row : Option Nat} (h : KF w w2 w') (hg : w'.grownBy w'' row) (hr : ∀ k, row = some k → k < w.heap.size + 2 ∨ w2.heap.size ≤ k) : KF w w2 w'' :=
  ⟨Nat.le_trans h.1 hg.size, fun k h1 h2 => (hg.block k (Nat.lt_of_lt_of_le h2 h.1) (fun e => by have := hr k e.symm; omega)).trans (h.2 k h1 h2)⟩
/-- What stands in mapFromGo's round while a key and its value are appended. -/
structure MQ (w w2 : World) (Vb : Nat) (ks vs : Value) (cs : List Value) (l : List ByteArray) (f5 : List V) (j s0 : Nat) (kb vb : Option Nat) (ks1 : Value) (nk : Nat) (w' : World) : Prop where
  b : Below w.heap.size w w'
  kf : KF w w2 w'
  hw : w.heap.size + 2 ≤ w2.heap.size
  r : w'.heap[w.heap.size]? = some (.cells #[.int .i64 0, .int .i64 0, .string ⟨#[]⟩, .slice none 0 0, .slice none 0 0, .slice none 0 0] 26 (0, 0))
  o : w'.heap[w.heap.size + 1]? = some (.cells #[.int .i64 6, .int .i64 0, .string ⟨#[]⟩, .slice none 0 0, ks, vs] 26 (0, 0))
  v : w'.heap[Vb]? = some (.cells cs.toArray 26 (0, 0))
  s : w2.heap.size ≤ s0
  sv : ∀ k, vs.ownBlock = some k → k < s0
  kr : KR w' w2.heap.size ks1 (l.take nk)
  vr : VR w' w2.heap.size ks1 vs (f5.take j)
  m : k26.M w' w2.heap.size (fun k => s0 ≤ k ∧ some k ≠ ks1.ownBlock) (rd_T26 f5 j) cs
  kx : ∀ b, kb = some b → w'.heap[b]? = some (.cells #[.string (rdOf ByteArray.empty l j)] 9 (0, 0))
  vx : ∀ b, vb = some b → w'.heap[b]? = some (.cells cs.toArray 26 (0, 0))
theorem MQ.up {w w2 : World} {Vb : Nat} {ks vs : Value} {cs : List Value} {l : List ByteArray} {f5 : List V} {j s0 : Nat} {kb vb : Option Nat} {ks1 : Value} {nk : Nat} {w' w'' : World} (h : MQ w w2 Vb ks vs cs l f5 j s0 kb vb ks1 nk w') (hb : Below w'.heap.size w' w'') : MQ w w2 Vb ks vs cs l f5 j s0 kb vb ks1 nk w'' where
  b := h.b.trans (hb.mono h.b.size)
  kf := h.kf.up hb
  hw := h.hw
  r := (hb.block _ (lt_of_heap h.r)).trans h.r
  o := (hb.block _ (lt_of_heap h.o)).trans h.o
  v := (hb.block _ (lt_of_heap h.v)).trans h.v
  s := h.s
  sv := h.sv
  kr := Kd.R_below h.kr hb
  vr := Kd.R_below h.vr hb
  m := Kd.M_below h.m hb
  kx := fun b e => (hb.block _ (lt_of_heap (h.kx b e))).trans (h.kx b e)
  vx := fun b e => (hb.block _ (lt_of_heap (h.vx b e))).trans (h.vx b e)
theorem MQ.b3 {w w2 : World} {Vb : Nat} {ks vs : Value} {cs : List Value} {l : List ByteArray} {f5 : List V} {j s0 : Nat} {kb vb : Option Nat} {ks1 : Value} {nk : Nat} {w' : World} (h : MQ w w2 Vb ks vs cs l f5 j s0 kb vb ks1 nk w') : MQ w w2 Vb ks vs cs l f5 j s0 (some w'.heap.size) vb ks1 nk (w'.alloc (.cells #[.string (rdOf ByteArray.empty l j)] 9)) :=
  { h.up ((Below.refl _ w').alloc (Nat.le_refl _) (.cells #[.string (rdOf ByteArray.empty l j)] 9)) with kx := fun b e => by cases e; exact (MapKept.heap_alloc w' _).1 }
theorem MQ.b8 {w w2 : World} {Vb : Nat} {ks vs : Value} {cs : List Value} {l : List ByteArray} {f5 : List V} {j s0 : Nat} {kb vb : Option Nat} {ks1 : Value} {nk : Nat} {w' : World} (h : MQ w w2 Vb ks vs cs l f5 j s0 kb vb ks1 nk w') : MQ w w2 Vb ks vs cs l f5 j s0 kb (some w'.heap.size) ks1 nk (w'.alloc (.cells cs.toArray 26)) :=
  { h.up ((Below.refl _ w').alloc (Nat.le_refl _) (.cells cs.toArray 26)) with vx := fun b e => by cases e; exact (MapKept.heap_alloc w' _).1 }
theorem info_strk : (Tryz.prog.info? 9).map (fun i => (i.zero, i.size, i.bytes)) = some (some (.string ⟨#[]⟩), 1, 16) := by kernel_rfl
theorem MQ.a4 {w w2 : World} {Vb : Nat} {ks vs : Value} {cs : List Value} {l : List ByteArray} {f5 : List V} {j s0 kb : Nat} {vb : Option Nat} {w' : World} (h : MQ w w2 Vb ks vs cs l f5 j s0 (some kb) vb ks j w') (hj : j < l.length) (hn : l.length ≤ 1000000) :
    ∃ (A : Option Addr) (m c : Nat) (w1 : World), (Builtin.append_ #[24, 24] 24 #[ks, .slice (some ⟨kb, 0, none⟩) 1 1]).run Tryz.prog w' = .ok (.slice A m c) w1 ∧ MQ w w2 Vb ks vs cs l f5 j s0 none vb (.slice A m c) (j + 1) w1 := by
  have hsz : w2.heap.size ≤ w'.heap.size := h.kf.1
  have hw := h.hw
  obtain ⟨v1, w1, hrun, hR, hg, hat⟩ := R_run_at (P := Tryz.prog) Kd.string (W := w') w2.heap.size 24 24 9 _ 16 Tryz.underlying24 info_strk rfl (by decide) (by decide) ks (l.take j) (rdOf ByteArray.empty l j) [.string (rdOf ByteArray.empty l j)] (fun _ => True) (fun _ => False) kb (h.kx kb rfl) rfl (fun _ hk => hk.elim) (fun _ _ => trivial)
    (Kd.R_mono h.kr (fun _ _ => trivial)) hsz (by rw [List.length_take]; omega)
  have e1 : l.take j ++ [rdOf ByteArray.empty l j] = l.take (j + 1) := by
    rw [List.take_add_one, key_rd l j hj]
    rfl
  rw [e1] at hR
  have hbl := own_base h.kr.own
  have hlt := own_lt h.kr.own
  have hne : ∀ {g : Nat} {c : Array Value}, w'.heap[g]? = some (.cells c 26 (0, 0)) → some g ≠ ks.ownBlock := fun hgc => own_ne h.kr.own hgc (by decide)
  have hnk : ∀ k, k < w'.heap.size → some k ≠ ks.ownBlock → some k ≠ v1.ownBlock := fun k hk h1 => by
    rcases hat with e | ⟨b, e, hb⟩
    · rw [e]; exact h1
    · rw [e]; intro e2; cases e2; omega
  obtain ⟨A, c, rfl⟩ := Kd.R_slice hR
  refine ⟨A, _, c, w1, hrun, ⟨h.b.grown hg h.b.size (fun k hk => by have := hbl k hk; omega), h.kf.grown hg (fun k hk => .inr (hbl k hk)), h.hw, (hg.block _ (lt_of_heap h.r) (hne h.r)).trans h.r, (hg.block _ (lt_of_heap h.o) (hne h.o)).trans h.o, (hg.block _ (lt_of_heap h.v) (hne h.v)).trans h.v, h.s, h.sv, KR.of hR, ?_, ?_, fun b e => by (cases e), fun b e => (hg.block _ (lt_of_heap (h.vx b e)) (hne (h.vx b e))).trans (h.vx b e)⟩⟩
  · have h1 := Kd.R_bound h.vr
    have h2 := Kd.R_grown h1 hg (fun k hk => hk.1.2)
    exact Kd.R_mono h2 (fun k hk => ⟨hk.1.1, hnk k hk.2.2.1 hk.1.2⟩)
  · have h1 := k26.M_bound h.m
    have h2 := Kd.M_grown h1 hg (fun k hk => hk.1.2)
    exact k26.M_mono (fun k hk => ⟨hk.1.1, hnk k hk.2.2.1 hk.1.2⟩) h2
/-- What is left behind both appends. -/
structure MR (w w2 : World) (ks vs ks1 vs1 : Value) (l : List ByteArray) (f5 : List V) (j : Nat) (w' : World) : Prop where
  b : Below w.heap.size w w'
  kf : KF w w2 w'
  hw : w.heap.size + 2 ≤ w2.heap.size
  r : w'.heap[w.heap.size]? = some (.cells #[.int .i64 0, .int .i64 0, .string ⟨#[]⟩, .slice none 0 0, .slice none 0 0, .slice none 0 0] 26 (0, 0))
  o : w'.heap[w.heap.size + 1]? = some (.cells #[.int .i64 6, .int .i64 0, .string ⟨#[]⟩, .slice none 0 0, ks, vs] 26 (0, 0))
  kr : KR w' w2.heap.size ks1 (l.take j)
  vr : VR w' w2.heap.size ks1 vs1 (f5.take j)
theorem MQ.a9 {w w2 : World} {Vb : Nat} {ks vs : Value} {cs : List Value} {l : List ByteArray} {f5 : List V} {j s0 vb : Nat} {ks1 : Value} {w' : World} (h : MQ w w2 Vb ks vs cs l f5 j s0 none (some vb) ks1 (j + 1) w') (hj : j < f5.length) (hn : f5.length ≤ 1000000) :
    ∃ (A : Option Addr) (m c : Nat) (w1 : World), (Builtin.append_ #[22, 22] 22 #[vs, .slice (some ⟨vb, 0, none⟩) 1 1]).run Tryz.prog w' = .ok (.slice A m c) w1 ∧ MR w w2 ks vs ks1 (.slice A m c) l f5 (j + 1) w1 := by
  have hsz : w2.heap.size ≤ w'.heap.size := h.kf.1
  have hw := h.hw
  have hkl := own_lt h.kr.own
  obtain ⟨v1, w1, hrun, hR, hg, hat⟩ := R_run_at (P := Tryz.prog) k26 (W := w') w2.heap.size 22 22 26 _ 104 Tryz.underlying22 info_val rfl (by decide) (by decide) vs (f5.take j) (rd_T26 f5 j) cs (fun k => w2.heap.size ≤ k ∧ some k ≠ ks1.ownBlock) (fun k => s0 ≤ k ∧ some k ≠ ks1.ownBlock) vb (h.vx vb rfl) h.m
    (fun k hk => ⟨⟨Nat.le_trans h.s hk.1, hk.2⟩, fun e => by have := h.sv k e.symm; omega⟩) (fun k hk => ⟨by omega, fun e => by have := hkl k e.symm; omega⟩) h.vr hsz (by rw [List.length_take]; omega)
  have e1 : f5.take j ++ [rd_T26 f5 j] = f5.take (j + 1) := by
    rw [List.take_add_one, rd_at f5 j hj]
    rfl
  rw [e1] at hR
  obtain ⟨A, c, rfl⟩ := Kd.R_slice hR
  have hbl : ∀ k, vs.ownBlock = some k → w2.heap.size ≤ k := fun k hk => (h.vr.1 k hk).1
  refine ⟨A, _, c, w1, hrun, ⟨h.b.grown hg h.b.size (fun k hk => by have := hbl k hk; omega), h.kf.grown hg (fun k hk => .inr (hbl k hk)), h.hw, (hg.block _ (lt_of_heap h.r) (fun e => by have := hbl _ e.symm; omega)).trans h.r, (hg.block _ (lt_of_heap h.o) (fun e => by have := hbl _ e.symm; omega)).trans h.o, ?_, hR⟩⟩
  exact Kd.R_grown h.kr hg (fun k hk e => (h.vr.1 k e.symm).2 hk)
theorem MR.put {w w2 : World} {ks vs ks1 vs1 : Value} {l : List ByteArray} {f5 : List V} {j : Nat} {w' : World} (h : MR w w2 ks vs ks1 vs1 l f5 j w') : MR w w2 ks1 vs1 ks1 vs1 l f5 j ((w'.setCell ⟨w.heap.size + 1, 4, none⟩ ks1).setCell ⟨w.heap.size + 1, 5, none⟩ vs1) := by
  have hgr : w'.grownBy ((w'.setCell ⟨w.heap.size + 1, 4, none⟩ ks1).setCell ⟨w.heap.size + 1, 5, none⟩ vs1) (some (w.heap.size + 1)) := grown_set (grown_set (World.grownBy.refl w' _) 4 _) 5 _
  have hkb := own_base h.kr.own
  have hw := h.hw
  have hsz2 := h.kf.1
  refine ⟨h.b.grown hgr h.b.size (fun k hk => by cases hk; omega), h.kf.grown hgr (fun k hk => by cases hk; left; omega), h.hw, (hgr.block _ (lt_of_heap h.r) (by simp)).trans h.r, ?_, Kd.R_grown h.kr hgr (fun k hk e => by cases e; have := hkb _ hk.symm; omega), Kd.R_grown h.vr hgr (fun k hk e => by cases e; have := hk.1; omega)⟩
  rw [heap_set (heap_set h.o 4 _) 5 _]
  rfl
theorem MQ.drewq {w w2 : World} {Vb : Nat} {ks vs : Value} {cs : List Value} {l : List ByteArray} {f5 : List V} {j s0 : Nat} {kb vb : Option Nat} {ks1 : Value} {nk : Nat} {w' : World} (h : MQ w w2 Vb ks vs cs l f5 j s0 kb vb ks1 nk w') : MQ w w2 Vb ks vs cs l f5 j s0 kb vb ks1 nk w'.drew := h.up ((Below.refl _ _).drew)
theorem mq_start {w w2 wr w4 : World} {ks vs : Value} {cs : List Value} {l : List ByteArray} {f5 : List V} {j : Nat} (h : MR w w2 ks vs ks vs l f5 j wr) (hb4 : Below wr.heap.size wr w4) (hM : k26.M w4 wr.heap.size (fun k => wr.heap.size ≤ k) (rd_T26 f5 j) cs) :
    MQ w w2 w4.heap.size ks vs cs l f5 j wr.heap.size none none ks j (w4.alloc (.cells cs.toArray 26)) := by
  have hb5 : Below wr.heap.size wr (w4.alloc (.cells cs.toArray 26)) := hb4.alloc hb4.size _
  have hkl := own_lt h.kr.own
  have hvl := own_lt_R h.vr
  exact ⟨h.b.trans (hb5.mono h.b.size), h.kf.up hb5, h.hw, (hb5.block _ (lt_of_heap h.r)).trans h.r, (hb5.block _ (lt_of_heap h.o)).trans h.o, (MapKept.heap_alloc w4 _).1, h.kf.1, hvl, Kd.R_below h.kr hb5, Kd.R_below h.vr hb5,
    k26.M_mono (fun k hk => ⟨hk, fun e => by have := hkl k e.symm; have : wr.heap.size ≤ k := hk; omega⟩) (Kd.M_below (k26.M_lower h.kf.1 hM) ((Below.refl _ w4).alloc (Nat.le_refl _) _)), fun b e => (by cases e), fun b e => (by cases e)⟩
end Go.Proofs.YtbnfeicpjmfooaaGreatDoor.NumA
/-
impl.mapFromGo, walked.
-/
set_option linter.unusedSimpArgs false
set_option linter.unusedVariables false
namespace Go.Proofs.YtbnfeicpjmfooaaGreatDoor.NumA
open Go.RowKit Go.Lib Go.Proofs.YtbnfeicpjmfooaaGreatDoor.ValA Go.Proofs.YtbnfeicpjmfooaaGreatDoor.FloH Go.Proofs.YtbnfeicpjmfooaaGreatDoorW.PrintWords Go.Proofs.YtbnfeicpjmfooaaGreatDoorW.PrintLast Go.Proofs.YtbnfeicpjmfooaaGreatDoorW.PrintMore Go.Proofs.YtbnfeicpjmfooaaGreatDoor.PzzFits1
section
variable {P : Program} {ops : Array Oper} {Q : Exit → Act → World → Prop}
/-- A new box, then what comes. -/
theorem box3_ {oi : Oper} {N : Option Tmp} {a : Act} {w w2 w' : World} {K : Act → World → Prop} {Vb : Nat} {ks vs : Value} {cs : List Value} {l : List ByteArray} {f5 : List V} {j s0 : Nat} {kb vb : Option Nat} {ks1 : Value} {nk : Nat} (h : MQ w w2 Vb ks vs cs l f5 j s0 kb vb ks1 nk w') (hw : Region.wanted oi (yielded ops a.tmps) = true) (hN : oi.dst = N)
    (hrun : (execOp a.eval oi).run P w' = .ok (.value (.slice (some ⟨w'.heap.size, 0, none⟩) 1 1)) (w'.alloc (.cells #[.string (rdOf ByteArray.empty l j)] 9))) (hK : ∀ b w1, MQ w w2 Vb ks vs cs l f5 j s0 (some b) vb ks1 nk w1 → K (a.put N (.slice (some ⟨b, 0, none⟩) 1 1)) w1) :
    if Region.wanted oi (yielded ops a.tmps) = true then Oper.wp P oi a w' K Q else K (a.put N undef) w' := value_ hw hN hrun (hK _ _ h.b3)
theorem box8_ {oi : Oper} {N : Option Tmp} {a : Act} {w w2 w' : World} {K : Act → World → Prop} {Vb : Nat} {ks vs : Value} {cs : List Value} {l : List ByteArray} {f5 : List V} {j s0 : Nat} {kb vb : Option Nat} {ks1 : Value} {nk : Nat} (h : MQ w w2 Vb ks vs cs l f5 j s0 kb vb ks1 nk w') (hw : Region.wanted oi (yielded ops a.tmps) = true) (hN : oi.dst = N)
    (hrun : (execOp a.eval oi).run P w' = .ok (.value (.slice (some ⟨w'.heap.size, 0, none⟩) 1 1)) (w'.alloc (.cells cs.toArray 26))) (hK : ∀ b w1, MQ w w2 Vb ks vs cs l f5 j s0 kb (some b) ks1 nk w1 → K (a.put N (.slice (some ⟨b, 0, none⟩) 1 1)) w1) :
    if Region.wanted oi (yielded ops a.tmps) = true then Oper.wp P oi a w' K Q else K (a.put N undef) w' := value_ hw hN hrun (hK _ _ h.b8)
/-- An append. -/
theorem app_ {oi : Oper} {N : Option Tmp} {a : Act} {w' w1 : World} {K : Act → World → Prop} (s x : Operand) (t : TypeId) (v y v1 : Value) (hw : Region.wanted oi (yielded ops a.tmps) = true) (hN : oi.dst = N) (ho : oi.op = .call { callee := .builtin .append, args := #[s, x], argTypes := #[t, t] }) (hs : a.eval s = v) (hx : a.eval x = y)
    (hrun : (Builtin.append_ #[t, t] oi.type #[v, y]).run P w' = .ok v1 w1) (hK : K (a.put N v1) w1) :
    if Region.wanted oi (yielded ops a.tmps) = true then Oper.wp P oi a w' K Q else K (a.put N undef) w' :=
  value_ hw hN (by simp [execOp, ho, resolve, invoke, builtin, hs, hx, hrun, Result.andThen]) hK
end
/-- A row of keys, at base or behind. -/
def KeysAt (base : Nat) (w : World) (A : Option Addr) (l : List ByteArray) : Prop := l = [] ∨ ∃ (g : Nat) (cur : Array Value), A = some ⟨g, 0, none⟩ ∧ base ≤ g ∧ w.heap[g]? = some (.cells cur 9 (0, 0)) ∧ ∀ (j : Nat) (s : ByteArray), l[j]? = some s → cur[j]? = some (.string s)
/-- A map's keys, in their order, by the library. -/
def KeysSorted (b : Nat) (l : List ByteArray) (w : World) : Prop :=
  Calls Tryz.prog 161 #[.map (some b)] w fun e w1 => ∃ fv, e = .returned fv ∧ Calls Tryz.prog 160 #[fv] w1 fun e w2 => ∃ A c, e = .returned (.slice A l.length c) ∧ KeysAt w.heap.size w2 A l ∧ Below w.heap.size w w2
/-- The head of mapFromGo's round. -/
def RMf (w w2 : World) (l : List ByteArray) (f5 : List V) (n k : Nat) (i : Value) (wr : World) : Prop :=
  ∃ (j : Nat) (A4 : Option Addr) (m4 c4 : Nat) (A5 : Option Addr) (m5 c5 : Nat), i = .int .i64 j ∧ k + j = n ∧ MR w w2 (.slice A4 m4 c4) (.slice A5 m5 c5) (.slice A4 m4 c4) (.slice A5 m5 c5) l f5 j wr
set_option maxRecDepth 100000 in
set_option maxHeartbeats 8000000 in
theorem mapFromGo_any (w : World) (b c n : Nat) (es : List MapEntry) (l : List ByteArray) (f5 : List V) (hl : l.length = n) (h5 : f5.length = n) (hn : n ≤ 1000000) (hb : w.heap[b]? = some (.map es.toArray c)) (hst : MapKept.Stamped es.toArray c) (hk : KeysAre es l)
    (HKS : ∀ w', Below w.heap.size w w' → KeysSorted b l w')
    (IH : ∀ (j : Nat) (e : MapEntry), j < n → e ∈ es → e.key = .string (rdOf ByteArray.empty l j) → ∀ w', Below w.heap.size w w' → FromGo (rd_T26 f5 j) e.val w') :
    Calls Tryz.prog 116 #[.map (some b)] w fun e w' => ∃ cs, e = .returned (.tuple #[.agg cs.toArray, .bool true]) ∧ k26.M w' w.heap.size (fun k => w.heap.size ≤ k) ⟨6, 0, ⟨#[]⟩, [], l, f5⟩ cs ∧ Below w.heap.size w w' := by
  have HI := Lib.hid (fun j e h0 h h' w' hw => IH j e h0 h h' w' hw)
  have HB := Lib.hid (And.intro hb (And.intro hst hk))
  have HN := Lib.hid (And.intro hn (And.intro hl h5))
  obtain ⟨W0, hW0⟩ : ∃ W0, W0 = (w.alloc (.cells #[.int .i64 0, .int .i64 0, .string ⟨#[]⟩, .slice none 0 0, .slice none 0 0, .slice none 0 0] 26)).alloc (.cells #[.int .i64 6, .int .i64 0, .string ⟨#[]⟩, .slice none 0 0, .slice none 0 0, .slice none 0 0] 26) := ⟨_, rfl⟩
  have H0 := Lib.hid (show SPL w [(w.heap.size, #[.int .i64 0, .int .i64 0, .string ⟨#[]⟩, .slice none 0 0, .slice none 0 0, .slice none 0 0], 26), (w.heap.size + 1, #[.int .i64 6, .int .i64 0, .string ⟨#[]⟩, .slice none 0 0, .slice none 0 0, .slice none 0 0], 26)] W0 ∧ w.heap.size + 2 = W0.heap.size by
    rw [hW0]
    have h2 := SPL.two w #[.int .i64 0, .int .i64 0, .string ⟨#[]⟩, .slice none 0 0, .slice none 0 0, .slice none 0 0] #[.int .i64 6, .int .i64 0, .string ⟨#[]⟩, .slice none 0 0, .slice none 0 0, .slice none 0 0] 26 26
    exact ⟨h2, by rw [World.size_alloc, World.size_alloc]⟩)
  have HK0 := Lib.hid (HKS W0 H0.out.1.1)
  clear IH hb hst hk hl h5 HKS
  go_enter Tryz.func116, Tryz.ntmps116
  go_wp2_with fail
  rw [← hW0]
  clear hW0
  unfold KeysSorted at HK0
  refine HK0.out.mono ?_
  rintro e w1 ⟨fv, rfl, hQ⟩
  have HQ := Lib.hid hQ
  clear hQ HK0
  go_wp2_with fail
  refine HQ.out.mono ?_
  rintro e w2 ⟨Ak, ck, rfl, hC, hb2⟩
  have HC := Lib.hid (show KeysAt (w.heap.size + 2) w2 Ak l by rw [H0.out.2]; exact hC)
  have H2 := Lib.hid (show MR w w2 (.slice none 0 0) (.slice none 0 0) (.slice none 0 0) (.slice none 0 0) l f5 0 w2 from ⟨H0.out.1.1.trans (hb2.mono H0.out.1.1.size), ⟨Nat.le_refl _, fun _ _ _ => rfl⟩, by have := H0.out.2; have := hb2.size; omega, (hb2.block _ (lt_of_heap (H0.out.1.get 0 rfl))).trans (H0.out.1.get 0 rfl), (hb2.block _ (lt_of_heap (H0.out.1.get 1 rfl))).trans (H0.out.1.get 1 rfl), by rw [List.take_zero]; exact Kd.R_nil _ _ _ _ _, by rw [List.take_zero]; exact Kd.R_nil _ _ _ _ _⟩)
  rw [HN.out.2.1]
  clear hC hb2 H0 HQ
  go_wp2_with fail
  go_loopg [14] n (fun k i wr => RMf w w2 l f5 n k i wr)
  case atStart => exact ⟨0, none, 0, 0, none, 0, 0, rfl, by omega, H2.out⟩
  case round =>
    clear H2
    obtain ⟨j, A4, m4, c4, A5, m5, c5, rfl, hkj, hMR⟩ := hrel
    have HR := Lib.hid hMR
    have HK := Lib.hid hkj
    by_cases hlt : j < n
    · obtain ⟨gk', cur, rfl, hge, hcur, hcells⟩ := HC.out.resolve_left (by intro e; have := HN.out.2.1; rw [e] at this; simp at this; omega)
      have xk : wr.cell? ⟨gk', j, none⟩ = some (.string (rdOf ByteArray.empty l j)) := by
        have h := (hMR.kf.2 gk' hge (lt_of_heap hcur)).trans hcur
        have h2 := hcells j _ (key_rd l j (by have := HN.out.2.1; omega))
        rw [cell_of_row wr gk' j cur _ (0, 0) h, h2]
      obtain ⟨ev, a0, a1, a2⟩ := entry_at HB.out.1 HB.out.2.1 HB.out.2.2 j (by have := HN.out.2.1; omega)
      have HL := Lib.hid (HI.out j ev hlt a0 a1 wr hMR.b)
      have hlook := a2 wr hMR.b
      have hlt2 : (j : Int) < (n : Int) := by omega
      have HLT := Lib.hid hlt
      clear hMR hkj a0 a1 a2 hlt hn
      unfold FromGo at HL
      go_wp2_with fail
      refine HL.out.mono ?_
      rintro e w4 ⟨cs, rfl, hM, hb4⟩
      obtain ⟨v3, v4, v5, rfl, g3, g4, g5⟩ := k26_openM hM
      obtain ⟨B3, d3, rfl⟩ := Kd.R_slice g3
      obtain ⟨B4, d4, rfl⟩ := Kd.R_slice g4
      obtain ⟨B5, d5, rfl⟩ := Kd.R_slice g5
      obtain ⟨Vb, hVb⟩ : ∃ Vb, Vb = w4.heap.size := ⟨_, rfl⟩
      obtain ⟨s0, hs0⟩ : ∃ s0, s0 = wr.heap.size := ⟨_, rfl⟩
      obtain ⟨W5, hW5⟩ : ∃ W5, W5 = w4.alloc (.cells #[.int .i64 (rd_T26 f5 j).f0, .int .i64 (rd_T26 f5 j).f1, .string (rd_T26 f5 j).f2, .slice B3 (rd_T26 f5 j).f3.length d3, .slice B4 (rd_T26 f5 j).f4.length d4, .slice B5 (rd_T26 f5 j).f5.length d5] 26) := ⟨_, rfl⟩
      have HZ := Lib.hid (show MQ w w2 Vb (.slice A4 m4 c4) (.slice A5 m5 c5) [.int .i64 (rd_T26 f5 j).f0, .int .i64 (rd_T26 f5 j).f1, .string (rd_T26 f5 j).f2, .slice B3 (rd_T26 f5 j).f3.length d3, .slice B4 (rd_T26 f5 j).f4.length d4, .slice B5 (rd_T26 f5 j).f5.length d5] l f5 j s0 none none (.slice A4 m4 c4) j W5 by
        rw [hW5, hVb, hs0]
        exact mq_start HR.out hb4 hM)
      have HB5 := Lib.hid (show Below wr.heap.size wr W5 by rw [hW5]; exact hb4.alloc hb4.size _)
      clear hM g3 g4 g5 hb4 hlook xk hge hcur hcells
      go_wp2_with fail
      rw [← hW5, ← hVb]
      clear hW5 hVb
      refine start_ (n := 14) (S := fun w' => w'.cell? ⟨w.heap.size + 1, 4, none⟩ = some (.slice A4 m4 c4) ∧ w'.cell? ⟨w.heap.size + 1, 5, none⟩ = some (.slice A5 m5 c5) ∧ w'.cell? ⟨Vb, 0, none⟩ = some (.int .i64 (rd_T26 f5 j).f0) ∧ w'.cell? ⟨Vb, 1, none⟩ = some (.int .i64 (rd_T26 f5 j).f1) ∧ w'.cell? ⟨Vb, 2, none⟩ = some (.string (rd_T26 f5 j).f2) ∧ w'.cell? ⟨Vb, 3, none⟩ = some (.slice B3 (rd_T26 f5 j).f3.length d3) ∧ w'.cell? ⟨Vb, 4, none⟩ = some (.slice B4 (rd_T26 f5 j).f4.length d4) ∧ w'.cell? ⟨Vb, 5, none⟩ = some (.slice B5 (rd_T26 f5 j).f5.length d5)) (ds := [9, 11, 13]) #[false, false, false, false, false, false, false, false, false, false, false, false, false, false] (by kernel_rfl) rfl rfl ⟨((six_cells HZ.out.drewq.o).2.2.2.2.1), ((six_cells HZ.out.drewq.o).2.2.2.2.2.1), ((six_cells HZ.out.drewq.v).1), ((six_cells HZ.out.drewq.v).2.1), ((six_cells HZ.out.drewq.v).2.2.1), ((six_cells HZ.out.drewq.v).2.2.2.1), ((six_cells HZ.out.drewq.v).2.2.2.2.1), ((six_cells HZ.out.drewq.v).2.2.2.2.2.1)⟩ (fun hHeld => ?_)
      refine pure_ (i := 0) (N := some 28) (v := ?_) (a' := ?_) #[true, false, false, false, false, false, false, false, false, false, false, false, false, false] rfl rfl (by kernel_rfl) (fun _ _ _ h => h) (Or.inl ⟨by rfl, ?_⟩) ?_ ?_
      rotate_left
      · intro w'
        go_simp
        with_reducible rfl
      rotate_left
      · simp only [Act.put, List.setIfInBounds_toArray, List.set_cons_zero, List.set_cons_succ, i64_w, i32_w]
        rfl
      refine pure_ (i := 2) (N := some 30) (v := ?_) (a' := ?_) #[true, false, true, false, false, false, false, false, false, false, false, false, false, false] rfl rfl (by kernel_rfl) (fun _ _ _ h => h) (Or.inl ⟨by rfl, ?_⟩) ?_ ?_
      rotate_left
      · intro w'
        go_simp
        with_reducible rfl
      rotate_left
      · simp only [Act.put, List.setIfInBounds_toArray, List.set_cons_zero, List.set_cons_succ, i64_w, i32_w]
        rfl
      refine pure_ (i := 5) (N := some 33) (v := ?_) (a' := ?_) #[true, false, true, false, false, true, false, false, false, false, false, false, false, false] rfl rfl (by kernel_rfl) (fun _ _ _ h => h) (Or.inl ⟨by rfl, ?_⟩) ?_ ?_
      rotate_left
      · intro w'
        go_simp
        with_reducible rfl
      rotate_left
      · simp only [Act.put, List.setIfInBounds_toArray, List.set_cons_zero, List.set_cons_succ, i64_w, i32_w]
        rfl
      refine take_ (i := 1) (N := some 29) (v := ?_) (a' := ?_) #[true, true, true, false, false, true, false, false, false, false, false, false, false, false] rfl rfl (by kernel_rfl) (fun _ _ _ h => h) (Or.inl ⟨by rfl, ?_⟩) hHeld ?_ ?_
      rotate_left
      · rintro w' ⟨s0, s1, s2, s3, s4, s5, s6, s7⟩
        go_simp
        with_reducible rfl
      rotate_left
      · simp only [Act.put, List.setIfInBounds_toArray, List.set_cons_zero, List.set_cons_succ, i64_w, i32_w]
        rfl
      refine take_ (i := 6) (N := some 34) (v := ?_) (a' := ?_) #[true, true, true, false, false, true, true, false, false, false, false, false, false, false] rfl rfl (by kernel_rfl) (fun _ _ _ h => h) (Or.inl ⟨by rfl, ?_⟩) hHeld ?_ ?_
      rotate_left
      · rintro w' ⟨s0, s1, s2, s3, s4, s5, s6, s7⟩
        go_simp
        with_reducible rfl
      rotate_left
      · simp only [Act.put, List.setIfInBounds_toArray, List.set_cons_zero, List.set_cons_succ, i64_w, i32_w]
        rfl
      refine take_ (i := 7) (N := some 35) (v := ?_) (a' := ?_) #[true, true, true, false, false, true, true, true, false, false, false, false, false, false] rfl rfl (by kernel_rfl) (fun _ _ _ h => h) (Or.inl ⟨by rfl, ?_⟩) hHeld ?_ ?_
      rotate_left
      · rintro w' ⟨s0, s1, s2, s3, s4, s5, s6, s7⟩
        go_simp
        with_reducible rfl
      rotate_left
      · simp only [Act.put, List.setIfInBounds_toArray, List.set_cons_zero, List.set_cons_succ, i64_w, i32_w]
        rfl
      refine join_ (σ := Nat × Nat × Option Addr × Nat × Nat) 4 #[true, true, true, true, true, true, true, true, true, false, true, false, false, false] (fun s => [(31, .slice (some ⟨s.1, 0, none⟩) 1 1), (32, .slice s.2.2.1 s.2.2.2.1 s.2.2.2.2), (36, .slice (some ⟨s.2.1, 0, none⟩) 1 1), (38, .pointer (some ⟨w.heap.size + 1, 4, none⟩))]) (fun s w' => MQ w w2 Vb (.slice A4 m4 c4) (.slice A5 m5 c5) [.int .i64 (rd_T26 f5 j).f0, .int .i64 (rd_T26 f5 j).f1, .string (rd_T26 f5 j).f2, .slice B3 (rd_T26 f5 j).f3.length d3, .slice B4 (rd_T26 f5 j).f4.length d4, .slice B5 (rd_T26 f5 j).f5.length d5] l f5 j s0 none (some s.2.1) (.slice s.2.2.1 s.2.2.2.1 s.2.2.2.2) (j + 1) w') ?_ ?_
      rotate_left
      · intro hCont
        refine two_ (i := 3) (j := 8) (Ni := some 31) (Nj := some 36) #[true, true, true, true, false, true, true, true, false, false, false, false, false, false] #[true, true, true, false, false, true, true, true, true, false, false, false, false, false] rfl rfl rfl rfl (by kernel_rfl) (by decide) (by decide) (fun K hK => ?_) (fun K hK => ?_)
        · skip
          refine box3_ HZ.out.drewq (by rfl) rfl ?_ ?_
          · first | (go_simp; done) | (go_simp; rfl)
          intro kb w21 hz1
          refine hK.out _ _ ⟨((six_cells hz1.o).2.2.2.2.1), ((six_cells hz1.o).2.2.2.2.2.1), ((six_cells hz1.v).1), ((six_cells hz1.v).2.1), ((six_cells hz1.v).2.2.1), ((six_cells hz1.v).2.2.2.1), ((six_cells hz1.v).2.2.2.2.1), ((six_cells hz1.v).2.2.2.2.2.1)⟩ (fun hHeld => ?_)
          clear hK K
          refine norm_ (a' := ?_) ?_ ?_
          rotate_left
          · show Act.put _ (some 31) _ = _
            simp only [Act.put, List.setIfInBounds_toArray, List.set_cons_zero, List.set_cons_succ, i64_w, i32_w]
            rfl
          refine two_ (i := 4) (j := 8) (Ni := some 32) (Nj := some 36) #[true, true, true, true, true, true, true, true, false, false, false, false, false, false] #[true, true, true, true, false, true, true, true, true, false, false, false, false, false] rfl rfl rfl rfl (by kernel_rfl) (by decide) (by decide) (fun K hK => ?_) (fun K hK => ?_)
          · skip
            obtain ⟨A6, m6, c6, w22, hrun, hz2⟩ := hz1.a4 (by have := HN.out.2.1; have := HLT.out; omega) (by have := HN.out; omega)
            refine app_ (.tmp 29) (.tmp 31) 24 _ _ (.slice A6 m6 c6) (by rfl) rfl rfl rfl rfl hrun ?_
            refine hK.out _ _ ⟨((six_cells hz2.o).2.2.2.2.1), ((six_cells hz2.o).2.2.2.2.2.1), ((six_cells hz2.v).1), ((six_cells hz2.v).2.1), ((six_cells hz2.v).2.2.1), ((six_cells hz2.v).2.2.2.1), ((six_cells hz2.v).2.2.2.2.1), ((six_cells hz2.v).2.2.2.2.2.1)⟩ (fun hHeld => ?_)
            clear hK K
            refine norm_ (a' := ?_) ?_ ?_
            rotate_left
            · show Act.put _ (some 32) _ = _
              simp only [Act.put, List.setIfInBounds_toArray, List.set_cons_zero, List.set_cons_succ, i64_w, i32_w]
              rfl
            refine pure_ (i := 10) (N := some 38) (v := ?_) (a' := ?_) #[true, true, true, true, true, true, true, true, false, false, true, false, false, false] rfl rfl (by kernel_rfl) (fun _ _ _ h => h) (Or.inl ⟨by rfl, ?_⟩) ?_ ?_
            rotate_left
            · intro w'
              go_simp
              with_reducible rfl
            rotate_left
            · simp only [Act.put, List.setIfInBounds_toArray, List.set_cons_zero, List.set_cons_succ, i64_w, i32_w]
              rfl
            refine one_ (i := 8) (N := some 36) #[true, true, true, true, true, true, true, true, true, false, true, false, false, false] rfl rfl (by kernel_rfl) (by decide) (fun K hK => ?_)
            refine box8_ hz2 (by rfl) rfl ?_ ?_
            · first | (go_simp; done) | (go_simp; rfl)
            intro vb w23 hz3
            refine hK.out _ _ ⟨((six_cells hz3.o).2.2.2.2.1), ((six_cells hz3.o).2.2.2.2.2.1), ((six_cells hz3.v).1), ((six_cells hz3.v).2.1), ((six_cells hz3.v).2.2.1), ((six_cells hz3.v).2.2.2.1), ((six_cells hz3.v).2.2.2.2.1), ((six_cells hz3.v).2.2.2.2.2.1)⟩ (fun hHeld => ?_)
            clear hK K
            refine norm_ (a' := ?_) ?_ ?_
            rotate_left
            · show Act.put _ (some 36) _ = _
              simp only [Act.put, List.setIfInBounds_toArray, List.set_cons_zero, List.set_cons_succ, i64_w, i32_w]
              rfl
            exact norm_ (by simp only [putAll, Act.put, List.setIfInBounds_toArray, List.set_cons_zero, List.set_cons_succ]) (hCont (kb, vb, A6, m6, c6) _ hz3)
          · skip
            refine box8_ hz1 (by rfl) rfl ?_ ?_
            · first | (go_simp; done) | (go_simp; rfl)
            intro vb w22 hz2
            refine hK.out _ _ ⟨((six_cells hz2.o).2.2.2.2.1), ((six_cells hz2.o).2.2.2.2.2.1), ((six_cells hz2.v).1), ((six_cells hz2.v).2.1), ((six_cells hz2.v).2.2.1), ((six_cells hz2.v).2.2.2.1), ((six_cells hz2.v).2.2.2.2.1), ((six_cells hz2.v).2.2.2.2.2.1)⟩ (fun hHeld => ?_)
            clear hK K
            refine norm_ (a' := ?_) ?_ ?_
            rotate_left
            · show Act.put _ (some 36) _ = _
              simp only [Act.put, List.setIfInBounds_toArray, List.set_cons_zero, List.set_cons_succ, i64_w, i32_w]
              rfl
            refine one_ (i := 4) (N := some 32) #[true, true, true, true, true, true, true, true, true, false, false, false, false, false] rfl rfl (by kernel_rfl) (by decide) (fun K hK => ?_)
            obtain ⟨A6, m6, c6, w23, hrun, hz3⟩ := hz2.a4 (by have := HN.out.2.1; have := HLT.out; omega) (by have := HN.out; omega)
            refine app_ (.tmp 29) (.tmp 31) 24 _ _ (.slice A6 m6 c6) (by rfl) rfl rfl rfl rfl hrun ?_
            refine hK.out _ _ ⟨((six_cells hz3.o).2.2.2.2.1), ((six_cells hz3.o).2.2.2.2.2.1), ((six_cells hz3.v).1), ((six_cells hz3.v).2.1), ((six_cells hz3.v).2.2.1), ((six_cells hz3.v).2.2.2.1), ((six_cells hz3.v).2.2.2.2.1), ((six_cells hz3.v).2.2.2.2.2.1)⟩ (fun hHeld => ?_)
            clear hK K
            refine norm_ (a' := ?_) ?_ ?_
            rotate_left
            · show Act.put _ (some 32) _ = _
              simp only [Act.put, List.setIfInBounds_toArray, List.set_cons_zero, List.set_cons_succ, i64_w, i32_w]
              rfl
            refine pure_ (i := 10) (N := some 38) (v := ?_) (a' := ?_) #[true, true, true, true, true, true, true, true, true, false, true, false, false, false] rfl rfl (by kernel_rfl) (fun _ _ _ h => h) (Or.inl ⟨by rfl, ?_⟩) ?_ ?_
            rotate_left
            · intro w'
              go_simp
              with_reducible rfl
            rotate_left
            · simp only [Act.put, List.setIfInBounds_toArray, List.set_cons_zero, List.set_cons_succ, i64_w, i32_w]
              rfl
            exact norm_ (by simp only [putAll, Act.put, List.setIfInBounds_toArray, List.set_cons_zero, List.set_cons_succ]) (hCont (kb, vb, A6, m6, c6) _ hz3)
        · skip
          refine box8_ HZ.out.drewq (by rfl) rfl ?_ ?_
          · first | (go_simp; done) | (go_simp; rfl)
          intro vb w21 hz1
          refine hK.out _ _ ⟨((six_cells hz1.o).2.2.2.2.1), ((six_cells hz1.o).2.2.2.2.2.1), ((six_cells hz1.v).1), ((six_cells hz1.v).2.1), ((six_cells hz1.v).2.2.1), ((six_cells hz1.v).2.2.2.1), ((six_cells hz1.v).2.2.2.2.1), ((six_cells hz1.v).2.2.2.2.2.1)⟩ (fun hHeld => ?_)
          clear hK K
          refine norm_ (a' := ?_) ?_ ?_
          rotate_left
          · show Act.put _ (some 36) _ = _
            simp only [Act.put, List.setIfInBounds_toArray, List.set_cons_zero, List.set_cons_succ, i64_w, i32_w]
            rfl
          refine one_ (i := 3) (N := some 31) #[true, true, true, true, false, true, true, true, true, false, false, false, false, false] rfl rfl (by kernel_rfl) (by decide) (fun K hK => ?_)
          refine box3_ hz1 (by rfl) rfl ?_ ?_
          · first | (go_simp; done) | (go_simp; rfl)
          intro kb w22 hz2
          refine hK.out _ _ ⟨((six_cells hz2.o).2.2.2.2.1), ((six_cells hz2.o).2.2.2.2.2.1), ((six_cells hz2.v).1), ((six_cells hz2.v).2.1), ((six_cells hz2.v).2.2.1), ((six_cells hz2.v).2.2.2.1), ((six_cells hz2.v).2.2.2.2.1), ((six_cells hz2.v).2.2.2.2.2.1)⟩ (fun hHeld => ?_)
          clear hK K
          refine norm_ (a' := ?_) ?_ ?_
          rotate_left
          · show Act.put _ (some 31) _ = _
            simp only [Act.put, List.setIfInBounds_toArray, List.set_cons_zero, List.set_cons_succ, i64_w, i32_w]
            rfl
          refine one_ (i := 4) (N := some 32) #[true, true, true, true, true, true, true, true, true, false, false, false, false, false] rfl rfl (by kernel_rfl) (by decide) (fun K hK => ?_)
          obtain ⟨A6, m6, c6, w23, hrun, hz3⟩ := hz2.a4 (by have := HN.out.2.1; have := HLT.out; omega) (by have := HN.out; omega)
          refine app_ (.tmp 29) (.tmp 31) 24 _ _ (.slice A6 m6 c6) (by rfl) rfl rfl rfl rfl hrun ?_
          refine hK.out _ _ ⟨((six_cells hz3.o).2.2.2.2.1), ((six_cells hz3.o).2.2.2.2.2.1), ((six_cells hz3.v).1), ((six_cells hz3.v).2.1), ((six_cells hz3.v).2.2.1), ((six_cells hz3.v).2.2.2.1), ((six_cells hz3.v).2.2.2.2.1), ((six_cells hz3.v).2.2.2.2.2.1)⟩ (fun hHeld => ?_)
          clear hK K
          refine norm_ (a' := ?_) ?_ ?_
          rotate_left
          · show Act.put _ (some 32) _ = _
            simp only [Act.put, List.setIfInBounds_toArray, List.set_cons_zero, List.set_cons_succ, i64_w, i32_w]
            rfl
          refine pure_ (i := 10) (N := some 38) (v := ?_) (a' := ?_) #[true, true, true, true, true, true, true, true, true, false, true, false, false, false] rfl rfl (by kernel_rfl) (fun _ _ _ h => h) (Or.inl ⟨by rfl, ?_⟩) ?_ ?_
          rotate_left
          · intro w'
            go_simp
            with_reducible rfl
          rotate_left
          · simp only [Act.put, List.setIfInBounds_toArray, List.set_cons_zero, List.set_cons_succ, i64_w, i32_w]
            rfl
          exact norm_ (by simp only [putAll, Act.put, List.setIfInBounds_toArray, List.set_cons_zero, List.set_cons_succ]) (hCont (kb, vb, A6, m6, c6) _ hz3)
      rintro ⟨kb, vb, A6, m6, c6⟩ w' hF
      change MQ w w2 Vb (.slice A4 m4 c4) (.slice A5 m5 c5) [.int .i64 (rd_T26 f5 j).f0, .int .i64 (rd_T26 f5 j).f1, .string (rd_T26 f5 j).f2, .slice B3 (rd_T26 f5 j).f3.length d3, .slice B4 (rd_T26 f5 j).f4.length d4, .slice B5 (rd_T26 f5 j).f5.length d5] l f5 j s0 none (some vb) (.slice A6 m6 c6) (j + 1) w' at hF
      have hHeld : w'.cell? ⟨w.heap.size + 1, 4, none⟩ = some (.slice A4 m4 c4) ∧ w'.cell? ⟨w.heap.size + 1, 5, none⟩ = some (.slice A5 m5 c5) ∧ w'.cell? ⟨Vb, 0, none⟩ = some (.int .i64 (rd_T26 f5 j).f0) ∧ w'.cell? ⟨Vb, 1, none⟩ = some (.int .i64 (rd_T26 f5 j).f1) ∧ w'.cell? ⟨Vb, 2, none⟩ = some (.string (rd_T26 f5 j).f2) ∧ w'.cell? ⟨Vb, 3, none⟩ = some (.slice B3 (rd_T26 f5 j).f3.length d3) ∧ w'.cell? ⟨Vb, 4, none⟩ = some (.slice B4 (rd_T26 f5 j).f4.length d4) ∧ w'.cell? ⟨Vb, 5, none⟩ = some (.slice B5 (rd_T26 f5 j).f5.length d5) := ⟨((six_cells hF.o).2.2.2.2.1), ((six_cells hF.o).2.2.2.2.2.1), ((six_cells hF.v).1), ((six_cells hF.v).2.1), ((six_cells hF.v).2.2.1), ((six_cells hF.v).2.2.2.1), ((six_cells hF.v).2.2.2.2.1), ((six_cells hF.v).2.2.2.2.2.1)⟩
      refine norm_ (a' := ?_) ?_ ?_
      rotate_left
      · simp only [putAll, Act.put, List.setIfInBounds_toArray, List.set_cons_zero, List.set_cons_succ]
        rfl
      refine last_ (i := 9) (N := some 37) #[true, true, true, true, true, true, true, true, true, true, true, false, false, false] rfl rfl (by kernel_rfl) (by decide) (fun K hK => ?_)
      obtain ⟨A7, m7, c7, w31, hrun, hz9⟩ := hF.a9 (by have := HN.out.2.2; have := HLT.out; omega) (by have := HN.out; omega)
      refine app_ (.tmp 34) (.tmp 36) 22 _ _ (.slice A7 m7 c7) (by rfl) rfl rfl rfl rfl hrun ?_
      refine hK.out _ _ ?_
      clear hK K
      refine norm_ (a' := ?_) ?_ ?_
      rotate_left
      · show Act.put _ (some 37) _ = _
        simp only [Act.put, List.setIfInBounds_toArray, List.set_cons_zero, List.set_cons_succ, i64_w, i32_w]
        rfl
      refine last_ (i := 11) (N := none) #[true, true, true, true, true, true, true, true, true, true, true, true, false, false] rfl rfl (by kernel_rfl) (by decide) (fun K hK => ?_)
      have yO := six_cells hz9.o
      refine skip_ (w1 := ?_) (by rfl) rfl ?_ ?_
      rotate_left
      · go_simp
        rfl
      refine hK.out _ _ ?_
      clear hK K
      refine pure_ (i := 12) (N := some 39) (v := ?_) (a' := ?_) #[true, true, true, true, true, true, true, true, true, true, true, true, true, false] rfl rfl (by kernel_rfl) (fun _ _ _ h => h) (Or.inl ⟨by rfl, ?_⟩) ?_ ?_
      rotate_left
      · intro w'
        go_simp
        with_reducible rfl
      rotate_left
      · simp only [Act.put, List.setIfInBounds_toArray, List.set_cons_zero, List.set_cons_succ, i64_w, i32_w]
        rfl
      refine last_ (i := 13) (N := none) #[true, true, true, true, true, true, true, true, true, true, true, true, true, true] rfl rfl (by kernel_rfl) (by decide) (fun K hK => ?_)
      have hP : (w31.setCell ⟨w.heap.size + 1, 4, none⟩ (.slice A6 m6 c6)).heap[w.heap.size + 1]? = some (.cells #[.int .i64 6, .int .i64 0, .string ⟨#[]⟩, .slice none 0 0, .slice A6 m6 c6, .slice A5 m5 c5] 26 (0, 0)) := by rw [heap_set hz9.o 4 _]; rfl
      have yP := six_cells hP
      refine skip_ (w1 := ?_) (by rfl) rfl ?_ ?_
      rotate_left
      · go_simp
        rfl
      refine hK.out _ _ ?_
      clear hK K
      refine done_ (by kernel_rfl) ?_
      go_wp2_with fail
      go_roundg (gk - 1)
      case measure => have := HK.out; have := HLT.out; omega
      case rel =>
        have hw : wrap64 ((j : Int) + 1) = ((j + 1 : Nat) : Int) := by have := HN.out.1; have := HLT.out; unfold wrap64; omega
        rw [hw]
        exact ⟨j + 1, A6, m6, c6, A7, m7, c7, rfl, by have := HK.out; have := HLT.out; omega, hz9.put⟩
    · have hlt2 : ¬ (j : Int) < (n : Int) := by omega
      have hlt3 : decide ((j : Int) < (n : Int)) = false := decide_eq_false hlt2
      have hlt4 : decide (j < n) = false := decide_eq_false hlt
      have HNL := Lib.hid hlt
      have yO := six_cells hMR.o
      have yR := six_cells hMR.r
      clear hMR hkj hn hlt hlt2
      go_wp2_with fail
      obtain ⟨W9, hW9⟩ : ∃ W9, W9 = (((((wr.setCell ⟨w.heap.size, 0, none⟩ (.int .i64 6)).setCell ⟨w.heap.size, 1, none⟩ (.int .i64 0)).setCell ⟨w.heap.size, 2, none⟩ (.string ⟨#[]⟩)).setCell ⟨w.heap.size, 3, none⟩ (.slice none 0 0)).setCell ⟨w.heap.size, 4, none⟩ (.slice A4 m4 c4)).setCell ⟨w.heap.size, 5, none⟩ (.slice A5 m5 c5) := ⟨_, rfl⟩
      have hz : W9.heap[w.heap.size]? = some (.cells #[.int .i64 6, .int .i64 0, .string ⟨#[]⟩, .slice none 0 0, .slice A4 m4 c4, .slice A5 m5 c5] 26 (0, 0)) := by rw [hW9]; exact six_set HR.out.r _ _ _ _ _ _
      have hg : wr.grownBy W9 (some w.heap.size) := by rw [hW9]; exact six_grown _ _ _ _ _ _ _ _
      rw [← hW9]
      clear hW9 yO yR
      obtain ⟨q0, q1, q2, q3, q4, q5, _⟩ := six_cells hz
      refine bodyPost_ret (v := .tuple #[.agg #[.int .i64 6, .int .i64 0, .string ⟨#[]⟩, .slice none 0 0, .slice A4 m4 c4, .slice A5 m5 c5], .bool true]) (by simp [results, Tryz.results116, go_sem, q0, q1, q2, q3, q4, q5]) rfl ?_
      have hj : j = n := by have := HK.out; have := HNL.out; omega
      have hw2 := HR.out.hw
      have hkl := own_base HR.out.kr.own
      have hR5 : k26.R 26 W9 w.heap.size (fun k => w.heap.size ≤ k) (.slice A5 m5 c5) f5 := by
        have h := Kd.R_grown HR.out.vr hg (fun k hk e => by cases e; have := hk.1; omega)
        rw [hj, List.take_of_length_le (by have := HN.out.2.2; omega)] at h
        exact Kd.R_mono (Kd.R_lower h (by omega)) (fun k hk => by have := hk.1; show w.heap.size ≤ k; omega)
      have hR4 : Kd.string.R 9 W9 w.heap.size (fun k => w.heap.size ≤ k) (.slice A4 m4 c4) l := by
        have h := Kd.R_grown HR.out.kr hg (fun k hk e => by cases e; have := hkl _ hk.symm; omega)
        rw [hj, List.take_of_length_le (by have := HN.out.2.1; omega)] at h
        exact Kd.R_mono (Kd.R_lower h (by omega)) (fun k hk => by have := hkl k hk.symm; show w.heap.size ≤ k; omega)
      exact ⟨[.int .i64 6, .int .i64 0, .string ⟨#[]⟩, .slice none 0 0, .slice A4 m4 c4, .slice A5 m5 c5], rfl, k26_mkM W9 w.heap.size _ ⟨6, 0, ⟨#[]⟩, [], l, f5⟩ (Kd.R_nil _ _ _ _ _) hR4 hR5, HR.out.b.grown hg HR.out.b.size (fun k hk => by cases hk; exact Nat.le_refl _)⟩
end Go.Proofs.YtbnfeicpjmfooaaGreatDoor.NumA
/-
slices.Sorted(maps.Keys(m)) at this program (printed by the kit's lay-plain and lay-iter).
-/
set_option linter.unusedSimpArgs false
set_option linter.unusedVariables false
namespace Go.Proofs
open Go.Shelf
def Tryz.keys161_ren : Go.Shelf.Ren := ⟨fun | 7 => 161 | 10 => 189 | n => n, fun | 23 => 90 | 26 => 9 | 3 => 20 | 28 => 175 | 0 => 0 | 27 => 174 | 33 => 109 | 4 => 4 | n => n, fun | n => n⟩
theorem Tryz.keys161 : Go.Proofs.SlLaysZ.n7 Tryz.prog Tryz.keys161_ren := {
  mixed := by kernel_rfl
  f7 := ⟨Tryz.f161.name, by decide, Tryz.func161.trans (congrArg some (by kernel_rfl))⟩
  f10 := ⟨Tryz.f189.name, by decide, Tryz.func189.trans (congrArg some (by kernel_rfl))⟩
  t0 := Tryz.underlying0
  a0 := Tryz.isAgg0
  z0 := Tryz.sizeOf0
  v0 := Tryz.zeroValue0
  t4 := Tryz.underlying4
  a4 := Tryz.isAgg4
  z4 := Tryz.sizeOf4
  v4 := Tryz.zeroValue4
  t23 := Tryz.underlying90
  a23 := Tryz.isAgg90
  z23 := Tryz.sizeOf90
  v23 := Tryz.zeroValue90
  t26 := Tryz.underlying9
  a26 := Tryz.isAgg9
  z26 := Tryz.sizeOf9
  v26 := Tryz.zeroValue9
  t27 := Tryz.underlying174
  a27 := Tryz.isAgg174
  z27 := Tryz.sizeOf174
  v27 := Tryz.zeroValue174
  t28 := Tryz.underlying175
  a28 := Tryz.isAgg175
  z28 := Tryz.sizeOf175
  v28 := Tryz.zeroValue175
  t33 := Tryz.underlying109
  a33 := Tryz.isAgg109
  z33 := Tryz.sizeOf109
  v33 := Tryz.zeroValue109 }
def Tryz.sorted160_ren : Go.Shelf.Ren := ⟨fun | 6 => 160 | 8 => 187 | 9 => 188 | 11 => 222 | 13 => 224 | 12 => 223 | 23 => 263 | 24 => 264 | 14 => 254 | 15 => 255 | 16 => 256 | 17 => 257 | 18 => 258 | 19 => 259 | 20 => 260 | 21 => 261 | 22 => 262 | 25 => 289 | 26 => 290 | 27 => 291 | 28 => 292 | 29 => 293 | 30 => 232 | 31 => 307 | n => n, fun | 26 => 9 | 28 => 175 | 24 => 24 | 0 => 0 | 3 => 3 | 37 => 172 | 48 => 245 | 50 => 204 | 4 => 4 | 40 => 298 | 39 => 297 | 45 => 76 | 5 => 5 | 9 => 9 | 51 => 321 | 55 => 324 | 57 => 338 | 58 => 339 | 33 => 109 | n => n, fun | n => n⟩
theorem Tryz.sorted160 : Go.Proofs.SlLaysZ.n6 Tryz.prog Tryz.sorted160_ren := {
  mixed := by kernel_rfl
  f6 := ⟨Tryz.f160.name, by decide, Tryz.func160.trans (congrArg some (by kernel_rfl))⟩
  f8 := ⟨Tryz.f187.name, by decide, Tryz.func187.trans (congrArg some (by kernel_rfl))⟩
  f11 := ⟨Tryz.f222.name, by decide, Tryz.func222.trans (congrArg some (by kernel_rfl))⟩
  t0 := Tryz.underlying0
  a0 := Tryz.isAgg0
  z0 := Tryz.sizeOf0
  v0 := Tryz.zeroValue0
  t24 := Tryz.underlying24
  a24 := Tryz.isAgg24
  z24 := Tryz.sizeOf24
  v24 := Tryz.zeroValue24
  t26 := Tryz.underlying9
  a26 := Tryz.isAgg9
  z26 := Tryz.sizeOf9
  v26 := Tryz.zeroValue9
  t28 := Tryz.underlying175
  a28 := Tryz.isAgg175
  z28 := Tryz.sizeOf175
  v28 := Tryz.zeroValue175
  i26 := by kernel_rfl }
def Tryz.sort188_ren : Go.Shelf.Ren := ⟨fun | 6 => 188 | 8 => 224 | 9 => 223 | 19 => 263 | 20 => 264 | 21 => 254 | 22 => 255 | 23 => 256 | 24 => 257 | 25 => 258 | 26 => 259 | 27 => 260 | 28 => 261 | 29 => 262 | 36 => 289 | 31 => 290 | 32 => 291 | 37 => 292 | 38 => 293 | 39 => 232 | 41 => 307 | n => n, fun | 27 => 24 | 29 => 9 | 3 => 3 | 32 => 172 | 26 => 24 | 0 => 0 | 44 => 245 | 46 => 204 | 4 => 4 | 36 => 298 | 35 => 297 | 41 => 76 | 5 => 5 | 9 => 9 | 53 => 321 | 57 => 324 | 63 => 338 | 64 => 339 | n => n, fun | n => n⟩
theorem Tryz.sort188 : Go.Proofs.SlLaysM.n6 Tryz.prog Tryz.sort188_ren := {
  mixed := by kernel_rfl
  f6 := ⟨Tryz.f188.name, by decide, Tryz.func188.trans (congrArg some (by kernel_rfl))⟩
  f8 := Tryz.func224.trans (congrArg some (by kernel_rfl))
  f9 := ⟨Tryz.f223.name, by decide, Tryz.func223.trans (congrArg some (by kernel_rfl))⟩
  f19 := Tryz.func263.trans (congrArg some (by kernel_rfl))
  f20 := Tryz.func264.trans (congrArg some (by kernel_rfl))
  f21 := ⟨Tryz.f254.name, by decide, Tryz.func254.trans (congrArg some (by kernel_rfl))⟩
  f22 := ⟨Tryz.f255.name, by decide, Tryz.func255.trans (congrArg some (by kernel_rfl))⟩
  f23 := ⟨Tryz.f256.name, by decide, Tryz.func256.trans (congrArg some (by kernel_rfl))⟩
  f24 := ⟨Tryz.f257.name, by decide, Tryz.func257.trans (congrArg some (by kernel_rfl))⟩
  f25 := ⟨Tryz.f258.name, by decide, Tryz.func258.trans (congrArg some (by kernel_rfl))⟩
  f26 := ⟨Tryz.f259.name, by decide, Tryz.func259.trans (congrArg some (by kernel_rfl))⟩
  f27 := ⟨Tryz.f260.name, by decide, Tryz.func260.trans (congrArg some (by kernel_rfl))⟩
  f28 := ⟨Tryz.f261.name, by decide, Tryz.func261.trans (congrArg some (by kernel_rfl))⟩
  f29 := ⟨Tryz.f262.name, by decide, Tryz.func262.trans (congrArg some (by kernel_rfl))⟩
  f31 := Tryz.func290.trans (congrArg some (by kernel_rfl))
  f32 := Tryz.func291.trans (congrArg some (by kernel_rfl))
  f36 := ⟨Tryz.f289.name, by decide, Tryz.func289.trans (congrArg some (by kernel_rfl))⟩
  f37 := ⟨Tryz.f292.name, by decide, Tryz.func292.trans (congrArg some (by kernel_rfl))⟩
  f38 := ⟨Tryz.f293.name, by decide, Tryz.func293.trans (congrArg some (by kernel_rfl))⟩
  f39 := ⟨Tryz.f232.name, by decide, Tryz.func232.trans (congrArg some (by kernel_rfl))⟩
  f41 := ⟨Tryz.f307.name, by decide, Tryz.func307.trans (congrArg some (by kernel_rfl))⟩
  t0 := Tryz.underlying0
  a0 := Tryz.isAgg0
  z0 := Tryz.sizeOf0
  v0 := Tryz.zeroValue0
  t3 := Tryz.underlying3
  a3 := Tryz.isAgg3
  z3 := Tryz.sizeOf3
  v3 := Tryz.zeroValue3
  t4 := Tryz.underlying4
  a4 := Tryz.isAgg4
  z4 := Tryz.sizeOf4
  v4 := Tryz.zeroValue4
  t5 := Tryz.underlying5
  a5 := Tryz.isAgg5
  z5 := Tryz.sizeOf5
  v5 := Tryz.zeroValue5
  t9 := Tryz.underlying9
  a9 := Tryz.isAgg9
  z9 := Tryz.sizeOf9
  v9 := Tryz.zeroValue9
  t26 := Tryz.underlying24
  a26 := Tryz.isAgg24
  z26 := Tryz.sizeOf24
  v26 := Tryz.zeroValue24
  t27 := Tryz.underlying24
  a27 := Tryz.isAgg24
  z27 := Tryz.sizeOf24
  v27 := Tryz.zeroValue24
  t29 := Tryz.underlying9
  a29 := Tryz.isAgg9
  z29 := Tryz.sizeOf9
  v29 := Tryz.zeroValue9
  t32 := Tryz.underlying172
  a32 := Tryz.isAgg172
  z32 := Tryz.sizeOf172
  v32 := Tryz.zeroValue172
  t35 := Tryz.underlying297
  a35 := Tryz.isAgg297
  z35 := Tryz.sizeOf297
  v35 := Tryz.zeroValue297
  t36 := Tryz.underlying298
  a36 := Tryz.isAgg298
  z36 := Tryz.sizeOf298
  v36 := Tryz.zeroValue298
  t41 := Tryz.underlying76
  a41 := Tryz.isAgg76
  z41 := Tryz.sizeOf76
  v41 := Tryz.zeroValue76
  t44 := Tryz.underlying245
  a44 := Tryz.isAgg245
  z44 := Tryz.sizeOf245
  v44 := Tryz.zeroValue245
  t46 := Tryz.underlying204
  a46 := Tryz.isAgg204
  z46 := Tryz.sizeOf204
  v46 := Tryz.zeroValue204
  t53 := Tryz.underlying321
  a53 := Tryz.isAgg321
  z53 := Tryz.sizeOf321
  v53 := Tryz.zeroValue321
  t57 := Tryz.underlying324
  a57 := Tryz.isAgg324
  z57 := Tryz.sizeOf324
  v57 := Tryz.zeroValue324
  t63 := Tryz.underlying338
  a63 := Tryz.isAgg338
  z63 := Tryz.sizeOf338
  v63 := Tryz.zeroValue338
  t64 := Tryz.underlying339
  a64 := Tryz.isAgg339
  z64 := Tryz.sizeOf339
  v64 := Tryz.zeroValue339 }
open Go.RowKit Go.Maps Go.Sort Go.Shelf
/-- slices.Sort's two contracts at this dump, at the fence that asks nothing. -/
theorem Tryz.sorts160 (m : Nat) : AnyZ.SortsIn Tryz.prog Tryz.sorted160_ren Fence.wide m :=
  ⟨fun blk off cap ss W hH hblk hsz => callsIn_wide.2 (AnyM.slices_Sort_string Tryz.sort188 blk off cap ss W hH hblk hsz),
   fun p cap W => callsIn_wide.2 (AnyM.slices_Sort_string_none Tryz.sort188 p cap W)⟩

/-- **maps.Keys[map[string]any,string,any], at whatever map, the nil one too:** a function value over ONE NEW BLOCK, which holds the map. -/
theorem Tryz.maps_Keys_161 (mb : Option Nat) (W : World) : CallsIn Fence.wide 5 Tryz.prog 161 #[.map mb] W fun e w' => e = .returned (.func (.func 189) #[] #[.pointer (some ⟨W.heap.size, 0, none⟩)]) ∧ w' = W.alloc (.cells #[.map mb] 90) :=
  AnyZ.keys_in Tryz.keys161 Fence.wide 5 trivial rfl mb W

set_option maxHeartbeats 1000000 in
/-- **slices.Sorted[string] AT WHAT maps.Keys[map[string]any,string,any] HANDED BACK FOR A MAP THAT IS NOT nil** ('w': the world AHEAD of maps.Keys' call): A NEW SLICE THAT HOLDS THE MAP's KEYS, SORTED; nil just where it has none; nothing that lay before has turned. -/
theorem Tryz.slices_Sorted_keys_160_161 {H : Type} (b nn : Nat) (D0 : DataW H) (R : Value → Option (DataW H × List MemPlace)) (w : World) (hown : w.ownsMap Tryz.prog 9 R b nn D0) (hmax : Maps.size D0 ≤ maxLen) (hbytes : Maps.size D0 * 16 ≤ 140737488355328) :
    CallsIn Fence.wide 5 Tryz.prog 160 #[.func (.func 189) #[] #[.pointer (some ⟨w.heap.size, 0, none⟩)]] (w.alloc (.cells #[.map (some b)] 90)) fun e w' => ∃ (v : Value) (ss : List (List UInt8)), e = .returned v ∧ ss.Perm (strKeys D0) ∧
      w'.ownsRow (w.alloc (.cells #[.map (some b)] 90)).heap.size 9 1 v ss.length ((ss.mergeSort (fun x y => decide (x ≤ y))).map encStr) ∧ (v = .slice none 0 0 ↔ ss = []) ∧ Below (w.alloc (.cells #[.map (some b)] 90)).heap.size (w.alloc (.cells #[.map (some b)] 90)) w' := by
  have hbl := hown.lt
  have hseq : SeqGives Fence.wide 2 Tryz.prog 189 #[.pointer (some ⟨w.heap.size, 0, none⟩)] encStr (fun ss => ss.Perm (strKeys D0)) (Maps.size D0) (w.alloc (.cells #[.map (some b)] 90)) :=
    AnyZ.keys_gives (ρ := Tryz.keys161_ren) { Tryz.keys161 with } Fence.wide _ trivial rfl (by omega) w.heap.size b nn D0 _ (by simp) (by simp) (by
      obtain ⟨es, clock, hb, Ft, hs, hD⟩ := hown
      exact ⟨es, clock, (Below.heap_alloc _ _ b hbl).trans hb, Ft, hs, hD⟩)
  exact AnyZ.sorted_in Tryz.sorted160 Fence.wide 5 trivial trivial trivial trivial rfl (by omega) (Tryz.sorts160 _) (enters_of Tryz.func188 (by kernel_rfl) rfl) 189 #[.pointer (some ⟨w.heap.size, 0, none⟩)] trivial (enters_of Tryz.func189 (by kernel_rfl) rfl) _ _ hmax hbytes _ hseq

end Go.Proofs
/-
impl.fromGo, impl.result at any value of JSON.
-/
set_option linter.unusedSimpArgs false
set_option linter.unusedVariables false
namespace Go.Proofs.YtbnfeicpjmfooaaGreatDoor.NumA
open Go.RowKit Go.Lib Go.Proofs.YtbnfeicpjmfooaaGreatDoor.ValA Go.Proofs.YtbnfeicpjmfooaaGreatDoor.FloH Go.Proofs.YtbnfeicpjmfooaaGreatDoorW.PrintWords Go.Proofs.YtbnfeicpjmfooaaGreatDoorW.PrintLast Go.Proofs.YtbnfeicpjmfooaaGreatDoorW.PrintMore Go.Proofs.YtbnfeicpjmfooaaGreatDoor.PzzFits1
theorem keys_sorted (w : World) (b c : Nat) (es : List MapEntry) (l : List ByteArray) (hb : w.heap[b]? = some (.map es.toArray c)) (hst : MapKept.Stamped es.toArray c) (hn : es.length ≤ 1000000) (hk : KeysAre es l)
    (hrise : ∀ i : Nat, 0 < i → i < l.length → Op.bytesLess (rdOf ByteArray.empty l (i - 1 : Nat)).toList (rdOf ByteArray.empty l i).toList = true) : KeysSorted b l w := by
  obtain ⟨D, hD⟩ : ∃ D, IsD es D := ⟨_, rfl⟩
  have hown := owns_of hb hst hn hk hD
  have hsz := size_D hD
  unfold KeysSorted
  refine (callsIn_wide.1 (Tryz.maps_Keys_161 (some b) w)).mono ?_
  rintro e w1 ⟨rfl, rfl⟩
  refine ⟨_, rfl, (callsIn_wide.1 (Tryz.slices_Sorted_keys_160_161 b es.length D R0 w hown (by unfold maxLen; omega) (by omega))).mono ?_⟩
  rintro e w2 ⟨v, ss, rfl, hS, hrow, hnil, hb2⟩
  have hp := hS.trans (keys_perm hk hD)
  have hlen : ss.length = l.length := by have := hp.length_eq; rwa [List.length_map] at this
  rw [sort_keys hrise hp] at hrow
  have hb3 : Below w.heap.size w w2 := ((Below.refl _ w).alloc (Nat.le_refl _) _).trans (hb2.mono (by rw [World.size_alloc]; omega))
  rcases hrow.2 with ⟨rfl, h0⟩ | ⟨g, cap, cur, rfl, hbase, hh, h1, h2, h3, h4⟩
  · have hl0 : l = [] := List.eq_nil_of_length_eq_zero (by rw [← hlen]; exact h0)
    exact ⟨none, 0, by rw [hl0]; rfl, .inl hl0, hb3⟩
  · refine ⟨some ⟨g, 0, none⟩, cap, by rw [hlen], .inr ⟨g, cur, rfl, by rw [World.size_alloc] at hbase; omega, hh, fun j s hj => ?_⟩, hb3⟩
    have hjl := (List.getElem?_eq_some_iff.1 hj).1
    have e : (cur.toList.take (ss.length * 1))[j]? = some (.string s) := by
      rw [h4, List.getElem?_map, List.getElem?_map, hj]
      simp [Go.Proofs.encStr]
    rw [List.getElem?_take_of_lt (by omega), Array.getElem?_toList] at e
    exact e
theorem fromGo_any : ∀ (N : Nat) (x : V), SizeOf.sizeOf x < N → WL x → Sz x → ∀ (g : Value) (n : Nat) (w : World), G n w x g → FromGo x g w
  | 0, _, h, _, _, _, _, _, _ => absurd h (Nat.not_lt_zero _)
  | N + 1, x, hN, hx, zx, g, m, w, hg => by
    obtain ⟨s1, s2, s3, s4⟩ := wf_shape hx
    obtain ⟨f0, f6, fj, f45⟩ := wf_facts hx
    have hx0 := hx
    obtain ⟨_, _, _, n3, n4, hk, w3, w5⟩ := hx
    obtain ⟨_, _, z4, z3, z5⟩ := zx
    have hc : x.f0 ≤ 4 ∨ x.f0 = 5 ∨ x.f0 = 6 := by omega
    rcases hc with c | c | c
    · rw [hg.flat_inv c]
      exact fromGo_flat x hx0 c w
    · have ex : x = ⟨5, 0, ⟨#[]⟩, x.f3, [], []⟩ := by
        have a1 := s1 (by omega)
        have a2 := s2 (by omega)
        have a4 := s4 (by omega)
        obtain ⟨k0, k1, k2, k3, k4, k5⟩ := x
        simp only at a1 a2 a4 c ⊢
        rw [a1, a2, a4.1, a4.2, c]
      obtain ⟨b, l, rfl, _, hl, hw, he⟩ := hg.list_inv c
      rw [ex]
      refine fromGo_of_list w _ b _ fun w1 hb1 => ?_
      refine listFromGo_any w1 b x.f3.length x.f3 l rfl n3 hl ((hb1.block _ (lt_of_heap hw)).trans hw) fun j v hv w' hb => ?_
      have hj : j < x.f3.length := by have := (List.getElem?_eq_some_iff.1 hv).1; omega
      have hm := rd_mem x.f3 j hj
      exact fromGo_any N _ (by
        have h1 := List.sizeOf_lt_of_mem hm
        have h2 := size3 x
        omega) (w3 _ hm) (z3 _ hm) v m w' ((he j _ v (rd_at x.f3 j hj) hv).keepB (hb1.trans (hb.mono hb1.size)))
    · have ex : x = ⟨6, 0, ⟨#[]⟩, [], x.f4, x.f5⟩ := by
        have a1 := s1 (by omega)
        have a2 := s2 (by omega)
        have a3 := s3 (by omega)
        obtain ⟨k0, k1, k2, k3, k4, k5⟩ := x
        simp only at a1 a2 a3 c ⊢
        rw [a1, a2, a3, c]
      obtain ⟨b, es, cb, rfl, _, hl, hw, hst, hkey, he⟩ := hg.map_inv c
      rw [ex]
      refine fromGo_of_map w _ b fun w1 hb1 => ?_
      have hka : KeysAre es x.f4 := ⟨hl, hkey, z4⟩
      have hw1 := (hb1.block _ (lt_of_heap hw)).trans hw
      refine mapFromGo_any w1 b cb x.f4.length es x.f4 x.f5 rfl f45.symm n4 hw1 hst hka (fun w' hb => keys_sorted w' b cb es x.f4 ((hb.block _ (lt_of_heap hw1)).trans hw1) hst (by omega) hka hk) fun j e hj4 hv hkv w' hb => ?_
      have hj : j < x.f5.length := by omega
      have hm := rd_mem x.f5 j hj
      exact fromGo_any N _ (by
        have h1 := List.sizeOf_lt_of_mem hm
        have h2 := size5 x
        omega) (w5 _ hm) (z5 _ hm) e.val m w' ((he j _ _ e (key_rd x.f4 j hj4) (rd_at x.f5 j hj) hv hkv).keepB (hb1.trans (hb.mono hb1.size)))
theorem noErrL (v : Value) (w : World) : (Instr.typeAssert (.iface 81 v) 20 94 true).run Tryz.prog w = .ok (.tuple #[.nilIface, .bool false]) w := run_typeAssert_lacksB Tryz.underlying94 (by kernel_rfl) (by kernel_rfl) _ _ _
end Go.Proofs.YtbnfeicpjmfooaaGreatDoor.NumA
