/-
impl.listFromGo.
-/
import Derived.Test.YtdcgjfiknknjfaaGreatDoorME
import Derived.Test.YtdcgjfiknknjfaaGreatDoorMD
set_option linter.unusedSimpArgs false
set_option linter.unusedVariables false
namespace Go.Proofs.YtdcgjfiknknjfaaGreatDoor.NumA
open Go.RowKit Go.Lib Go.Proofs.YtdcgjfiknknjfaaGreatDoor.ValA Go.Proofs.YtdcgjfiknknjfaaGreatDoor.FloH Go.Proofs.YtdcgjfiknknjfaaGreatDoorW.PrintWords Go.Proofs.YtdcgjfiknknjfaaGreatDoorW.PrintLast Go.Proofs.YtdcgjfiknknjfaaGreatDoorW.PrintMore Go.Proofs.YtdcgjfiknknjfaaGreatDoor.PzzFits1
theorem R_run {α : Type} {P : Program} (d : Kd α) {W : World} (base : Nat) (t ty e : TypeId) (z : Value) (bytes : Nat)
    (ht : P.underlying t = some (.slice e)) (hinfo : (P.info? e).map (fun i => (i.zero, i.size, i.bytes)) = some (some z, d.sz, bytes)) (hz : z.cells.size = d.sz) (hs0 : 0 < d.sz) (hb0 : 0 < bytes)
    (v : Value) (xs : List α) (p : α) (cs : List Value) (ok okp : Nat → Prop) (hp : d.M W base okp p cs) (hokp : ∀ k, okp k → ok k ∧ some k ≠ v.ownBlock) (hfresh : ∀ k, W.heap.size ≤ k → ok k)
    (HO : d.R e W base ok v xs) (hbase : base ≤ W.heap.size) (hl : (xs.length + 1) * bytes ≤ 140737488355328) :
    ∃ v1 w1, (Builtin.append_ #[t, t] ty #[v, .slice (some ⟨W.heap.size, 0, none⟩) 1 1]).run P (W.alloc (.cells cs.toArray e)) = .ok v1 w1 ∧ d.R e w1 base ok v1 (xs ++ [p]) ∧ W.grownBy w1 v.ownBlock := by
  obtain ⟨h0, inner, hown, hr⟩ := HO
  obtain ⟨i0, hi, hzz⟩ := Option.map_eq_some_iff.1 hinfo
  simp only [Prod.mk.injEq] at hzz
  obtain ⟨hz0, hz1, hz2⟩ := hzz
  have hlen : xs.length + 1 ≤ 140737488355328 := Nat.le_trans (Nat.le_mul_of_pos_right _ hb0) hl
  have hcl := d.K_len (d.K_of_M hp)
  obtain ⟨v1, w1, hrun, hown1, hg1, _, hat⟩ := run_append_own_at (P := P) (W.alloc (.cells cs.toArray e)) base t ty e i0 z d.sz bytes ht hi hz0 hz1 hz2 hz hs0 v xs.length inner (hown.alloc _) ⟨W.heap.size, 0, none⟩ 1 1 cs (by rw [hcl, Nat.one_mul])
    (by simpa using World.news_of_block (cs := cs.toArray) (t := e) (fr := (0, 0)) (MapKept.heap_alloc W (.cells cs.toArray e)).1) (d.K_one (d.K_of_M hp)) (by simp only [maxLen]; omega) hl (by simp; omega)
  have hg : W.grownBy w1 v.ownBlock := World.grownBy.trans (World.grownBy_alloc W _ _) hg1
  have hat' : v1.ownBlock = v.ownBlock ∨ ∃ b, v1.ownBlock = some b ∧ W.heap.size ≤ b := by
    rcases hat with hat | hat
    · exact .inl hat
    · exact .inr ⟨_, hat, by simp⟩
  exact ⟨v1, w1, hrun, Kd.R_appended h0 hr hp hokp hfresh hown1 hg hat', hg⟩
theorem info_val : (Tryz.prog.info? 26).map (fun i => (i.zero, i.size, i.bytes)) = some (some (.agg #[.int .i64 0, .int .i64 0, .string ⟨#[]⟩, .slice none 0 0, .slice none 0 0, .slice none 0 0]), 6, 104) := by kernel_rfl
/-- impl.fromGo at g gives x. -/
def FromGo (x : V) (g : Value) (w : World) : Prop := Calls Tryz.prog 63 #[g] w fun e w' => ∃ cs, e = .returned (.tuple #[.agg cs.toArray, .bool true]) ∧ k26.M w' w.heap.size (fun k => w.heap.size ≤ k) x cs ∧ Below w.heap.size w w'
/-- The head of listFromGo's round. -/
def RFr (w : World) (l : List V) (n k : Nat) (i : Value) (wr : World) : Prop :=
  ∃ (j : Nat) (A : Option Addr) (m c : Nat), i = .int .i64 j ∧ k + j = n ∧ Below w.heap.size w wr ∧ wr.heap[w.heap.size]? = some (.cells #[.int .i64 0, .int .i64 0, .string ⟨#[]⟩, .slice none 0 0, .slice none 0 0, .slice none 0 0] 26 (0, 0)) ∧
    wr.heap[w.heap.size + 1]? = some (.cells #[.int .i64 5, .int .i64 0, .string ⟨#[]⟩, .slice A m c, .slice none 0 0, .slice none 0 0] 26 (0, 0)) ∧
    k26.R 26 wr (w.heap.size + 2) (fun k => w.heap.size + 2 ≤ k) (.slice A m c) (l.take j)
theorem wp_append_run {P : Program} {ops : Array Oper} {rest : List Oper} {o : Oper} {a : Act} {Q : Exit → Act → World → Prop} (hgd : o.guard = none) (s x : Operand) (t : TypeId) (ho : o.op = .call { callee := .builtin .append, args := #[s, x], argTypes := #[t, t] })
    (v y : Value) (hs : a.eval s = v) (hx : a.eval x = y) {W w1 : World} {v1 : Value} (hrun : (Builtin.append_ #[t, t] o.type #[v, y]).run P W = .ok v1 w1) (h : wpList P ops Q rest (a.put o.dst v1) w1) : wpList P ops Q (o :: rest) a W := by
  refine wpList_plain hgd fun K' hK' => ?_
  unfold Oper.wp
  simp [execOp, ho, resolve, invoke, builtin, hs, hx, hrun, Result.andThen]
  exact hK' _ _ h
theorem own_lt_R {w : World} {base : Nat} {ok : Nat → Prop} {v : Value} {xs : List V} (h : k26.R 26 w base ok v xs) : ∀ k, v.ownBlock = some k → k < w.heap.size := by
  obtain ⟨_, inner, ho, _⟩ := h
  exact fun k hk => own_lt ho k hk
/-- A round's append. -/
theorem fr_append {w wr w4 : World} {l : List V} {n j m c : Nat} {A : Option Addr} (hl : l.length = n) (hn : n ≤ 400) (hlt : j < n) (hbr : Below w.heap.size w wr) (hsz : w.heap.size + 2 ≤ wr.heap.size)
    (hR : k26.R 26 wr (w.heap.size + 2) (fun k => w.heap.size + 2 ≤ k) (.slice A m c) (l.take j)) (hb : Below wr.heap.size wr w4)
    {cs : List Value} (hM : k26.M w4 wr.heap.size (fun k => wr.heap.size ≤ k) (rd_T26 l j) cs) (o : Obj) :
    ∃ (A1 : Option Addr) (m1 c1 : Nat) (w6 : World), (Builtin.append_ #[23, 23] 23 #[.slice A m c, .slice (some ⟨w4.heap.size + 1, 0, none⟩) 1 1]).run Tryz.prog ((w4.alloc o).alloc (.cells cs.toArray 26)) = .ok (.slice A1 m1 c1) w6 ∧
      k26.R 26 w6 (w.heap.size + 2) (fun k => w.heap.size + 2 ≤ k) (.slice A1 m1 c1) (l.take (j + 1)) ∧ (∀ k, k < w.heap.size + 2 → k < wr.heap.size → w6.heap[k]? = w4.heap[k]?) ∧ Below w.heap.size w w6 := by
  have hb4 : Below wr.heap.size wr (w4.alloc o) := hb.alloc hb.size o
  have hsz4 : wr.heap.size ≤ w4.heap.size := hb.size
  obtain ⟨v1, w6, hrun, hR6, hg⟩ := R_run (P := Tryz.prog) k26 (W := w4.alloc o) (w.heap.size + 2) 23 23 26 _ 104 Tryz.underlying23 info_val rfl (by decide) (by decide) (.slice A m c) (l.take j) (rd_T26 l j) cs (fun k => w.heap.size + 2 ≤ k) (fun k => wr.heap.size ≤ k)
    (Kd.M_below (k26.M_lower hsz hM) ((Below.refl _ w4).alloc (Nat.le_refl _) o)) (fun k hk => ⟨by omega, fun e => by have := own_lt_R hR k e.symm; omega⟩) (fun k hk => by rw [World.size_alloc] at hk; omega)
    (Kd.R_below hR hb4) (by rw [World.size_alloc]; omega) (by rw [List.length_take]; omega)
  rw [World.size_alloc] at hrun
  have e1 : l.take j ++ [rd_T26 l j] = l.take (j + 1) := by
    have h := rd_at l j (by omega)
    rw [List.take_add_one, h]
    rfl
  rw [e1] at hR6
  obtain ⟨A1, c1, rfl⟩ := Kd.R_slice hR6
  refine ⟨A1, _, c1, w6, hrun, hR6, ?_, ?_⟩
  · intro k hk hk2
    rw [hg.block k (by rw [World.size_alloc]; omega) (fun e => by have := hR.1 k e.symm; omega)]
    exact Below.heap_alloc w4 o k (by omega)
  · exact ((hbr.trans (hb.mono hbr.size)).alloc (by omega) o).grown hg (by rw [World.size_alloc]; omega) (fun k hk => by have := hR.1 k hk; omega)
set_option maxRecDepth 100000 in
set_option maxHeartbeats 4000000 in
theorem listFromGo_any (w : World) (b n : Nat) (l : List V) (vs : List Value) (hl : l.length = n) (hn : n ≤ 400) (hvs : vs.length = n) (hb : w.heap[b]? = some (.cells vs.toArray 20 (0, 0)))
    (IH : ∀ (j : Nat) (v : Value), vs[j]? = some v → ∀ w', Below w.heap.size w w' → FromGo (rd_T26 l j) v w') :
    Calls Tryz.prog 89 #[.slice (some ⟨b, 0, none⟩) n n] w fun e w' => ∃ cs, e = .returned (.tuple #[.agg cs.toArray, .bool true]) ∧ k26.M w' w.heap.size (fun k => w.heap.size ≤ k) ⟨5, 0, ⟨#[]⟩, l, [], []⟩ cs ∧ Below w.heap.size w w' := by
  have HI := Lib.hid (fun j v h w' hw => IH j v h w' hw)
  have HBV := Lib.hid (And.intro hb hvs)
  have HN := Lib.hid (And.intro hn hl)
  clear IH hb hvs hl
  go_enter Tryz.func89, Tryz.ntmps89
  go_wp2_with fail
  obtain ⟨W0, hW0⟩ : ∃ W0, W0 = (w.alloc (.cells #[.int .i64 0, .int .i64 0, .string ⟨#[]⟩, .slice none 0 0, .slice none 0 0, .slice none 0 0] 26)).alloc (.cells #[.int .i64 5, .int .i64 0, .string ⟨#[]⟩, .slice none 0 0, .slice none 0 0, .slice none 0 0] 26) := ⟨_, rfl⟩
  have H0 := Lib.hid (show RFr w l n n (.int .i64 ((0 : Nat) : Int)) W0 by
    rw [hW0]
    have h2 := SPL.two w #[.int .i64 0, .int .i64 0, .string ⟨#[]⟩, .slice none 0 0, .slice none 0 0, .slice none 0 0] #[.int .i64 5, .int .i64 0, .string ⟨#[]⟩, .slice none 0 0, .slice none 0 0, .slice none 0 0] 26 26
    exact ⟨0, none, 0, 0, rfl, by omega, h2.1, h2.get 0 rfl, h2.get 1 rfl, by rw [List.take_zero]; exact Kd.R_nil _ _ _ _ _⟩)
  rw [← hW0]
  clear hW0
  go_loopg [12] n (fun k i wr => RFr w l n k i wr)
  case atStart => exact H0.out
  case round =>
    clear H0
    obtain ⟨j, A, m, c, rfl, hkj, hbr, hR0, hO, hRR⟩ := hrel
    have HR := Lib.hid (And.intro hbr (And.intro hR0 (And.intro hO hRR)))
    have HK := Lib.hid hkj
    by_cases hlt : j < n
    · obtain ⟨v, hv⟩ : ∃ v, vs[j]? = some v := ⟨_, List.getElem?_eq_getElem (by have := HBV.out.2; omega)⟩
      have HL := Lib.hid (HI.out j v hv wr hbr)
      have x0 : wr.cell? ⟨b, j, none⟩ = some v := by
        have h := list_cell ((hbr.block _ (lt_of_heap HBV.out.1)).trans HBV.out.1) (by have := HBV.out.2; omega : j < vs.length)
        rw [List.getElem?_eq_getElem (by have := HBV.out.2; omega)] at hv
        rw [h.1, Option.some.inj hv]
      have hlt2 : (j : Int) < (n : Int) := by omega
      have HLT := Lib.hid hlt
      clear hbr hR0 hO hRR hkj hv hlt hn
      unfold FromGo at HL
      go_wp2_with fail
      refine HL.out.mono ?_
      rintro e w4 ⟨cs, rfl, hM, hb4⟩
      obtain ⟨v3, v4, v5, rfl, g3, g4, g5⟩ := k26_openM hM
      obtain ⟨B3, d3, rfl⟩ := Kd.R_slice g3
      obtain ⟨B4, d4, rfl⟩ := Kd.R_slice g4
      obtain ⟨B5, d5, rfl⟩ := Kd.R_slice g5
      have hO4 := (hb4.block _ (lt_of_heap HR.out.2.2.1)).trans HR.out.2.2.1
      have hR4 := (hb4.block _ (lt_of_heap HR.out.2.1)).trans HR.out.2.1
      have hlt4 := lt_of_heap HR.out.2.2.1
      obtain ⟨A1, m1, c1, w6, hrun, hR6, hkeep, hb6⟩ := fr_append HN.out.2 HN.out.1 HLT.out HR.out.1 hlt4 HR.out.2.2.2 hb4 hM (.cells #[.int .i64 (rd_T26 l j).f0, .int .i64 (rd_T26 l j).f1, .string (rd_T26 l j).f2, .slice B3 (rd_T26 l j).f3.length d3, .slice B4 (rd_T26 l j).f4.length d4, .slice B5 (rd_T26 l j).f5.length d5] 26)
      have y : ∀ o, (w4.alloc o).cell? ⟨w.heap.size + 1, 3, none⟩ = some (.slice A m c) := fun o => by
        have h := (Below.heap_alloc w4 o (w.heap.size + 1) (lt_of_heap hO4)).trans hO4
        exact (six_cells h).2.2.2.1
      have hO6 := (hkeep (w.heap.size + 1) (by omega) hlt4).trans hO4
      have hR6' := (hkeep w.heap.size (by omega) (lt_of_heap HR.out.2.1)).trans hR4
      have q0 := (six_cells hO6).2.2.2.1
      have q1 := (six_cells hO6).2.2.2.2.2.2.2.2.2.1
      have H4 := Lib.hid (show RFr w l n (gk - 1) (.int .i64 ((j + 1 : Nat) : Int)) (w6.setCell ⟨w.heap.size + 1, 3, none⟩ (.slice A1 m1 c1)) by
        have hgr : w6.grownBy (w6.setCell ⟨w.heap.size + 1, 3, none⟩ (.slice A1 m1 c1)) (some (w.heap.size + 1)) := grown_set (World.grownBy.refl w6 _) 3 _
        refine ⟨j + 1, A1, m1, c1, rfl, by have := HK.out; have := HLT.out; omega, hb6.grown hgr hb6.size (fun k hk => by cases hk; omega), (hgr.block _ (lt_of_heap hR6') (by simp)).trans hR6', ?_, Kd.R_far hR6 (fun k hk => by show k ≠ w.heap.size + 1; omega) _⟩
        rw [heap_set hO6 3 _]
        rfl)
      clear hM g3 g4 g5 hO4 hR4 hlt4 hR6 hkeep hb6 hO6 hR6' hb4 x0
      have HRUN := Lib.hid hrun
      clear hrun
      go_wp2_with ((with_reducible refine gate_builtin (b := .append) (xs := #[.tmp 25, .tmp 27]) rfl ?_); at_builtin; refine wp_append_run rfl (.tmp 25) (.tmp 27) 23 rfl _ _ rfl rfl HRUN.out ?_)
      go_roundg (gk - 1)
      case measure => have := HK.out; have := HLT.out; omega
      case rel =>
        have hw : wrap64 ((j : Int) + 1) = ((j + 1 : Nat) : Int) := by have := HN.out.1; have := HLT.out; unfold wrap64; omega
        rw [hw]
        exact H4.out
    · have hlt2 : ¬ (j : Int) < (n : Int) := by omega
      have hlt3 : decide ((j : Int) < (n : Int)) = false := decide_eq_false hlt2
      have hlt4 : decide (j < n) = false := decide_eq_false hlt
      have HNL := Lib.hid hlt
      have yO := six_cells hO
      have yR := six_cells hR0
      clear hbr hR0 hO hRR hkj hn hlt hlt2
      go_wp2_with fail
      obtain ⟨W9, hW9⟩ : ∃ W9, W9 = (((((wr.setCell ⟨w.heap.size, 0, none⟩ (.int .i64 5)).setCell ⟨w.heap.size, 1, none⟩ (.int .i64 0)).setCell ⟨w.heap.size, 2, none⟩ (.string ⟨#[]⟩)).setCell ⟨w.heap.size, 3, none⟩ (.slice A m c)).setCell ⟨w.heap.size, 4, none⟩ (.slice none 0 0)).setCell ⟨w.heap.size, 5, none⟩ (.slice none 0 0) := ⟨_, rfl⟩
      have hz : W9.heap[w.heap.size]? = some (.cells #[.int .i64 5, .int .i64 0, .string ⟨#[]⟩, .slice A m c, .slice none 0 0, .slice none 0 0] 26 (0, 0)) := by rw [hW9]; exact six_set HR.out.2.1 _ _ _ _ _ _
      have hg : wr.grownBy W9 (some w.heap.size) := by rw [hW9]; exact six_grown _ _ _ _ _ _ _ _
      rw [← hW9]
      clear hW9 yO yR
      obtain ⟨q0, q1, q2, q3, q4, q5, _⟩ := six_cells hz
      refine bodyPost_ret (v := .tuple #[.agg #[.int .i64 5, .int .i64 0, .string ⟨#[]⟩, .slice A m c, .slice none 0 0, .slice none 0 0], .bool true]) (by simp [results, Tryz.results89, go_sem, q0, q1, q2, q3, q4, q5]) rfl ?_
      have hj : j = n := by have := HK.out; have := HNL.out; omega
      have hR9 : k26.R 26 W9 w.heap.size (fun k => w.heap.size ≤ k) (.slice A m c) l := by
        have h := Kd.R_grown HR.out.2.2.2 hg (fun k hk e => by cases e; omega)
        rw [hj, List.take_of_length_le (by have := HN.out.2; omega)] at h
        exact Kd.R_mono (Kd.R_lower h (by omega)) (fun k hk => by show w.heap.size ≤ k; have : w.heap.size + 2 ≤ k := hk; omega)
      exact ⟨[.int .i64 5, .int .i64 0, .string ⟨#[]⟩, .slice A m c, .slice none 0 0, .slice none 0 0], rfl, k26_mkM W9 w.heap.size _ ⟨5, 0, ⟨#[]⟩, l, [], []⟩ hR9 (Kd.R_nil _ _ _ _ _) (Kd.R_nil _ _ _ _ _), HR.out.1.grown hg HR.out.1.size (fun k hk => by cases hk; exact Nat.le_refl _)⟩
end Go.Proofs.YtdcgjfiknknjfaaGreatDoor.NumA
