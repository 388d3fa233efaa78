/-
impl.mapFromGo, walked.
-/
import Derived.Test.YtdcgjfiknknjfaaGreatDoorFrC
import Derived.Test.YtdcgjfiknknjfaaGreatDoorMH
import Derived.Test.YtdcgjfiknknjfaaGreatDoorMD
set_option linter.unusedSimpArgs false
set_option linter.unusedVariables false
namespace Go.Proofs.YtdcgjfiknknjfaaGreatDoor.NumA
open Go.RowKit Go.Lib Go.Proofs.YtdcgjfiknknjfaaGreatDoor.ValA Go.Proofs.YtdcgjfiknknjfaaGreatDoor.FloH Go.Proofs.YtdcgjfiknknjfaaGreatDoorW.PrintWords Go.Proofs.YtdcgjfiknknjfaaGreatDoorW.PrintLast Go.Proofs.YtdcgjfiknknjfaaGreatDoorW.PrintMore Go.Proofs.YtdcgjfiknknjfaaGreatDoor.PzzFits1
section
variable {P : Program} {ops : Array Oper} {Q : Exit → Act → World → Prop}
/-- A new box, then what comes. -/
theorem box3_ {oi : Oper} {N : Option Tmp} {a : Act} {w w2 w' : World} {K : Act → World → Prop} {Vb : Nat} {ks vs : Value} {cs : List Value} {l : List ByteArray} {f5 : List V} {j s0 : Nat} {kb vb : Option Nat} {ks1 : Value} {nk : Nat} (h : MQ w w2 Vb ks vs cs l f5 j s0 kb vb ks1 nk w') (hw : Region.wanted oi (yielded ops a.tmps) = true) (hN : oi.dst = N)
    (hrun : (execOp a.eval oi).run P w' = .ok (.value (.slice (some ⟨w'.heap.size, 0, none⟩) 1 1)) (w'.alloc (.cells #[.string (rdOf ByteArray.empty l j)] 9))) (hK : ∀ b w1, MQ w w2 Vb ks vs cs l f5 j s0 (some b) vb ks1 nk w1 → K (a.put N (.slice (some ⟨b, 0, none⟩) 1 1)) w1) :
    if Region.wanted oi (yielded ops a.tmps) = true then Oper.wp P oi a w' K Q else K (a.put N undef) w' := value_ hw hN hrun (hK _ _ h.b3)
theorem box8_ {oi : Oper} {N : Option Tmp} {a : Act} {w w2 w' : World} {K : Act → World → Prop} {Vb : Nat} {ks vs : Value} {cs : List Value} {l : List ByteArray} {f5 : List V} {j s0 : Nat} {kb vb : Option Nat} {ks1 : Value} {nk : Nat} (h : MQ w w2 Vb ks vs cs l f5 j s0 kb vb ks1 nk w') (hw : Region.wanted oi (yielded ops a.tmps) = true) (hN : oi.dst = N)
    (hrun : (execOp a.eval oi).run P w' = .ok (.value (.slice (some ⟨w'.heap.size, 0, none⟩) 1 1)) (w'.alloc (.cells cs.toArray 26))) (hK : ∀ b w1, MQ w w2 Vb ks vs cs l f5 j s0 kb (some b) ks1 nk w1 → K (a.put N (.slice (some ⟨b, 0, none⟩) 1 1)) w1) :
    if Region.wanted oi (yielded ops a.tmps) = true then Oper.wp P oi a w' K Q else K (a.put N undef) w' := value_ hw hN hrun (hK _ _ h.b8)
/-- An append. -/
theorem app_ {oi : Oper} {N : Option Tmp} {a : Act} {w' w1 : World} {K : Act → World → Prop} (s x : Operand) (t : TypeId) (v y v1 : Value) (hw : Region.wanted oi (yielded ops a.tmps) = true) (hN : oi.dst = N) (ho : oi.op = .call { callee := .builtin .append, args := #[s, x], argTypes := #[t, t] }) (hs : a.eval s = v) (hx : a.eval x = y)
    (hrun : (Builtin.append_ #[t, t] oi.type #[v, y]).run P w' = .ok v1 w1) (hK : K (a.put N v1) w1) :
    if Region.wanted oi (yielded ops a.tmps) = true then Oper.wp P oi a w' K Q else K (a.put N undef) w' :=
  value_ hw hN (by simp [execOp, ho, resolve, invoke, builtin, hs, hx, hrun, Result.andThen]) hK
end
/-- A row of keys, at base or behind. -/
def KeysAt (base : Nat) (w : World) (A : Option Addr) (l : List ByteArray) : Prop := l = [] ∨ ∃ (g : Nat) (cur : Array Value), A = some ⟨g, 0, none⟩ ∧ base ≤ g ∧ w.heap[g]? = some (.cells cur 9 (0, 0)) ∧ ∀ (j : Nat) (s : ByteArray), l[j]? = some s → cur[j]? = some (.string s)
/-- A map's keys, in their order, by the library. -/
def KeysSorted (b : Nat) (l : List ByteArray) (w : World) : Prop :=
  Calls Tryz.prog 132 #[.map (some b)] w fun e w1 => ∃ fv, e = .returned fv ∧ Calls Tryz.prog 131 #[fv] w1 fun e w2 => ∃ A c, e = .returned (.slice A l.length c) ∧ KeysAt w.heap.size w2 A l ∧ Below w.heap.size w w2
/-- The head of mapFromGo's round. -/
def RMf (w w2 : World) (l : List ByteArray) (f5 : List V) (n k : Nat) (i : Value) (wr : World) : Prop :=
  ∃ (j : Nat) (A4 : Option Addr) (m4 c4 : Nat) (A5 : Option Addr) (m5 c5 : Nat), i = .int .i64 j ∧ k + j = n ∧ MR w w2 (.slice A4 m4 c4) (.slice A5 m5 c5) (.slice A4 m4 c4) (.slice A5 m5 c5) l f5 j wr
set_option maxRecDepth 100000 in
set_option maxHeartbeats 8000000 in
theorem mapFromGo_any (w : World) (b c n : Nat) (es : List MapEntry) (l : List ByteArray) (f5 : List V) (hl : l.length = n) (h5 : f5.length = n) (hn : n ≤ 400) (hb : w.heap[b]? = some (.map es.toArray c)) (hst : MapKept.Stamped es.toArray c) (hk : KeysAre es l)
    (HKS : ∀ w', Below w.heap.size w w' → KeysSorted b l w')
    (IH : ∀ (j : Nat) (e : MapEntry), es[j]? = some e → ∀ w', Below w.heap.size w w' → FromGo (rd_T26 f5 j) e.val w') :
    Calls Tryz.prog 90 #[.map (some b)] w fun e w' => ∃ cs, e = .returned (.tuple #[.agg cs.toArray, .bool true]) ∧ k26.M w' w.heap.size (fun k => w.heap.size ≤ k) ⟨6, 0, ⟨#[]⟩, [], l, f5⟩ cs ∧ Below w.heap.size w w' := by
  have HI := Lib.hid (fun j e h w' hw => IH j e h w' hw)
  have HB := Lib.hid (And.intro hb (And.intro hst hk))
  have HN := Lib.hid (And.intro hn (And.intro hl h5))
  obtain ⟨W0, hW0⟩ : ∃ W0, W0 = (w.alloc (.cells #[.int .i64 0, .int .i64 0, .string ⟨#[]⟩, .slice none 0 0, .slice none 0 0, .slice none 0 0] 26)).alloc (.cells #[.int .i64 6, .int .i64 0, .string ⟨#[]⟩, .slice none 0 0, .slice none 0 0, .slice none 0 0] 26) := ⟨_, rfl⟩
  have H0 := Lib.hid (show SPL w [(w.heap.size, #[.int .i64 0, .int .i64 0, .string ⟨#[]⟩, .slice none 0 0, .slice none 0 0, .slice none 0 0], 26), (w.heap.size + 1, #[.int .i64 6, .int .i64 0, .string ⟨#[]⟩, .slice none 0 0, .slice none 0 0, .slice none 0 0], 26)] W0 ∧ w.heap.size + 2 = W0.heap.size by
    rw [hW0]
    have h2 := SPL.two w #[.int .i64 0, .int .i64 0, .string ⟨#[]⟩, .slice none 0 0, .slice none 0 0, .slice none 0 0] #[.int .i64 6, .int .i64 0, .string ⟨#[]⟩, .slice none 0 0, .slice none 0 0, .slice none 0 0] 26 26
    exact ⟨h2, by rw [World.size_alloc, World.size_alloc]⟩)
  have HK0 := Lib.hid (HKS W0 H0.out.1.1)
  clear IH hb hst hk hl h5 HKS
  go_enter Tryz.func90, Tryz.ntmps90
  go_wp2_with fail
  rw [← hW0]
  clear hW0
  unfold KeysSorted at HK0
  refine HK0.out.mono ?_
  rintro e w1 ⟨fv, rfl, hQ⟩
  have HQ := Lib.hid hQ
  clear hQ HK0
  go_wp2_with fail
  refine HQ.out.mono ?_
  rintro e w2 ⟨Ak, ck, rfl, hC, hb2⟩
  have HC := Lib.hid (show KeysAt (w.heap.size + 2) w2 Ak l by rw [H0.out.2]; exact hC)
  have H2 := Lib.hid (show MR w w2 (.slice none 0 0) (.slice none 0 0) (.slice none 0 0) (.slice none 0 0) l f5 0 w2 from ⟨H0.out.1.1.trans (hb2.mono H0.out.1.1.size), ⟨Nat.le_refl _, fun _ _ _ => rfl⟩, by have := H0.out.2; have := hb2.size; omega, (hb2.block _ (lt_of_heap (H0.out.1.get 0 rfl))).trans (H0.out.1.get 0 rfl), (hb2.block _ (lt_of_heap (H0.out.1.get 1 rfl))).trans (H0.out.1.get 1 rfl), by rw [List.take_zero]; exact Kd.R_nil _ _ _ _ _, by rw [List.take_zero]; exact Kd.R_nil _ _ _ _ _⟩)
  rw [HN.out.2.1]
  clear hC hb2 H0 HQ
  go_wp2_with fail
  go_loopg [14] n (fun k i wr => RMf w w2 l f5 n k i wr)
  case atStart => exact ⟨0, none, 0, 0, none, 0, 0, rfl, by omega, H2.out⟩
  case round =>
    clear H2
    obtain ⟨j, A4, m4, c4, A5, m5, c5, rfl, hkj, hMR⟩ := hrel
    have HR := Lib.hid hMR
    have HK := Lib.hid hkj
    by_cases hlt : j < n
    · obtain ⟨gk', cur, rfl, hge, hcur, hcells⟩ := HC.out.resolve_left (by intro e; have := HN.out.2.1; rw [e] at this; simp at this; omega)
      have xk : wr.cell? ⟨gk', j, none⟩ = some (.string (rdOf ByteArray.empty l j)) := by
        have h := (hMR.kf.2 gk' hge (lt_of_heap hcur)).trans hcur
        have h2 := hcells j _ (key_rd l j (by have := HN.out.2.1; omega))
        rw [cell_of_row wr gk' j cur _ (0, 0) h, h2]
      have hA : ∃ e, es[j]? = some e ∧ ∀ w', Below w.heap.size w w' → (Instr.lookup 65 (.map (some b)) (.string (rdOf ByteArray.empty l j)) false).run Tryz.prog w' = .ok e.val w' := by
        have hj : j < l.length := by have := HN.out.2.1; omega
        refine ⟨es[j]'(by have := HB.out.2.2.1; omega), List.getElem?_eq_getElem _, fun w' hw => ?_⟩
        obtain ⟨e, h1, h2⟩ := run_look ((hw.block _ (lt_of_heap HB.out.1)).trans HB.out.1) HB.out.2.1 HB.out.2.2 j hj
        rw [List.getElem?_eq_getElem (by have := HB.out.2.2.1; omega)] at h1
        rw [h2, Option.some.inj h1]
      obtain ⟨ev, a1, a2⟩ := hA
      have HL := Lib.hid (HI.out j ev a1 wr hMR.b)
      have hlook := a2 wr hMR.b
      have hlt2 : (j : Int) < (n : Int) := by omega
      have HLT := Lib.hid hlt
      clear hMR hkj a1 a2 hlt hn
      unfold FromGo at HL
      go_wp2_with fail
      refine HL.out.mono ?_
      rintro e w4 ⟨cs, rfl, hM, hb4⟩
      obtain ⟨v3, v4, v5, rfl, g3, g4, g5⟩ := k26_openM hM
      obtain ⟨B3, d3, rfl⟩ := Kd.R_slice g3
      obtain ⟨B4, d4, rfl⟩ := Kd.R_slice g4
      obtain ⟨B5, d5, rfl⟩ := Kd.R_slice g5
      obtain ⟨Vb, hVb⟩ : ∃ Vb, Vb = w4.heap.size := ⟨_, rfl⟩
      obtain ⟨s0, hs0⟩ : ∃ s0, s0 = wr.heap.size := ⟨_, rfl⟩
      obtain ⟨W5, hW5⟩ : ∃ W5, W5 = w4.alloc (.cells #[.int .i64 (rd_T26 f5 j).f0, .int .i64 (rd_T26 f5 j).f1, .string (rd_T26 f5 j).f2, .slice B3 (rd_T26 f5 j).f3.length d3, .slice B4 (rd_T26 f5 j).f4.length d4, .slice B5 (rd_T26 f5 j).f5.length d5] 26) := ⟨_, rfl⟩
      have HZ := Lib.hid (show MQ w w2 Vb (.slice A4 m4 c4) (.slice A5 m5 c5) [.int .i64 (rd_T26 f5 j).f0, .int .i64 (rd_T26 f5 j).f1, .string (rd_T26 f5 j).f2, .slice B3 (rd_T26 f5 j).f3.length d3, .slice B4 (rd_T26 f5 j).f4.length d4, .slice B5 (rd_T26 f5 j).f5.length d5] l f5 j s0 none none (.slice A4 m4 c4) j W5 by
        rw [hW5, hVb, hs0]
        exact mq_start HR.out hb4 hM)
      have HB5 := Lib.hid (show Below wr.heap.size wr W5 by rw [hW5]; exact hb4.alloc hb4.size _)
      clear hM g3 g4 g5 hb4 hlook xk hge hcur hcells
      go_wp2_with fail
      rw [← hW5, ← hVb]
      clear hW5 hVb
      refine start_ (n := 14) (S := fun w' => w'.cell? ⟨w.heap.size + 1, 4, none⟩ = some (.slice A4 m4 c4) ∧ w'.cell? ⟨w.heap.size + 1, 5, none⟩ = some (.slice A5 m5 c5) ∧ w'.cell? ⟨Vb, 0, none⟩ = some (.int .i64 (rd_T26 f5 j).f0) ∧ w'.cell? ⟨Vb, 1, none⟩ = some (.int .i64 (rd_T26 f5 j).f1) ∧ w'.cell? ⟨Vb, 2, none⟩ = some (.string (rd_T26 f5 j).f2) ∧ w'.cell? ⟨Vb, 3, none⟩ = some (.slice B3 (rd_T26 f5 j).f3.length d3) ∧ w'.cell? ⟨Vb, 4, none⟩ = some (.slice B4 (rd_T26 f5 j).f4.length d4) ∧ w'.cell? ⟨Vb, 5, none⟩ = some (.slice B5 (rd_T26 f5 j).f5.length d5)) (ds := [9, 11, 13]) #[false, false, false, false, false, false, false, false, false, false, false, false, false, false] (by kernel_rfl) rfl rfl ⟨((six_cells HZ.out.drewq.o).2.2.2.2.1), ((six_cells HZ.out.drewq.o).2.2.2.2.2.1), ((six_cells HZ.out.drewq.v).1), ((six_cells HZ.out.drewq.v).2.1), ((six_cells HZ.out.drewq.v).2.2.1), ((six_cells HZ.out.drewq.v).2.2.2.1), ((six_cells HZ.out.drewq.v).2.2.2.2.1), ((six_cells HZ.out.drewq.v).2.2.2.2.2.1)⟩ (fun hHeld => ?_)
      refine pure_ (i := 0) (N := some 28) (v := ?_) (a' := ?_) #[true, false, false, false, false, false, false, false, false, false, false, false, false, false] rfl rfl (by kernel_rfl) (fun _ _ _ h => h) (Or.inl ⟨by rfl, ?_⟩) ?_ ?_
      rotate_left
      · intro w'
        go_simp
        with_reducible rfl
      rotate_left
      · simp only [Act.put, List.setIfInBounds_toArray, List.set_cons_zero, List.set_cons_succ, i64_w, i32_w]
        rfl
      refine pure_ (i := 2) (N := some 30) (v := ?_) (a' := ?_) #[true, false, true, false, false, false, false, false, false, false, false, false, false, false] rfl rfl (by kernel_rfl) (fun _ _ _ h => h) (Or.inl ⟨by rfl, ?_⟩) ?_ ?_
      rotate_left
      · intro w'
        go_simp
        with_reducible rfl
      rotate_left
      · simp only [Act.put, List.setIfInBounds_toArray, List.set_cons_zero, List.set_cons_succ, i64_w, i32_w]
        rfl
      refine pure_ (i := 5) (N := some 33) (v := ?_) (a' := ?_) #[true, false, true, false, false, true, false, false, false, false, false, false, false, false] rfl rfl (by kernel_rfl) (fun _ _ _ h => h) (Or.inl ⟨by rfl, ?_⟩) ?_ ?_
      rotate_left
      · intro w'
        go_simp
        with_reducible rfl
      rotate_left
      · simp only [Act.put, List.setIfInBounds_toArray, List.set_cons_zero, List.set_cons_succ, i64_w, i32_w]
        rfl
      refine take_ (i := 1) (N := some 29) (v := ?_) (a' := ?_) #[true, true, true, false, false, true, false, false, false, false, false, false, false, false] rfl rfl (by kernel_rfl) (fun _ _ _ h => h) (Or.inl ⟨by rfl, ?_⟩) hHeld ?_ ?_
      rotate_left
      · rintro w' ⟨s0, s1, s2, s3, s4, s5, s6, s7⟩
        go_simp
        with_reducible rfl
      rotate_left
      · simp only [Act.put, List.setIfInBounds_toArray, List.set_cons_zero, List.set_cons_succ, i64_w, i32_w]
        rfl
      refine take_ (i := 6) (N := some 34) (v := ?_) (a' := ?_) #[true, true, true, false, false, true, true, false, false, false, false, false, false, false] rfl rfl (by kernel_rfl) (fun _ _ _ h => h) (Or.inl ⟨by rfl, ?_⟩) hHeld ?_ ?_
      rotate_left
      · rintro w' ⟨s0, s1, s2, s3, s4, s5, s6, s7⟩
        go_simp
        with_reducible rfl
      rotate_left
      · simp only [Act.put, List.setIfInBounds_toArray, List.set_cons_zero, List.set_cons_succ, i64_w, i32_w]
        rfl
      refine take_ (i := 7) (N := some 35) (v := ?_) (a' := ?_) #[true, true, true, false, false, true, true, true, false, false, false, false, false, false] rfl rfl (by kernel_rfl) (fun _ _ _ h => h) (Or.inl ⟨by rfl, ?_⟩) hHeld ?_ ?_
      rotate_left
      · rintro w' ⟨s0, s1, s2, s3, s4, s5, s6, s7⟩
        go_simp
        with_reducible rfl
      rotate_left
      · simp only [Act.put, List.setIfInBounds_toArray, List.set_cons_zero, List.set_cons_succ, i64_w, i32_w]
        rfl
      refine join_ (σ := Nat × Nat × Option Addr × Nat × Nat) 4 #[true, true, true, true, true, true, true, true, true, false, true, false, false, false] (fun s => [(31, .slice (some ⟨s.1, 0, none⟩) 1 1), (32, .slice s.2.2.1 s.2.2.2.1 s.2.2.2.2), (36, .slice (some ⟨s.2.1, 0, none⟩) 1 1), (38, .pointer (some ⟨w.heap.size + 1, 4, none⟩))]) (fun s w' => MQ w w2 Vb (.slice A4 m4 c4) (.slice A5 m5 c5) [.int .i64 (rd_T26 f5 j).f0, .int .i64 (rd_T26 f5 j).f1, .string (rd_T26 f5 j).f2, .slice B3 (rd_T26 f5 j).f3.length d3, .slice B4 (rd_T26 f5 j).f4.length d4, .slice B5 (rd_T26 f5 j).f5.length d5] l f5 j s0 none (some s.2.1) (.slice s.2.2.1 s.2.2.2.1 s.2.2.2.2) (j + 1) w') ?_ ?_
      rotate_left
      · intro hCont
        refine two_ (i := 3) (j := 8) (Ni := some 31) (Nj := some 36) #[true, true, true, true, false, true, true, true, false, false, false, false, false, false] #[true, true, true, false, false, true, true, true, true, false, false, false, false, false] rfl rfl rfl rfl (by kernel_rfl) (by decide) (by decide) (fun K hK => ?_) (fun K hK => ?_)
        · skip
          refine box3_ HZ.out.drewq (by rfl) rfl ?_ ?_
          · first | (go_simp; done) | (go_simp; rfl)
          intro kb w21 hz1
          refine hK.out _ _ ⟨((six_cells hz1.o).2.2.2.2.1), ((six_cells hz1.o).2.2.2.2.2.1), ((six_cells hz1.v).1), ((six_cells hz1.v).2.1), ((six_cells hz1.v).2.2.1), ((six_cells hz1.v).2.2.2.1), ((six_cells hz1.v).2.2.2.2.1), ((six_cells hz1.v).2.2.2.2.2.1)⟩ (fun hHeld => ?_)
          clear hK K
          refine norm_ (a' := ?_) ?_ ?_
          rotate_left
          · show Act.put _ (some 31) _ = _
            simp only [Act.put, List.setIfInBounds_toArray, List.set_cons_zero, List.set_cons_succ, i64_w, i32_w]
            rfl
          refine two_ (i := 4) (j := 8) (Ni := some 32) (Nj := some 36) #[true, true, true, true, true, true, true, true, false, false, false, false, false, false] #[true, true, true, true, false, true, true, true, true, false, false, false, false, false] rfl rfl rfl rfl (by kernel_rfl) (by decide) (by decide) (fun K hK => ?_) (fun K hK => ?_)
          · skip
            obtain ⟨A6, m6, c6, w22, hrun, hz2⟩ := hz1.a4 (by have := HN.out.2.1; have := HLT.out; omega) (by have := HN.out; omega)
            refine app_ (.tmp 29) (.tmp 31) 24 _ _ (.slice A6 m6 c6) (by rfl) rfl rfl rfl rfl hrun ?_
            refine hK.out _ _ ⟨((six_cells hz2.o).2.2.2.2.1), ((six_cells hz2.o).2.2.2.2.2.1), ((six_cells hz2.v).1), ((six_cells hz2.v).2.1), ((six_cells hz2.v).2.2.1), ((six_cells hz2.v).2.2.2.1), ((six_cells hz2.v).2.2.2.2.1), ((six_cells hz2.v).2.2.2.2.2.1)⟩ (fun hHeld => ?_)
            clear hK K
            refine norm_ (a' := ?_) ?_ ?_
            rotate_left
            · show Act.put _ (some 32) _ = _
              simp only [Act.put, List.setIfInBounds_toArray, List.set_cons_zero, List.set_cons_succ, i64_w, i32_w]
              rfl
            refine pure_ (i := 10) (N := some 38) (v := ?_) (a' := ?_) #[true, true, true, true, true, true, true, true, false, false, true, false, false, false] rfl rfl (by kernel_rfl) (fun _ _ _ h => h) (Or.inl ⟨by rfl, ?_⟩) ?_ ?_
            rotate_left
            · intro w'
              go_simp
              with_reducible rfl
            rotate_left
            · simp only [Act.put, List.setIfInBounds_toArray, List.set_cons_zero, List.set_cons_succ, i64_w, i32_w]
              rfl
            refine one_ (i := 8) (N := some 36) #[true, true, true, true, true, true, true, true, true, false, true, false, false, false] rfl rfl (by kernel_rfl) (by decide) (fun K hK => ?_)
            refine box8_ hz2 (by rfl) rfl ?_ ?_
            · first | (go_simp; done) | (go_simp; rfl)
            intro vb w23 hz3
            refine hK.out _ _ ⟨((six_cells hz3.o).2.2.2.2.1), ((six_cells hz3.o).2.2.2.2.2.1), ((six_cells hz3.v).1), ((six_cells hz3.v).2.1), ((six_cells hz3.v).2.2.1), ((six_cells hz3.v).2.2.2.1), ((six_cells hz3.v).2.2.2.2.1), ((six_cells hz3.v).2.2.2.2.2.1)⟩ (fun hHeld => ?_)
            clear hK K
            refine norm_ (a' := ?_) ?_ ?_
            rotate_left
            · show Act.put _ (some 36) _ = _
              simp only [Act.put, List.setIfInBounds_toArray, List.set_cons_zero, List.set_cons_succ, i64_w, i32_w]
              rfl
            exact norm_ (by simp only [putAll, Act.put, List.setIfInBounds_toArray, List.set_cons_zero, List.set_cons_succ]) (hCont (kb, vb, A6, m6, c6) _ hz3)
          · skip
            refine box8_ hz1 (by rfl) rfl ?_ ?_
            · first | (go_simp; done) | (go_simp; rfl)
            intro vb w22 hz2
            refine hK.out _ _ ⟨((six_cells hz2.o).2.2.2.2.1), ((six_cells hz2.o).2.2.2.2.2.1), ((six_cells hz2.v).1), ((six_cells hz2.v).2.1), ((six_cells hz2.v).2.2.1), ((six_cells hz2.v).2.2.2.1), ((six_cells hz2.v).2.2.2.2.1), ((six_cells hz2.v).2.2.2.2.2.1)⟩ (fun hHeld => ?_)
            clear hK K
            refine norm_ (a' := ?_) ?_ ?_
            rotate_left
            · show Act.put _ (some 36) _ = _
              simp only [Act.put, List.setIfInBounds_toArray, List.set_cons_zero, List.set_cons_succ, i64_w, i32_w]
              rfl
            refine one_ (i := 4) (N := some 32) #[true, true, true, true, true, true, true, true, true, false, false, false, false, false] rfl rfl (by kernel_rfl) (by decide) (fun K hK => ?_)
            obtain ⟨A6, m6, c6, w23, hrun, hz3⟩ := hz2.a4 (by have := HN.out.2.1; have := HLT.out; omega) (by have := HN.out; omega)
            refine app_ (.tmp 29) (.tmp 31) 24 _ _ (.slice A6 m6 c6) (by rfl) rfl rfl rfl rfl hrun ?_
            refine hK.out _ _ ⟨((six_cells hz3.o).2.2.2.2.1), ((six_cells hz3.o).2.2.2.2.2.1), ((six_cells hz3.v).1), ((six_cells hz3.v).2.1), ((six_cells hz3.v).2.2.1), ((six_cells hz3.v).2.2.2.1), ((six_cells hz3.v).2.2.2.2.1), ((six_cells hz3.v).2.2.2.2.2.1)⟩ (fun hHeld => ?_)
            clear hK K
            refine norm_ (a' := ?_) ?_ ?_
            rotate_left
            · show Act.put _ (some 32) _ = _
              simp only [Act.put, List.setIfInBounds_toArray, List.set_cons_zero, List.set_cons_succ, i64_w, i32_w]
              rfl
            refine pure_ (i := 10) (N := some 38) (v := ?_) (a' := ?_) #[true, true, true, true, true, true, true, true, true, false, true, false, false, false] rfl rfl (by kernel_rfl) (fun _ _ _ h => h) (Or.inl ⟨by rfl, ?_⟩) ?_ ?_
            rotate_left
            · intro w'
              go_simp
              with_reducible rfl
            rotate_left
            · simp only [Act.put, List.setIfInBounds_toArray, List.set_cons_zero, List.set_cons_succ, i64_w, i32_w]
              rfl
            exact norm_ (by simp only [putAll, Act.put, List.setIfInBounds_toArray, List.set_cons_zero, List.set_cons_succ]) (hCont (kb, vb, A6, m6, c6) _ hz3)
        · skip
          refine box8_ HZ.out.drewq (by rfl) rfl ?_ ?_
          · first | (go_simp; done) | (go_simp; rfl)
          intro vb w21 hz1
          refine hK.out _ _ ⟨((six_cells hz1.o).2.2.2.2.1), ((six_cells hz1.o).2.2.2.2.2.1), ((six_cells hz1.v).1), ((six_cells hz1.v).2.1), ((six_cells hz1.v).2.2.1), ((six_cells hz1.v).2.2.2.1), ((six_cells hz1.v).2.2.2.2.1), ((six_cells hz1.v).2.2.2.2.2.1)⟩ (fun hHeld => ?_)
          clear hK K
          refine norm_ (a' := ?_) ?_ ?_
          rotate_left
          · show Act.put _ (some 36) _ = _
            simp only [Act.put, List.setIfInBounds_toArray, List.set_cons_zero, List.set_cons_succ, i64_w, i32_w]
            rfl
          refine one_ (i := 3) (N := some 31) #[true, true, true, true, false, true, true, true, true, false, false, false, false, false] rfl rfl (by kernel_rfl) (by decide) (fun K hK => ?_)
          refine box3_ hz1 (by rfl) rfl ?_ ?_
          · first | (go_simp; done) | (go_simp; rfl)
          intro kb w22 hz2
          refine hK.out _ _ ⟨((six_cells hz2.o).2.2.2.2.1), ((six_cells hz2.o).2.2.2.2.2.1), ((six_cells hz2.v).1), ((six_cells hz2.v).2.1), ((six_cells hz2.v).2.2.1), ((six_cells hz2.v).2.2.2.1), ((six_cells hz2.v).2.2.2.2.1), ((six_cells hz2.v).2.2.2.2.2.1)⟩ (fun hHeld => ?_)
          clear hK K
          refine norm_ (a' := ?_) ?_ ?_
          rotate_left
          · show Act.put _ (some 31) _ = _
            simp only [Act.put, List.setIfInBounds_toArray, List.set_cons_zero, List.set_cons_succ, i64_w, i32_w]
            rfl
          refine one_ (i := 4) (N := some 32) #[true, true, true, true, true, true, true, true, true, false, false, false, false, false] rfl rfl (by kernel_rfl) (by decide) (fun K hK => ?_)
          obtain ⟨A6, m6, c6, w23, hrun, hz3⟩ := hz2.a4 (by have := HN.out.2.1; have := HLT.out; omega) (by have := HN.out; omega)
          refine app_ (.tmp 29) (.tmp 31) 24 _ _ (.slice A6 m6 c6) (by rfl) rfl rfl rfl rfl hrun ?_
          refine hK.out _ _ ⟨((six_cells hz3.o).2.2.2.2.1), ((six_cells hz3.o).2.2.2.2.2.1), ((six_cells hz3.v).1), ((six_cells hz3.v).2.1), ((six_cells hz3.v).2.2.1), ((six_cells hz3.v).2.2.2.1), ((six_cells hz3.v).2.2.2.2.1), ((six_cells hz3.v).2.2.2.2.2.1)⟩ (fun hHeld => ?_)
          clear hK K
          refine norm_ (a' := ?_) ?_ ?_
          rotate_left
          · show Act.put _ (some 32) _ = _
            simp only [Act.put, List.setIfInBounds_toArray, List.set_cons_zero, List.set_cons_succ, i64_w, i32_w]
            rfl
          refine pure_ (i := 10) (N := some 38) (v := ?_) (a' := ?_) #[true, true, true, true, true, true, true, true, true, false, true, false, false, false] rfl rfl (by kernel_rfl) (fun _ _ _ h => h) (Or.inl ⟨by rfl, ?_⟩) ?_ ?_
          rotate_left
          · intro w'
            go_simp
            with_reducible rfl
          rotate_left
          · simp only [Act.put, List.setIfInBounds_toArray, List.set_cons_zero, List.set_cons_succ, i64_w, i32_w]
            rfl
          exact norm_ (by simp only [putAll, Act.put, List.setIfInBounds_toArray, List.set_cons_zero, List.set_cons_succ]) (hCont (kb, vb, A6, m6, c6) _ hz3)
      rintro ⟨kb, vb, A6, m6, c6⟩ w' hF
      change MQ w w2 Vb (.slice A4 m4 c4) (.slice A5 m5 c5) [.int .i64 (rd_T26 f5 j).f0, .int .i64 (rd_T26 f5 j).f1, .string (rd_T26 f5 j).f2, .slice B3 (rd_T26 f5 j).f3.length d3, .slice B4 (rd_T26 f5 j).f4.length d4, .slice B5 (rd_T26 f5 j).f5.length d5] l f5 j s0 none (some vb) (.slice A6 m6 c6) (j + 1) w' at hF
      have hHeld : w'.cell? ⟨w.heap.size + 1, 4, none⟩ = some (.slice A4 m4 c4) ∧ w'.cell? ⟨w.heap.size + 1, 5, none⟩ = some (.slice A5 m5 c5) ∧ w'.cell? ⟨Vb, 0, none⟩ = some (.int .i64 (rd_T26 f5 j).f0) ∧ w'.cell? ⟨Vb, 1, none⟩ = some (.int .i64 (rd_T26 f5 j).f1) ∧ w'.cell? ⟨Vb, 2, none⟩ = some (.string (rd_T26 f5 j).f2) ∧ w'.cell? ⟨Vb, 3, none⟩ = some (.slice B3 (rd_T26 f5 j).f3.length d3) ∧ w'.cell? ⟨Vb, 4, none⟩ = some (.slice B4 (rd_T26 f5 j).f4.length d4) ∧ w'.cell? ⟨Vb, 5, none⟩ = some (.slice B5 (rd_T26 f5 j).f5.length d5) := ⟨((six_cells hF.o).2.2.2.2.1), ((six_cells hF.o).2.2.2.2.2.1), ((six_cells hF.v).1), ((six_cells hF.v).2.1), ((six_cells hF.v).2.2.1), ((six_cells hF.v).2.2.2.1), ((six_cells hF.v).2.2.2.2.1), ((six_cells hF.v).2.2.2.2.2.1)⟩
      refine norm_ (a' := ?_) ?_ ?_
      rotate_left
      · simp only [putAll, Act.put, List.setIfInBounds_toArray, List.set_cons_zero, List.set_cons_succ]
        rfl
      refine last_ (i := 9) (N := some 37) #[true, true, true, true, true, true, true, true, true, true, true, false, false, false] rfl rfl (by kernel_rfl) (by decide) (fun K hK => ?_)
      obtain ⟨A7, m7, c7, w31, hrun, hz9⟩ := hF.a9 (by have := HN.out.2.2; have := HLT.out; omega) (by have := HN.out; omega)
      refine app_ (.tmp 34) (.tmp 36) 23 _ _ (.slice A7 m7 c7) (by rfl) rfl rfl rfl rfl hrun ?_
      refine hK.out _ _ ?_
      clear hK K
      refine norm_ (a' := ?_) ?_ ?_
      rotate_left
      · show Act.put _ (some 37) _ = _
        simp only [Act.put, List.setIfInBounds_toArray, List.set_cons_zero, List.set_cons_succ, i64_w, i32_w]
        rfl
      refine last_ (i := 11) (N := none) #[true, true, true, true, true, true, true, true, true, true, true, true, false, false] rfl rfl (by kernel_rfl) (by decide) (fun K hK => ?_)
      have yO := six_cells hz9.o
      refine skip_ (w1 := ?_) (by rfl) rfl ?_ ?_
      rotate_left
      · go_simp
        rfl
      refine hK.out _ _ ?_
      clear hK K
      refine pure_ (i := 12) (N := some 39) (v := ?_) (a' := ?_) #[true, true, true, true, true, true, true, true, true, true, true, true, true, false] rfl rfl (by kernel_rfl) (fun _ _ _ h => h) (Or.inl ⟨by rfl, ?_⟩) ?_ ?_
      rotate_left
      · intro w'
        go_simp
        with_reducible rfl
      rotate_left
      · simp only [Act.put, List.setIfInBounds_toArray, List.set_cons_zero, List.set_cons_succ, i64_w, i32_w]
        rfl
      refine last_ (i := 13) (N := none) #[true, true, true, true, true, true, true, true, true, true, true, true, true, true] rfl rfl (by kernel_rfl) (by decide) (fun K hK => ?_)
      have hP : (w31.setCell ⟨w.heap.size + 1, 4, none⟩ (.slice A6 m6 c6)).heap[w.heap.size + 1]? = some (.cells #[.int .i64 6, .int .i64 0, .string ⟨#[]⟩, .slice none 0 0, .slice A6 m6 c6, .slice A5 m5 c5] 26 (0, 0)) := by rw [heap_set hz9.o 4 _]; rfl
      have yP := six_cells hP
      refine skip_ (w1 := ?_) (by rfl) rfl ?_ ?_
      rotate_left
      · go_simp
        rfl
      refine hK.out _ _ ?_
      clear hK K
      refine done_ (by kernel_rfl) ?_
      go_wp2_with fail
      go_roundg (gk - 1)
      case measure => have := HK.out; have := HLT.out; omega
      case rel =>
        have hw : wrap64 ((j : Int) + 1) = ((j + 1 : Nat) : Int) := by have := HN.out.1; have := HLT.out; unfold wrap64; omega
        rw [hw]
        exact ⟨j + 1, A6, m6, c6, A7, m7, c7, rfl, by have := HK.out; have := HLT.out; omega, hz9.put⟩
    · have hlt2 : ¬ (j : Int) < (n : Int) := by omega
      have hlt3 : decide ((j : Int) < (n : Int)) = false := decide_eq_false hlt2
      have hlt4 : decide (j < n) = false := decide_eq_false hlt
      have HNL := Lib.hid hlt
      have yO := six_cells hMR.o
      have yR := six_cells hMR.r
      clear hMR hkj hn hlt hlt2
      go_wp2_with fail
      obtain ⟨W9, hW9⟩ : ∃ W9, W9 = (((((wr.setCell ⟨w.heap.size, 0, none⟩ (.int .i64 6)).setCell ⟨w.heap.size, 1, none⟩ (.int .i64 0)).setCell ⟨w.heap.size, 2, none⟩ (.string ⟨#[]⟩)).setCell ⟨w.heap.size, 3, none⟩ (.slice none 0 0)).setCell ⟨w.heap.size, 4, none⟩ (.slice A4 m4 c4)).setCell ⟨w.heap.size, 5, none⟩ (.slice A5 m5 c5) := ⟨_, rfl⟩
      have hz : W9.heap[w.heap.size]? = some (.cells #[.int .i64 6, .int .i64 0, .string ⟨#[]⟩, .slice none 0 0, .slice A4 m4 c4, .slice A5 m5 c5] 26 (0, 0)) := by rw [hW9]; exact six_set HR.out.r _ _ _ _ _ _
      have hg : wr.grownBy W9 (some w.heap.size) := by rw [hW9]; exact six_grown _ _ _ _ _ _ _ _
      rw [← hW9]
      clear hW9 yO yR
      obtain ⟨q0, q1, q2, q3, q4, q5, _⟩ := six_cells hz
      refine bodyPost_ret (v := .tuple #[.agg #[.int .i64 6, .int .i64 0, .string ⟨#[]⟩, .slice none 0 0, .slice A4 m4 c4, .slice A5 m5 c5], .bool true]) (by simp [results, Tryz.results90, go_sem, q0, q1, q2, q3, q4, q5]) rfl ?_
      have hj : j = n := by have := HK.out; have := HNL.out; omega
      have hw2 := HR.out.hw
      have hkl := own_base HR.out.kr.own
      have hR5 : k26.R 26 W9 w.heap.size (fun k => w.heap.size ≤ k) (.slice A5 m5 c5) f5 := by
        have h := Kd.R_grown HR.out.vr hg (fun k hk e => by cases e; have := hk.1; omega)
        rw [hj, List.take_of_length_le (by have := HN.out.2.2; omega)] at h
        exact Kd.R_mono (Kd.R_lower h (by omega)) (fun k hk => by have := hk.1; show w.heap.size ≤ k; omega)
      have hR4 : Kd.string.R 9 W9 w.heap.size (fun k => w.heap.size ≤ k) (.slice A4 m4 c4) l := by
        have h := Kd.R_grown HR.out.kr hg (fun k hk e => by cases e; have := hkl _ hk.symm; omega)
        rw [hj, List.take_of_length_le (by have := HN.out.2.1; omega)] at h
        exact Kd.R_mono (Kd.R_lower h (by omega)) (fun k hk => by have := hkl k hk.symm; show w.heap.size ≤ k; omega)
      exact ⟨[.int .i64 6, .int .i64 0, .string ⟨#[]⟩, .slice none 0 0, .slice A4 m4 c4, .slice A5 m5 c5], rfl, k26_mkM W9 w.heap.size _ ⟨6, 0, ⟨#[]⟩, [], l, f5⟩ (Kd.R_nil _ _ _ _ _) hR4 hR5, HR.out.b.grown hg HR.out.b.size (fun k hk => by cases hk; exact Nat.le_refl _)⟩
end Go.Proofs.YtdcgjfiknknjfaaGreatDoor.NumA
