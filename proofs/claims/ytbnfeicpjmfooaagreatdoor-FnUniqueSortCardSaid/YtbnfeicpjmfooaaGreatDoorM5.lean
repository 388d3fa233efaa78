/-
Parts of the proof, one behind the other: AppL, AppD.
-/
import Derived.Test.YtbnfeicpjmfooaaGreatDoorME
import Derived.Test.YtbnfeicpjmfooaaGreatDoorMD
/-
A list of values appended to a slice that is owned.
-/
set_option linter.unusedSimpArgs false
set_option linter.unusedVariables false
namespace Go.Proofs.YtbnfeicpjmfooaaGreatDoor.NumA
open Go.RowKit Go.Lib Go.Proofs.YtbnfeicpjmfooaaGreatDoor.ValA Go.Proofs.YtbnfeicpjmfooaaGreatDoor.FloH Go.Proofs.YtbnfeicpjmfooaaGreatDoorW.PrintWords Go.Proofs.YtbnfeicpjmfooaaGreatDoorW.PrintLast Go.Proofs.YtbnfeicpjmfooaaGreatDoorW.PrintMore Go.Proofs.YtbnfeicpjmfooaaGreatDoor.PzzFits1
theorem info_val2 : (Tryz.prog.info? 26).map (fun i => (i.zero, i.size, i.bytes)) = some (some (.agg #[.int .i64 0, .int .i64 0, .string ⟨#[]⟩, .slice none 0 0, .slice none 0 0, .slice none 0 0]), 6, 104) := by kernel_rfl
/-- v owns a row in which the values xs stand; each of them can be read since W0. -/
def OwnL (W0 : World) (v : Value) (xs : List V) (W : World) : Prop := OwnRow (k26.K W0) 26 6 W W0.heap.size v xs ∧ Below W0.heap.size W0 W
theorem OwnL.lit0 {W0 W : World} (hb : Below W0.heap.size W0 W) : OwnL W0 (.slice (some ⟨W.heap.size, 0, none⟩) 0 0) [] (W.alloc (.cells #[] 26)) :=
  ⟨OwnRow.lit W W0.heap.size (Reps.none _ _) hb.size (by simp), hb.alloc hb.size _⟩
theorem OwnL.below {W0 W W1 : World} {v : Value} {xs : List V} (h : OwnL W0 v xs W) (hb : Below W.heap.size W W1) : OwnL W0 v xs W1 := ⟨h.1.below hb, h.2.trans (hb.mono h.2.size)⟩
theorem OwnL.row {W0 W : World} {v : Value} {xs : List V} (h : OwnL W0 v xs W) : ∃ A c, v = .slice A xs.length c ∧ xs.length ≤ c ∧ Kd.C k26 W A xs.length xs := by
  obtain ⟨A, c, e, hle, hr⟩ := h.1.reads
  exact ⟨A, c, e, hle, hr.imp_ (Below.refl _ W) (fun p cs hp => k26.K_below h.2 hp)⟩
theorem OwnL.appended {W0 W : World} {v : Value} {xs ys : List V} (h : OwnL W0 v xs W) {A : Option Addr} {m c : Nat} (hC : Kd.C k26 W0 A m ys) (hl : (xs.length + m) * 104 ≤ 140737488355328) :
    ∃ v1 w1, (Builtin.append_ #[22, 22] 22 #[v, .slice A m c]).run Tryz.prog W = .ok v1 w1 ∧ OwnL W0 v1 (xs ++ ys) w1 := by
  obtain ⟨⟨inner, hown, hr⟩, hb⟩ := h
  obtain ⟨i0, hi, hzz⟩ := Option.map_eq_some_iff.1 info_val2
  simp only [Prod.mk.injEq] at hzz
  obtain ⟨hz0, hz1, hz2⟩ := hzz
  have ht := Tryz.underlying22
  have HR : ReadsRow (k26.K W0) 6 W A m ys := ReadsRow.imp_ hC hb (fun _ _ h => h)
  have hm : ys.length = m := HR.1
  rcases A with _ | ad
  · have h0 : m = 0 := by
      rcases Nat.eq_zero_or_pos m with h0 | h0
      · exact h0
      · obtain ⟨ad, h, _⟩ := HR.2.2 h0
        cases h
    subst h0
    obtain rfl : ys = [] := List.eq_nil_of_length_eq_zero hm
    refine ⟨v, W, ?_, by rw [List.append_nil]; exact ⟨⟨inner, hown, hr⟩, hb⟩⟩
    rcases hown.2 with ⟨rfl, hn⟩ | ⟨g, cap, cur, rfl, _, _, hnc, _⟩
    · simp [Builtin.append_, run_underlying ht, sizeOf, typeInfo, hi, Builtin.lenOf, Builtin.firstCells]
    · simp [Builtin.append_, run_underlying ht, sizeOf, typeInfo, hi, Builtin.lenOf, Builtin.firstCells, hnc, storeCells]
  · obtain ⟨news, hnr, hnc⟩ := ReadsRow.inner_ HR
    have hone : ∀ u ∈ news, u.oneCell' = true := by
      intro u hu
      obtain ⟨q, hq, rfl⟩ := List.mem_iff_getElem.1 hu
      have hql : q / 6 < ys.length := by
        rw [Nat.div_lt_iff_lt_mul (by omega), ← hnr.1]
        exact hq
      have hc := hnr.2 (q / 6) _ (List.getElem?_eq_getElem hql)
      refine k26.K_one hc _ ?_
      rw [List.mem_iff_getElem?]
      refine ⟨q % 6, ?_⟩
      rw [List.getElem?_take, if_pos (Nat.mod_lt _ (by omega)), List.getElem?_drop, Nat.mul_comm, Nat.div_add_mod, List.getElem?_eq_getElem hq]
    obtain ⟨v1, w1, hrun, h2, hg, _, hat⟩ := run_append_own_at (P := Tryz.prog) W W0.heap.size 22 22 26 i0 _ 6 104 ht hi hz0 hz1 hz2 rfl (by decide) v xs.length inner hown ad m c news (by rw [hnr.1, hm]) hnc hone (by simp only [maxLen]; omega) hl hb.size
    refine ⟨v1, w1, hrun, ⟨inner ++ news, by rw [List.length_append, hm]; exact h2, Kd.reps_append hr hnr⟩, hb.grown hg hb.size (fun k hk => ?_)⟩
    rcases hown.2 with ⟨rfl, hn⟩ | ⟨g, cap, cur, rfl, hbg, _⟩
    · simp [Value.ownBlock] at hk
    · obtain rfl : g = k := by simpa [Value.ownBlock] using hk
      exact hbg
section
variable {P : Program} {ops : Array Oper} {Q : Exit → Act → World → Prop}
/-- An append in a region that draws. -/
theorem append_step_ {oi : Oper} {N : Option Tmp} {a : Act} {w w1 : World} {K : Act → World → Prop} {s x : Operand} {t ty : TypeId} {v y v1 : Value} (hw : Region.wanted oi (yielded ops a.tmps) = true) (hN : oi.dst = N)
    (ho : oi.op = .call { callee := .builtin .append, args := #[s, x], argTypes := #[t, t] }) (hty : oi.type = ty) (hs : a.eval s = v) (hx : a.eval x = y)
    (hrun : (Builtin.append_ #[t, t] ty #[v, y]).run P w = .ok v1 w1) (h : K (a.put N v1) w1) :
    if Region.wanted oi (yielded ops a.tmps) = true then Oper.wp P oi a w K Q else K (a.put N undef) w := by
  subst hty hN
  rw [if_pos hw]
  unfold Oper.wp
  simp [execOp, ho, resolve, invoke, builtin, hs, hx, hrun, Result.andThen]
  exact h
end
end Go.Proofs.YtbnfeicpjmfooaaGreatDoor.NumA
/-
Blocks that stand, and one row that is owned beside them.
-/
set_option linter.unusedSimpArgs false
set_option linter.unusedVariables false
namespace Go.Proofs.YtbnfeicpjmfooaaGreatDoor.ValA
open Go.RowKit Go.Lib Go.Proofs.YtbnfeicpjmfooaaGreatDoorW.PrintWords Go.Proofs.YtbnfeicpjmfooaaGreatDoorW.PrintLast Go.Proofs.YtbnfeicpjmfooaaGreatDoorW.PrintMore Go.Proofs.YtbnfeicpjmfooaaGreatDoor.PzzFits1 Go.Proofs.YtbnfeicpjmfooaaGreatDoor.NumA
theorem SPN.set1 {w w1 : World} {L : List (Nat × Array Value × TypeId)} (h : SPN w L w1) (i : Nat) {R : Nat} {c : Array Value} {t : TypeId} (hi : L[i]? = some (R, c, t)) (n : Nat) (v : Value) :
    SPN w (L.set i (R, c.setIfInBounds n v, t)) (w1.setCell ⟨R, n, none⟩ v) := by
  have hm := List.mem_of_getElem? hi
  have hR := h.2.2 _ hm
  have hset := heap_set (h.1.2 _ hm) n v
  have hgr : w1.grownBy (w1.setCell ⟨R, n, none⟩ v) (some R) := grown_set (World.grownBy.refl w1 _) n v
  have hil : i < L.length := (List.getElem?_eq_some_iff.1 hi).1
  have hmap : (L.set i (R, c.setIfInBounds n v, t)).map (·.1) = L.map (·.1) := by
    rw [List.map_set]
    apply List.ext_getElem?
    intro j
    rw [List.getElem?_set]
    split
    · rename_i he
      subst he
      rw [List.getElem?_map, hi]
      simp [hil]
    · rfl
  refine ⟨⟨h.1.1.grown hgr h.1.1.size (fun k hk => by cases hk; exact hR), ?_⟩, by rw [hmap]; exact h.2.1, ?_⟩
  · intro p hp
    obtain ⟨j, hj⟩ := List.getElem?_of_mem hp
    rw [List.getElem?_set] at hj
    split at hj
    · rename_i he
      simp [hil] at hj
      obtain rfl := hj
      exact hset
    · rename_i hne
      have hpL := List.mem_of_getElem? hj
      have hd : p.1 ≠ R := fun e => by
        have hl := (List.getElem?_eq_some_iff.1 hj).1
        have h1 : (L.map (·.1))[i]? = some R := by rw [List.getElem?_map, hi]; rfl
        have h2 : (L.map (·.1))[j]? = some R := by rw [List.getElem?_map, hj]; simp [e]
        exact hne ((List.getElem?_inj (by simpa using hil) h.2.1).1 (h1.trans h2.symm))
      exact (hgr.block _ (lt_of_heap (h.1.2 p hpL)) (fun e => hd (by cases e; rfl))).trans (h.1.2 p hpL)
  · intro p hp
    have : p.1 ∈ L.map (·.1) := by rw [← hmap]; exact List.mem_map_of_mem hp
    obtain ⟨q, hq, e⟩ := List.mem_map.1 this
    rw [← e]; exact h.2.2 q hq
/-- The blocks of L stand; v owns a row of the values xs, which is none of them. -/
def SPO (w : World) (L : List (Nat × Array Value × TypeId)) (v : Value) (xs : List V) (w' : World) : Prop :=
  SPN w L w' ∧ OwnRow (k26.K w) 26 6 w' w.heap.size v xs ∧ ∀ k, v.ownBlock = some k → k < w'.heap.size ∧ ∀ p ∈ L, p.1 ≠ k
theorem SPO.start {w w1 : World} {L : List (Nat × Array Value × TypeId)} (h : SPN w L w1) : SPO w L (.slice none 0 0) [] w1 := ⟨h, OwnRow.none_ _ _ _ _ _, fun k hk => by simp [Value.ownBlock] at hk⟩
section
variable {w w1 w2 : World} {L : List (Nat × Array Value × TypeId)} {v : Value} {xs ys : List V}
theorem SPO.below (h : SPO w L v xs w1) (hb : Below w1.heap.size w1 w2) : SPO w L v xs w2 := ⟨h.1.below hb, h.2.1.below hb, fun k hk => ⟨Nat.lt_of_lt_of_le (h.2.2 k hk).1 hb.size, (h.2.2 k hk).2⟩⟩
theorem SPO.drew (h : SPO w L v xs w1) : SPO w L v xs w1.drew := h.below (pw_below_drewN (Below.refl _ _) 1)
theorem SPO.bel (h : SPO w L v xs w1) : Below w.heap.size w w1 := h.1.1.1
theorem SPO.get (h : SPO w L v xs w1) (i : Nat) {p : Nat × Array Value × TypeId} (hp : L[i]? = some p) : w1.heap[p.1]? = some (.cells p.2.1 p.2.2 (0, 0)) := h.1.1.get i hp
theorem SPO.more (h : SPO w L v xs w1) (c : Array Value) (t : TypeId) : SPO w (L ++ [(w1.heap.size, c, t)]) v xs (w1.alloc (.cells c t)) := by
  have hb : Below w1.heap.size w1 (w1.alloc (.cells c t)) := (Below.refl _ w1).alloc (Nat.le_refl _) _
  refine ⟨h.1.more c t, h.2.1.below hb, fun k hk => ⟨Nat.lt_of_lt_of_le (h.2.2 k hk).1 hb.size, fun p hp => ?_⟩⟩
  rcases List.mem_append.1 hp with hp | hp
  · exact (h.2.2 k hk).2 p hp
  · obtain rfl := List.mem_singleton.1 hp
    have := (h.2.2 k hk).1
    show w1.heap.size ≠ k
    omega
theorem SPO.lit0 (h : SPN w L w1) : SPO w L (.slice (some ⟨w1.heap.size, 0, none⟩) 0 0) [] (w1.alloc (.cells #[] 26)) := by
  have hb : Below w1.heap.size w1 (w1.alloc (.cells #[] 26)) := (Below.refl _ w1).alloc (Nat.le_refl _) _
  refine ⟨h.below hb, OwnRow.lit w1 w.heap.size (Reps.none _ _) h.1.1.size (by simp), fun k hk => ?_⟩
  obtain rfl : w1.heap.size = k := by simpa [Value.ownBlock] using hk
  refine ⟨by rw [World.size_alloc]; omega, fun p hp e => ?_⟩
  have := lt_of_heap (h.1.2 p hp)
  omega
theorem SPO.set1 (h : SPO w L v xs w1) (i : Nat) {R : Nat} {c : Array Value} {t : TypeId} (hi : L[i]? = some (R, c, t)) (n : Nat) (u : Value) :
    SPO w (L.set i (R, c.setIfInBounds n u, t)) v xs (w1.setCell ⟨R, n, none⟩ u) := by
  have hm := List.mem_of_getElem? hi
  have hgr : w1.grownBy (w1.setCell ⟨R, n, none⟩ u) (some R) := grown_set (World.grownBy.refl w1 _) n u
  refine ⟨h.1.set1 i hi n u, h.2.1.other hgr ?_, fun k hk => ⟨Nat.lt_of_lt_of_le (h.2.2 k hk).1 hgr.size, fun p hp => ?_⟩⟩
  · cases hv : v.ownBlock with
    | none => exact .inl rfl
    | some k => exact .inr (fun e => (h.2.2 k hv).2 _ hm (by cases e; rfl))
  · rcases List.mem_or_eq_of_mem_set hp with hp | rfl
    · exact (h.2.2 k hk).2 p hp
    · have := (h.2.2 k hk).2 _ hm
      exact this
theorem SPO.six (h : SPO w L v xs w1) (i : Nat) {R : Nat} {c0 c1 c2 c3 c4 c5 : Value} {t : TypeId} (hi : L[i]? = some (R, #[c0, c1, c2, c3, c4, c5], t)) (v0 v1 v2 v3 v4 v5 : Value) :
    SPO w (L.set i (R, #[v0, v1, v2, v3, v4, v5], t)) v xs ((((((w1.setCell ⟨R, 0, none⟩ v0).setCell ⟨R, 1, none⟩ v1).setCell ⟨R, 2, none⟩ v2).setCell ⟨R, 3, none⟩ v3).setCell ⟨R, 4, none⟩ v4).setCell ⟨R, 5, none⟩ v5) := by
  have hil : i < L.length := (List.getElem?_eq_some_iff.1 hi).1
  have s : ∀ (M : List (Nat × Array Value × TypeId)) (c : Array Value), i < M.length → (M.set i (R, c, t))[i]? = some (R, c, t) := fun M c hm => by rw [List.getElem?_set_self hm]
  have h0 := h.set1 i hi 0 v0
  have h1 := h0.set1 i (s _ _ hil) 1 v1
  rw [List.set_set] at h1
  have h2 := h1.set1 i (s _ _ hil) 2 v2
  rw [List.set_set] at h2
  have h3 := h2.set1 i (s _ _ hil) 3 v3
  rw [List.set_set] at h3
  have h4 := h3.set1 i (s _ _ hil) 4 v4
  rw [List.set_set] at h4
  have h5 := h4.set1 i (s _ _ hil) 5 v5
  rw [List.set_set] at h5
  exact h5
theorem SPO.row (h : SPO w L v xs w1) : ∃ A c, v = .slice A xs.length c ∧ xs.length ≤ c ∧ Kd.C k26 w1 A xs.length xs := by
  obtain ⟨A, c, e, hle, hr⟩ := h.2.1.reads
  exact ⟨A, c, e, hle, hr.imp_ (Below.refl _ w1) (fun p cs hp => k26.K_below h.bel hp)⟩
theorem SPO.row1 {l : List V} {x : V} (h : SPO w L v (l ++ [x]) w1) : ∃ A c, v = .slice A (l.length + 1) c ∧ l.length + 1 ≤ c ∧ k26.K w1 ⟨5, 0, ⟨#[]⟩, l ++ [x], [], []⟩ [.int .i64 5, .int .i64 0, .string ⟨#[]⟩, .slice A (l.length + 1) c, .slice none 0 0, .slice none 0 0] := by
  obtain ⟨A, c, e, hle, hC⟩ := h.row
  have hl : l.length + 1 = (l ++ [x]).length := by simp
  rw [hl]
  exact ⟨A, c, e, hle, k26_mk w1 ⟨5, 0, ⟨#[]⟩, l ++ [x], [], []⟩ hle hC (Nat.le_refl _) (Kd.C_nil _ _) (Nat.le_refl _) (Kd.C_nil _ _)⟩
theorem SPO.spn (h : SPO w L v xs w1) : SPN w L w1 := h.1
theorem SPO.tk (n : Nat) (h : SPO w L v xs w1) : SPN w (L.take n) w1 := ⟨⟨h.1.1.1, fun p hp => h.1.1.2 p (List.mem_of_mem_take hp)⟩, h.1.2.1.sublist ((List.take_sublist n L).map _), fun p hp => h.1.2.2 p (List.mem_of_mem_take hp)⟩
/-- A list is appended to the owned row. -/
theorem SPO.app (h : SPO w L v xs w1) {A : Option Addr} {m c : Nat} (HR : ReadsRow (k26.K w) 6 w1 A m ys) (hl : (xs.length + m) * 104 ≤ 140737488355328) :
    ∃ v1 w2, (Builtin.append_ #[22, 22] 22 #[v, .slice A m c]).run Tryz.prog w1 = .ok v1 w2 ∧ SPO w L v1 (xs ++ ys) w2 := by
  obtain ⟨hS, ⟨inner, hown, hr⟩, hne⟩ := h
  obtain ⟨i0, hi, hzz⟩ := Option.map_eq_some_iff.1 info_val2
  simp only [Prod.mk.injEq] at hzz
  obtain ⟨hz0, hz1, hz2⟩ := hzz
  have ht := Tryz.underlying22
  have hm : ys.length = m := HR.1
  rcases A with _ | ad
  · have h0 : m = 0 := by
      rcases Nat.eq_zero_or_pos m with h0 | h0
      · exact h0
      · obtain ⟨ad, h, _⟩ := HR.2.2 h0
        cases h
    subst h0
    obtain rfl : ys = [] := List.eq_nil_of_length_eq_zero hm
    refine ⟨v, w1, ?_, by rw [List.append_nil]; exact ⟨hS, ⟨inner, hown, hr⟩, hne⟩⟩
    rcases hown.2 with ⟨rfl, hn⟩ | ⟨g, cap, cur, rfl, _, _, hnc, _⟩
    · simp [Builtin.append_, run_underlying ht, sizeOf, typeInfo, hi, Builtin.lenOf, Builtin.firstCells]
    · simp [Builtin.append_, run_underlying ht, sizeOf, typeInfo, hi, Builtin.lenOf, Builtin.firstCells, hnc, storeCells]
  · obtain ⟨news, hnr, hnc⟩ := ReadsRow.inner_ HR
    have hone : ∀ u ∈ news, u.oneCell' = true := by
      intro u hu
      obtain ⟨q, hq, rfl⟩ := List.mem_iff_getElem.1 hu
      have hql : q / 6 < ys.length := by
        rw [Nat.div_lt_iff_lt_mul (by omega), ← hnr.1]
        exact hq
      have hc := hnr.2 (q / 6) _ (List.getElem?_eq_getElem hql)
      refine k26.K_one hc _ ?_
      rw [List.mem_iff_getElem?]
      refine ⟨q % 6, ?_⟩
      rw [List.getElem?_take, if_pos (Nat.mod_lt _ (by omega)), List.getElem?_drop, Nat.mul_comm, Nat.div_add_mod, List.getElem?_eq_getElem hq]
    obtain ⟨v1, w2, hrun, h2, hg, _, hat⟩ := run_append_own_at (P := Tryz.prog) w1 w.heap.size 22 22 26 i0 _ 6 104 ht hi hz0 hz1 hz2 rfl (by decide) v xs.length inner hown ad m c news (by rw [hnr.1, hm]) hnc hone (by simp only [maxLen]; omega) hl hS.1.1.size
    have hbase : ∀ k, v.ownBlock = some k → w.heap.size ≤ k := by
      intro k hk
      rcases hown.2 with ⟨rfl, hn⟩ | ⟨g, cap, cur, rfl, hbg, _⟩
      · simp [Value.ownBlock] at hk
      · obtain rfl : g = k := by simpa [Value.ownBlock] using hk
        exact hbg
    have hown2 : OwnRow (k26.K w) 26 6 w2 w.heap.size v1 (xs ++ ys) := ⟨inner ++ news, by rw [List.length_append, hm]; exact h2, Kd.reps_append hr hnr⟩
    refine ⟨v1, w2, hrun, ⟨⟨hS.1.1.grown hg hS.1.1.size hbase, fun p hp => ?_⟩, hS.2⟩, hown2, fun k hk => ⟨own_lt h2 k hk, fun p hp e => ?_⟩⟩
    · rw [hg.block _ (lt_of_heap (hS.1.2 p hp)) (fun e => (hne p.1 e.symm).2 p hp rfl)]
      exact hS.1.2 p hp
    · rcases hat with hat | hat
      · rw [hat] at hk
        exact (hne k hk).2 p hp e
      · rw [hat] at hk
        have hlt := lt_of_heap (hS.1.2 p hp)
        injection hk with hk
        omega
/-- A block of one value, as a row. -/
theorem SPO.one (h : SPO w L v xs w1) (i : Nat) {g : Nat} {x : V} {c0 c1 c2 c3 c4 c5 : Value} (hi : L[i]? = some (g, #[c0, c1, c2, c3, c4, c5], 26)) (hK : k26.K w x [c0, c1, c2, c3, c4, c5]) :
    ReadsRow (k26.K w) 6 w1 (some ⟨g, 0, none⟩) 1 [x] := by
  have hg := h.get i hi
  refine ⟨rfl, by omega, fun _ => ⟨_, rfl, fun j p hj => ?_⟩⟩
  match j, hj with
  | 0, hj =>
    obtain rfl : x = p := by simpa using hj
    refine ⟨_, rfl, hK, fun i u hi => ?_⟩
    have hi6 : i < 6 := by have := (List.getElem?_eq_some_iff.1 hi).1; simpa using this
    have e : (⟨g, 0, none⟩ : Addr).add (0 * 6 + i) = ⟨g, i, none⟩ := by
      simp [Addr.add]
      intro h
      exact h.symm
    rw [e]
    simp only [World.cell?]
    have hg' : w1.heap[g]? = some (.cells #[c0, c1, c2, c3, c4, c5] 26 (0, 0)) := hg
    simp only [hg']
    simpa using hi
  | j + 1, hj => simp at hj
end
section
variable {P : Program} {ops : Array Oper} {Q : Exit → Act → World → Prop}
/-- A new block; a slice of one value; an empty slice; a value stored: steps of a region that draws. -/
theorem freshO_ {oi : Oper} {N : Option Tmp} {a : Act} {w w0 : World} {K : Act → World → Prop} {L : List (Nat × Array Value × TypeId)} {v : Value} {xs : List V} {c : Array Value} {t : TypeId} (hL : SPO w0 L v xs w) (hw : Region.wanted oi (yielded ops a.tmps) = true) (hN : oi.dst = N)
    (hrun : (execOp a.eval oi).run P w = .ok (.value (.pointer (some ⟨w.heap.size, 0, none⟩))) (w.alloc (.cells c t))) (h : ∀ R w1, SPO w0 (L ++ [(R, c, t)]) v xs w1 → K (a.put N (.pointer (some ⟨R, 0, none⟩))) w1) :
    if Region.wanted oi (yielded ops a.tmps) = true then Oper.wp P oi a w K Q else K (a.put N undef) w := value_ hw hN hrun (h _ _ (hL.more c t))
theorem slice0O_ {oi : Oper} {N : Option Tmp} {a : Act} {w w0 : World} {K : Act → World → Prop} {L : List (Nat × Array Value × TypeId)} (hL : SPN w0 L w) (hw : Region.wanted oi (yielded ops a.tmps) = true) (hN : oi.dst = N)
    (hrun : (execOp a.eval oi).run P w = .ok (.value (.slice (some ⟨w.heap.size, 0, none⟩) 0 0)) (w.alloc (.cells #[] 26))) (h : ∀ R w1, SPO w0 L (.slice (some ⟨R, 0, none⟩) 0 0) [] w1 → K (a.put N (.slice (some ⟨R, 0, none⟩) 0 0)) w1) :
    if Region.wanted oi (yielded ops a.tmps) = true then Oper.wp P oi a w K Q else K (a.put N undef) w := value_ hw hN hrun (h _ _ (SPO.lit0 hL))
theorem put6O_ {oi : Oper} {a : Act} {w w0 : World} {K : Act → World → Prop} {L : List (Nat × Array Value × TypeId)} {v : Value} {xs : List V} {R : Nat} {c0 c1 c2 c3 c4 c5 v0 v1 v2 v3 v4 v5 : Value} {t : TypeId} (hL : SPO w0 L v xs w) (i : Nat) (hi : L[i]? = some (R, #[c0, c1, c2, c3, c4, c5], t)) (hw : Region.wanted oi (yielded ops a.tmps) = true) (hN : oi.dst = none)
    (hrun : (execOp a.eval oi).run P w = .ok .skip ((((((w.setCell ⟨R, 0, none⟩ v0).setCell ⟨R, 1, none⟩ v1).setCell ⟨R, 2, none⟩ v2).setCell ⟨R, 3, none⟩ v3).setCell ⟨R, 4, none⟩ v4).setCell ⟨R, 5, none⟩ v5)) (h : ∀ w1, SPO w0 (L.set i (R, #[v0, v1, v2, v3, v4, v5], t)) v xs w1 → K a w1) :
    if Region.wanted oi (yielded ops a.tmps) = true then Oper.wp P oi a w K Q else K (a.put none undef) w := skip_ hw hN hrun (h _ (hL.six i hi v0 v1 v2 v3 v4 v5))
end
/-- A value's six cells; those of the zero value. -/
abbrev cz (K H : Int) (s : ByteArray) (A3 : Option Addr) (n3 c3 : Nat) (A4 : Option Addr) (n4 c4 : Nat) (A5 : Option Addr) (n5 c5 : Nat) : Array Value := #[.int .i64 K, .int .i64 H, .string s, .slice A3 n3 c3, .slice A4 n4 c4, .slice A5 n5 c5]
abbrev zq : Array Value := #[.int .i64 0, .int .i64 0, .string ⟨#[]⟩, .slice none 0 0, .slice none 0 0, .slice none 0 0]
end Go.Proofs.YtbnfeicpjmfooaaGreatDoor.ValA
