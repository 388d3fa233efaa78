/-
impl.mapFromGo: its plain part.
-/
import Derived.Test.YtdcgjfiknknjfaaGreatDoorFrB
set_option linter.unusedSimpArgs false
set_option linter.unusedVariables false
namespace Go.Proofs.YtdcgjfiknknjfaaGreatDoor.NumA
open Go.RowKit Go.Lib Go.Proofs.YtdcgjfiknknjfaaGreatDoor.ValA Go.Proofs.YtdcgjfiknknjfaaGreatDoor.FloH Go.Proofs.YtdcgjfiknknjfaaGreatDoorW.PrintWords Go.Proofs.YtdcgjfiknknjfaaGreatDoorW.PrintLast Go.Proofs.YtdcgjfiknknjfaaGreatDoorW.PrintMore Go.Proofs.YtdcgjfiknknjfaaGreatDoor.PzzFits1
theorem R_run_at {α : Type} {P : Program} (d : Kd α) {W : World} (base : Nat) (t ty e : TypeId) (z : Value) (bytes : Nat)
    (ht : P.underlying t = some (.slice e)) (hinfo : (P.info? e).map (fun i => (i.zero, i.size, i.bytes)) = some (some z, d.sz, bytes)) (hz : z.cells.size = d.sz) (hs0 : 0 < d.sz) (hb0 : 0 < bytes)
    (v : Value) (xs : List α) (p : α) (cs : List Value) (ok okp : Nat → Prop) (g : Nat) (hbox : W.heap[g]? = some (.cells cs.toArray e (0, 0))) (hp : d.M W base okp p cs) (hokp : ∀ k, okp k → ok k ∧ some k ≠ v.ownBlock) (hfresh : ∀ k, W.heap.size ≤ k → ok k)
    (HO : d.R e W base ok v xs) (hbase : base ≤ W.heap.size) (hl : (xs.length + 1) * bytes ≤ 140737488355328) :
    ∃ v1 w1, (Builtin.append_ #[t, t] ty #[v, .slice (some ⟨g, 0, none⟩) 1 1]).run P W = .ok v1 w1 ∧ d.R e w1 base ok v1 (xs ++ [p]) ∧ W.grownBy w1 v.ownBlock ∧ (v1.ownBlock = v.ownBlock ∨ ∃ b, v1.ownBlock = some b ∧ W.heap.size ≤ b) := by
  obtain ⟨h0, inner, hown, hr⟩ := HO
  obtain ⟨i0, hi, hzz⟩ := Option.map_eq_some_iff.1 hinfo
  simp only [Prod.mk.injEq] at hzz
  obtain ⟨hz0, hz1, hz2⟩ := hzz
  have hlen : xs.length + 1 ≤ 140737488355328 := Nat.le_trans (Nat.le_mul_of_pos_right _ hb0) hl
  have hcl := d.K_len (d.K_of_M hp)
  obtain ⟨v1, w1, hrun, hown1, hg, _, hat⟩ := run_append_own_at (P := P) W base t ty e i0 z d.sz bytes ht hi hz0 hz1 hz2 hz hs0 v xs.length inner hown ⟨g, 0, none⟩ 1 1 cs (by rw [hcl, Nat.one_mul])
    (by simpa using World.news_of_block (cs := cs.toArray) (t := e) (fr := (0, 0)) hbox) (d.K_one (d.K_of_M hp)) (by simp only [maxLen]; omega) hl hbase
  have hat' : v1.ownBlock = v.ownBlock ∨ ∃ b, v1.ownBlock = some b ∧ W.heap.size ≤ b := by
    rcases hat with hat | hat
    · exact .inl hat
    · exact .inr ⟨_, hat, Nat.le_refl _⟩
  exact ⟨v1, w1, hrun, Kd.R_appended h0 hr hp hokp hfresh hown1 hg hat', hg, hat'⟩
/-- A list of keys of the call's own. -/
def KR (w : World) (base : Nat) (ks : Value) (l : List ByteArray) : Prop := Kd.string.R 9 w base (fun k => some k = ks.ownBlock) ks l
/-- A list of values of the call's own, apart from ks. -/
def VR (w : World) (base : Nat) (ks vs : Value) (f : List V) : Prop := k26.R 26 w base (fun k => base ≤ k ∧ some k ≠ ks.ownBlock) vs f
theorem KR.own {w : World} {base : Nat} {ks : Value} {l : List ByteArray} (h : KR w base ks l) : w.ownsRow base 9 1 ks l.length (encs Value.string l) := Kd.own_of_R h
theorem KR.of {w : World} {base : Nat} {ks : Value} {l : List ByteArray} {ok : Nat → Prop} (h : Kd.string.R 9 w base ok ks l) : KR w base ks l := Kd.R_of_own (Kd.own_of_R h) (fun k hk => hk.symm)
/-- What lay between w's end, two blocks on, and w2's end lies there still. -/
def KF (w w2 w' : World) : Prop := w2.heap.size ≤ w'.heap.size ∧ ∀ k, w.heap.size + 2 ≤ k → k < w2.heap.size → w'.heap[k]? = w2.heap[k]?
theorem KF.up {w w2 w' w'' : World} (h : KF w w2 w') (hb : Below w'.heap.size w' w'') : KF w w2 w'' := ⟨Nat.le_trans h.1 hb.size, fun k h1 h2 => (hb.block k (Nat.lt_of_lt_of_le h2 h.1)).trans (h.2 k h1 h2)⟩
theorem KF.grown {w w2 w' w'' : World} {row : Option Nat} (h : KF w w2 w') (hg : w'.grownBy w'' row) (hr : ∀ k, row = some k → k < w.heap.size + 2 ∨ w2.heap.size ≤ k) : KF w w2 w'' :=
  ⟨Nat.le_trans h.1 hg.size, fun k h1 h2 => (hg.block k (Nat.lt_of_lt_of_le h2 h.1) (fun e => by have := hr k e.symm; omega)).trans (h.2 k h1 h2)⟩
/-- What stands in mapFromGo's round while a key and its value are appended. -/
structure MQ (w w2 : World) (Vb : Nat) (ks vs : Value) (cs : List Value) (l : List ByteArray) (f5 : List V) (j s0 : Nat) (kb vb : Option Nat) (ks1 : Value) (nk : Nat) (w' : World) : Prop where
  b : Below w.heap.size w w'
  kf : KF w w2 w'
  hw : w.heap.size + 2 ≤ w2.heap.size
  r : w'.heap[w.heap.size]? = some (.cells #[.int .i64 0, .int .i64 0, .string ⟨#[]⟩, .slice none 0 0, .slice none 0 0, .slice none 0 0] 26 (0, 0))
  o : w'.heap[w.heap.size + 1]? = some (.cells #[.int .i64 6, .int .i64 0, .string ⟨#[]⟩, .slice none 0 0, ks, vs] 26 (0, 0))
  v : w'.heap[Vb]? = some (.cells cs.toArray 26 (0, 0))
  s : w2.heap.size ≤ s0
  sv : ∀ k, vs.ownBlock = some k → k < s0
  kr : KR w' w2.heap.size ks1 (l.take nk)
  vr : VR w' w2.heap.size ks1 vs (f5.take j)
  m : k26.M w' w2.heap.size (fun k => s0 ≤ k ∧ some k ≠ ks1.ownBlock) (rd_T26 f5 j) cs
  kx : ∀ b, kb = some b → w'.heap[b]? = some (.cells #[.string (rdOf ByteArray.empty l j)] 9 (0, 0))
  vx : ∀ b, vb = some b → w'.heap[b]? = some (.cells cs.toArray 26 (0, 0))
theorem MQ.up {w w2 : World} {Vb : Nat} {ks vs : Value} {cs : List Value} {l : List ByteArray} {f5 : List V} {j s0 : Nat} {kb vb : Option Nat} {ks1 : Value} {nk : Nat} {w' w'' : World} (h : MQ w w2 Vb ks vs cs l f5 j s0 kb vb ks1 nk w') (hb : Below w'.heap.size w' w'') : MQ w w2 Vb ks vs cs l f5 j s0 kb vb ks1 nk w'' where
  b := h.b.trans (hb.mono h.b.size)
  kf := h.kf.up hb
  hw := h.hw
  r := (hb.block _ (lt_of_heap h.r)).trans h.r
  o := (hb.block _ (lt_of_heap h.o)).trans h.o
  v := (hb.block _ (lt_of_heap h.v)).trans h.v
  s := h.s
  sv := h.sv
  kr := Kd.R_below h.kr hb
  vr := Kd.R_below h.vr hb
  m := Kd.M_below h.m hb
  kx := fun b e => (hb.block _ (lt_of_heap (h.kx b e))).trans (h.kx b e)
  vx := fun b e => (hb.block _ (lt_of_heap (h.vx b e))).trans (h.vx b e)
theorem MQ.b3 {w w2 : World} {Vb : Nat} {ks vs : Value} {cs : List Value} {l : List ByteArray} {f5 : List V} {j s0 : Nat} {kb vb : Option Nat} {ks1 : Value} {nk : Nat} {w' : World} (h : MQ w w2 Vb ks vs cs l f5 j s0 kb vb ks1 nk w') : MQ w w2 Vb ks vs cs l f5 j s0 (some w'.heap.size) vb ks1 nk (w'.alloc (.cells #[.string (rdOf ByteArray.empty l j)] 9)) :=
  { h.up ((Below.refl _ w').alloc (Nat.le_refl _) (.cells #[.string (rdOf ByteArray.empty l j)] 9)) with kx := fun b e => by cases e; exact (MapKept.heap_alloc w' _).1 }
theorem MQ.b8 {w w2 : World} {Vb : Nat} {ks vs : Value} {cs : List Value} {l : List ByteArray} {f5 : List V} {j s0 : Nat} {kb vb : Option Nat} {ks1 : Value} {nk : Nat} {w' : World} (h : MQ w w2 Vb ks vs cs l f5 j s0 kb vb ks1 nk w') : MQ w w2 Vb ks vs cs l f5 j s0 kb (some w'.heap.size) ks1 nk (w'.alloc (.cells cs.toArray 26)) :=
  { h.up ((Below.refl _ w').alloc (Nat.le_refl _) (.cells cs.toArray 26)) with vx := fun b e => by cases e; exact (MapKept.heap_alloc w' _).1 }
theorem info_strk : (Tryz.prog.info? 9).map (fun i => (i.zero, i.size, i.bytes)) = some (some (.string ⟨#[]⟩), 1, 16) := by kernel_rfl
theorem MQ.a4 {w w2 : World} {Vb : Nat} {ks vs : Value} {cs : List Value} {l : List ByteArray} {f5 : List V} {j s0 kb : Nat} {vb : Option Nat} {w' : World} (h : MQ w w2 Vb ks vs cs l f5 j s0 (some kb) vb ks j w') (hj : j < l.length) (hn : l.length ≤ 400) :
    ∃ (A : Option Addr) (m c : Nat) (w1 : World), (Builtin.append_ #[24, 24] 24 #[ks, .slice (some ⟨kb, 0, none⟩) 1 1]).run Tryz.prog w' = .ok (.slice A m c) w1 ∧ MQ w w2 Vb ks vs cs l f5 j s0 none vb (.slice A m c) (j + 1) w1 := by
  have hsz : w2.heap.size ≤ w'.heap.size := h.kf.1
  have hw := h.hw
  obtain ⟨v1, w1, hrun, hR, hg, hat⟩ := R_run_at (P := Tryz.prog) Kd.string (W := w') w2.heap.size 24 24 9 _ 16 Tryz.underlying24 info_strk rfl (by decide) (by decide) ks (l.take j) (rdOf ByteArray.empty l j) [.string (rdOf ByteArray.empty l j)] (fun _ => True) (fun _ => False) kb (h.kx kb rfl) rfl (fun _ hk => hk.elim) (fun _ _ => trivial)
    (Kd.R_mono h.kr (fun _ _ => trivial)) hsz (by rw [List.length_take]; omega)
  have e1 : l.take j ++ [rdOf ByteArray.empty l j] = l.take (j + 1) := by
    rw [List.take_add_one, key_rd l j hj]
    rfl
  rw [e1] at hR
  have hbl := own_base h.kr.own
  have hlt := own_lt h.kr.own
  have hne : ∀ {g : Nat} {c : Array Value}, w'.heap[g]? = some (.cells c 26 (0, 0)) → some g ≠ ks.ownBlock := fun hgc => own_ne h.kr.own hgc (by decide)
  have hnk : ∀ k, k < w'.heap.size → some k ≠ ks.ownBlock → some k ≠ v1.ownBlock := fun k hk h1 => by
    rcases hat with e | ⟨b, e, hb⟩
    · rw [e]; exact h1
    · rw [e]; intro e2; cases e2; omega
  obtain ⟨A, c, rfl⟩ := Kd.R_slice hR
  refine ⟨A, _, c, w1, hrun, ⟨h.b.grown hg h.b.size (fun k hk => by have := hbl k hk; omega), h.kf.grown hg (fun k hk => .inr (hbl k hk)), h.hw, (hg.block _ (lt_of_heap h.r) (hne h.r)).trans h.r, (hg.block _ (lt_of_heap h.o) (hne h.o)).trans h.o, (hg.block _ (lt_of_heap h.v) (hne h.v)).trans h.v, h.s, h.sv, KR.of hR, ?_, ?_, fun b e => by (cases e), fun b e => (hg.block _ (lt_of_heap (h.vx b e)) (hne (h.vx b e))).trans (h.vx b e)⟩⟩
  · have h1 := Kd.R_bound h.vr
    have h2 := Kd.R_grown h1 hg (fun k hk => hk.1.2)
    exact Kd.R_mono h2 (fun k hk => ⟨hk.1.1, hnk k hk.2.2.1 hk.1.2⟩)
  · have h1 := k26.M_bound h.m
    have h2 := Kd.M_grown h1 hg (fun k hk => hk.1.2)
    exact k26.M_mono (fun k hk => ⟨hk.1.1, hnk k hk.2.2.1 hk.1.2⟩) h2
/-- What is left behind both appends. -/
structure MR (w w2 : World) (ks vs ks1 vs1 : Value) (l : List ByteArray) (f5 : List V) (j : Nat) (w' : World) : Prop where
  b : Below w.heap.size w w'
  kf : KF w w2 w'
  hw : w.heap.size + 2 ≤ w2.heap.size
  r : w'.heap[w.heap.size]? = some (.cells #[.int .i64 0, .int .i64 0, .string ⟨#[]⟩, .slice none 0 0, .slice none 0 0, .slice none 0 0] 26 (0, 0))
  o : w'.heap[w.heap.size + 1]? = some (.cells #[.int .i64 6, .int .i64 0, .string ⟨#[]⟩, .slice none 0 0, ks, vs] 26 (0, 0))
  kr : KR w' w2.heap.size ks1 (l.take j)
  vr : VR w' w2.heap.size ks1 vs1 (f5.take j)
theorem MQ.a9 {w w2 : World} {Vb : Nat} {ks vs : Value} {cs : List Value} {l : List ByteArray} {f5 : List V} {j s0 vb : Nat} {ks1 : Value} {w' : World} (h : MQ w w2 Vb ks vs cs l f5 j s0 none (some vb) ks1 (j + 1) w') (hj : j < f5.length) (hn : f5.length ≤ 400) :
    ∃ (A : Option Addr) (m c : Nat) (w1 : World), (Builtin.append_ #[23, 23] 23 #[vs, .slice (some ⟨vb, 0, none⟩) 1 1]).run Tryz.prog w' = .ok (.slice A m c) w1 ∧ MR w w2 ks vs ks1 (.slice A m c) l f5 (j + 1) w1 := by
  have hsz : w2.heap.size ≤ w'.heap.size := h.kf.1
  have hw := h.hw
  have hkl := own_lt h.kr.own
  obtain ⟨v1, w1, hrun, hR, hg, hat⟩ := R_run_at (P := Tryz.prog) k26 (W := w') w2.heap.size 23 23 26 _ 104 Tryz.underlying23 info_val rfl (by decide) (by decide) vs (f5.take j) (rd_T26 f5 j) cs (fun k => w2.heap.size ≤ k ∧ some k ≠ ks1.ownBlock) (fun k => s0 ≤ k ∧ some k ≠ ks1.ownBlock) vb (h.vx vb rfl) h.m
    (fun k hk => ⟨⟨Nat.le_trans h.s hk.1, hk.2⟩, fun e => by have := h.sv k e.symm; omega⟩) (fun k hk => ⟨by omega, fun e => by have := hkl k e.symm; omega⟩) h.vr hsz (by rw [List.length_take]; omega)
  have e1 : f5.take j ++ [rd_T26 f5 j] = f5.take (j + 1) := by
    rw [List.take_add_one, rd_at f5 j hj]
    rfl
  rw [e1] at hR
  obtain ⟨A, c, rfl⟩ := Kd.R_slice hR
  have hbl : ∀ k, vs.ownBlock = some k → w2.heap.size ≤ k := fun k hk => (h.vr.1 k hk).1
  refine ⟨A, _, c, w1, hrun, ⟨h.b.grown hg h.b.size (fun k hk => by have := hbl k hk; omega), h.kf.grown hg (fun k hk => .inr (hbl k hk)), h.hw, (hg.block _ (lt_of_heap h.r) (fun e => by have := hbl _ e.symm; omega)).trans h.r, (hg.block _ (lt_of_heap h.o) (fun e => by have := hbl _ e.symm; omega)).trans h.o, ?_, hR⟩⟩
  exact Kd.R_grown h.kr hg (fun k hk e => (h.vr.1 k e.symm).2 hk)
theorem MR.put {w w2 : World} {ks vs ks1 vs1 : Value} {l : List ByteArray} {f5 : List V} {j : Nat} {w' : World} (h : MR w w2 ks vs ks1 vs1 l f5 j w') : MR w w2 ks1 vs1 ks1 vs1 l f5 j ((w'.setCell ⟨w.heap.size + 1, 4, none⟩ ks1).setCell ⟨w.heap.size + 1, 5, none⟩ vs1) := by
  have hgr : w'.grownBy ((w'.setCell ⟨w.heap.size + 1, 4, none⟩ ks1).setCell ⟨w.heap.size + 1, 5, none⟩ vs1) (some (w.heap.size + 1)) := grown_set (grown_set (World.grownBy.refl w' _) 4 _) 5 _
  have hkb := own_base h.kr.own
  have hw := h.hw
  have hsz2 := h.kf.1
  refine ⟨h.b.grown hgr h.b.size (fun k hk => by cases hk; omega), h.kf.grown hgr (fun k hk => by cases hk; left; omega), h.hw, (hgr.block _ (lt_of_heap h.r) (by simp)).trans h.r, ?_, Kd.R_grown h.kr hgr (fun k hk e => by cases e; have := hkb _ hk.symm; omega), Kd.R_grown h.vr hgr (fun k hk e => by cases e; have := hk.1; omega)⟩
  rw [heap_set (heap_set h.o 4 _) 5 _]
  rfl
theorem MQ.drewq {w w2 : World} {Vb : Nat} {ks vs : Value} {cs : List Value} {l : List ByteArray} {f5 : List V} {j s0 : Nat} {kb vb : Option Nat} {ks1 : Value} {nk : Nat} {w' : World} (h : MQ w w2 Vb ks vs cs l f5 j s0 kb vb ks1 nk w') : MQ w w2 Vb ks vs cs l f5 j s0 kb vb ks1 nk w'.drew := h.up ((Below.refl _ _).drew)
theorem mq_start {w w2 wr w4 : World} {ks vs : Value} {cs : List Value} {l : List ByteArray} {f5 : List V} {j : Nat} (h : MR w w2 ks vs ks vs l f5 j wr) (hb4 : Below wr.heap.size wr w4) (hM : k26.M w4 wr.heap.size (fun k => wr.heap.size ≤ k) (rd_T26 f5 j) cs) :
    MQ w w2 w4.heap.size ks vs cs l f5 j wr.heap.size none none ks j (w4.alloc (.cells cs.toArray 26)) := by
  have hb5 : Below wr.heap.size wr (w4.alloc (.cells cs.toArray 26)) := hb4.alloc hb4.size _
  have hkl := own_lt h.kr.own
  have hvl := own_lt_R h.vr
  exact ⟨h.b.trans (hb5.mono h.b.size), h.kf.up hb5, h.hw, (hb5.block _ (lt_of_heap h.r)).trans h.r, (hb5.block _ (lt_of_heap h.o)).trans h.o, (MapKept.heap_alloc w4 _).1, h.kf.1, hvl, Kd.R_below h.kr hb5, Kd.R_below h.vr hb5,
    k26.M_mono (fun k hk => ⟨hk, fun e => by have := hkl k e.symm; have : wr.heap.size ≤ k := hk; omega⟩) (Kd.M_below (k26.M_lower h.kf.1 hM) ((Below.refl _ w4).alloc (Nat.le_refl _) _)), fun b e => (by cases e), fun b e => (by cases e)⟩
end Go.Proofs.YtdcgjfiknknjfaaGreatDoor.NumA
