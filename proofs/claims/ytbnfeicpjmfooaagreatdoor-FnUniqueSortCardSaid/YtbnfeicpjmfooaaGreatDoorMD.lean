/-
Parts of the proof, one behind the other: SplA, FlatC.
-/
import Derived.Test.YtbnfeicpjmfooaaGreatDoorMB
import Derived.Test.YtbnfeicpjmfooaaGreatDoorMC
import Derived.Deep.RegionHeld3
/-
What laws over values lean on: sizes, blocks that stand in memory.
-/
set_option linter.unusedSimpArgs false
set_option linter.unusedVariables false
namespace Go.Proofs.YtbnfeicpjmfooaaGreatDoor.ValA
open Go.RowKit Go.Lib Go.Proofs.YtbnfeicpjmfooaaGreatDoorW.PrintWords Go.Proofs.YtbnfeicpjmfooaaGreatDoorW.PrintLast Go.Proofs.YtbnfeicpjmfooaaGreatDoorW.PrintMore Go.Proofs.YtbnfeicpjmfooaaGreatDoor.PzzFits1 Go.Proofs.YtbnfeicpjmfooaaGreatDoor.NumA
theorem fits2_ev (l : List ByteArray) (hl : l.length ≤ 9223372036854775807) : ∃ k r, laws_zzFits2.f k l = some r := by
  have loop : ∀ d (j : Nat), j + d = l.length → ∃ r, laws_zzFits2.l0 (d + 1) l l.length j = some r := by
    intro d
    induction d with
    | zero =>
      intro j hj
      exact ⟨true, by simp only [laws_zzFits2.l0]; rw [if_neg (by omega)]⟩
    | succ d ih =>
      intro j hj
      rw [laws_zzFits2.l0, if_pos (by omega), if_pos (by omega), if_pos (by omega)]
      by_cases c : ((rdOf ByteArray.empty l (j : Int)).size : Int) > 2147483647
      · exact ⟨false, by rw [if_pos c]⟩
      · rw [if_neg c]
        have hw : wrap64 ((j : Int) + 1) = ((j + 1 : Nat) : Int) := by unfold wrap64; omega
        rw [hw]
        exact ih (j + 1) (by omega)
  obtain ⟨r, hr⟩ := loop l.length 0 (by omega)
  by_cases c : (l.length : Int) > 2147483647
  · exact ⟨0, false, by unfold laws_zzFits2.f; rw [if_pos c]⟩
  · exact ⟨l.length + 1, r, by unfold laws_zzFits2.f; rw [if_neg c]; exact hr⟩
theorem fits1_any (w0 : World) (x : V) (K H : Int) (s : ByteArray) (A3 A4 A5 : Option Addr) (n3 c3 n4 c4 n5 c5 : Nat) (hK : k26.K w0 x [.int .i64 K, .int .i64 H, .string s, .slice A3 n3 c3, .slice A4 n4 c4, .slice A5 n5 c5]) (w : World) (hb : Below w0.heap.size w0 w) :
    Calls Tryz.prog 19 #[.agg #[.int .i64 K, .int .i64 H, .string s, .slice A3 n3 c3, .slice A4 n4 c4, .slice A5 n5 c5]] w (Says True w) := by
  obtain ⟨B3, e3, B4, e4, B5, e5, he, l3, g3, l4, g4, l5, g5⟩ := k26_open hK
  simp only [List.cons.injEq, Value.int.injEq, Value.string.injEq, Value.slice.injEq, true_and, and_true] at he
  obtain ⟨rfl, rfl, rfl, ⟨rfl, rfl, rfl⟩, ⟨rfl, rfl, rfl⟩, ⟨rfl, rfl, rfl⟩⟩ := he
  obtain ⟨k, r, hr⟩ := fits2_ev x.f4 g4.2.1
  have h1 : ∃ r1, laws_zzFits1.f k x.f0 x.f1 x.f2 x.f3 x.f4 x.f5 = some r1 := by
    unfold laws_zzFits1.f
    rw [hr]
    simp only [Option.bind_some]
    repeat (first | exact ⟨_, rfl⟩ | split)
  obtain ⟨r1, hr1⟩ := h1
  refine (laws_zzFits1.calls k x.f0 x.f1 x.f2 _ _ x.f3 _ _ x.f4 _ _ x.f5 r1 w (Kd.C_below g3 hb) l3 (Kd.C_below g4 hb) l4 (Kd.C_below g5 hb) l5 hr1).mono ?_
  rintro e w' ⟨rfl, hd⟩
  exact ⟨r1, rfl, fun _ => trivial, hd⟩
/-- What stands in memory: below as it was, and these blocks. -/
def SPL (w : World) (L : List (Nat × Array Value × TypeId)) (w' : World) : Prop := Below w.heap.size w w' ∧ ∀ p ∈ L, w'.heap[p.1]? = some (.cells p.2.1 p.2.2 (0, 0))
theorem SPL.below {w w1 w2 : World} {L : List (Nat × Array Value × TypeId)} (h : SPL w L w1) (hb : Below w1.heap.size w1 w2) : SPL w L w2 :=
  ⟨h.1.trans (hb.mono h.1.size), fun p hp => (hb.block p.1 (lt_of_heap (h.2 p hp))).trans (h.2 p hp)⟩
theorem SPL.drewN {w w1 : World} {L : List (Nat × Array Value × TypeId)} (h : SPL w L w1) (n : Nat) : SPL w L (w1.drewN n) := h.below (pw_below_drewN (Below.refl _ _) n)
theorem SPL.drew {w w1 : World} {L : List (Nat × Array Value × TypeId)} (h : SPL w L w1) : SPL w L w1.drew := h.drewN 1
theorem SPL.get {w w1 : World} {L : List (Nat × Array Value × TypeId)} (h : SPL w L w1) (i : Nat) {p : Nat × Array Value × TypeId} (hp : L[i]? = some p) : w1.heap[p.1]? = some (.cells p.2.1 p.2.2 (0, 0)) := h.2 p (List.mem_of_getElem? hp)
theorem SPL.nil (w : World) : SPL w [] w := ⟨Below.refl _ _, fun _ h => by cases h⟩
theorem SPL.more {w w1 : World} {L : List (Nat × Array Value × TypeId)} (h : SPL w L w1) (c : Array Value) (t : TypeId) : SPL w (L ++ [(w1.heap.size, c, t)]) (w1.alloc (.cells c t)) := by
  have hb : Below w1.heap.size w1 (w1.alloc (.cells c t)) := (Below.refl _ w1).alloc (Nat.le_refl _) _
  have h2 := h.below hb
  refine ⟨h2.1, fun p hp => ?_⟩
  rcases List.mem_append.1 hp with hp | hp
  · exact h2.2 p hp
  · obtain rfl := List.mem_singleton.1 hp
    exact heap_alloc_new w1 _
theorem SPL.box (w : World) (c : Array Value) (t : TypeId) : SPL w [(w.heap.size, c, t)] (w.alloc (.cells c t)) := (SPL.nil w).more c t
theorem size_alloc (w : World) (o : Obj) : (w.alloc o).heap.size = w.heap.size + 1 := World.size_alloc _ _
theorem run_val (c0 c1 c2 c3 c4 c5 c6 : Value) (W : World) : Sem.run Tryz.prog (Instr.field 30 (.agg #[c0, c1, c2, c3, c4, c5, c6]) 0) W = .ok (.agg #[c0, c1, c2, c3, c4, c5]) W := by kernel_rfl
attribute [local go_sem] run_val
theorem SPL.two (w : World) (c d : Array Value) (t u : TypeId) : SPL w [(w.heap.size, c, t), (w.heap.size + 1, d, u)] ((w.alloc (.cells c t)).alloc (.cells d u)) := by
  have h := (SPL.box w c t).more d u
  rw [size_alloc] at h
  exact h
theorem SPL.three (w : World) (c d e : Array Value) (t u v : TypeId) : SPL w [(w.heap.size, c, t), (w.heap.size + 1, d, u), (w.heap.size + 1 + 1, e, v)] (((w.alloc (.cells c t)).alloc (.cells d u)).alloc (.cells e v)) := by
  have h := (SPL.two w c d t u).more e v
  rw [size_alloc, size_alloc] at h
  exact h
/-- And no two blocks are one, and all are new. -/
def SPN (w : World) (L : List (Nat × Array Value × TypeId)) (w' : World) : Prop := SPL w L w' ∧ (L.map (·.1)).Nodup ∧ ∀ p ∈ L, w.heap.size ≤ p.1
theorem SPN.below {w w1 w2 : World} {L : List (Nat × Array Value × TypeId)} (h : SPN w L w1) (hb : Below w1.heap.size w1 w2) : SPN w L w2 := ⟨h.1.below hb, h.2⟩
theorem SPN.drew {w w1 : World} {L : List (Nat × Array Value × TypeId)} (h : SPN w L w1) : SPN w L w1.drew := ⟨h.1.drew, h.2⟩
theorem SPN.more {w w1 : World} {L : List (Nat × Array Value × TypeId)} (h : SPN w L w1) (c : Array Value) (t : TypeId) : SPN w (L ++ [(w1.heap.size, c, t)]) (w1.alloc (.cells c t)) := by
  refine ⟨h.1.more c t, ?_, ?_⟩
  · rw [List.map_append, List.nodup_append]
    refine ⟨h.2.1, by simp, ?_⟩
    intro a ha b hb
    obtain ⟨p, hp, rfl⟩ := List.mem_map.1 ha
    have := lt_of_heap (h.1.2 p hp)
    simp at hb
    omega
  · intro p hp
    rcases List.mem_append.1 hp with hp | hp
    · exact h.2.2 p hp
    · obtain rfl := List.mem_singleton.1 hp
      exact h.1.1.size
theorem SPN.swap {w w1 : World} {a b c x y : Nat × Array Value × TypeId} (h : SPN w [a, b, c, x, y] w1) : SPN w [a, b, c, y, x] w1 := by
  have hs : ∀ p ∈ [a, b, c, y, x], p ∈ [a, b, c, x, y] := fun p hp => by
    simp at hp ⊢
    rcases hp with h | h | h | h | h <;> simp [h]
  refine ⟨⟨h.1.1, fun p hp => h.1.2 p (hs p hp)⟩, ?_, fun p hp => h.2.2 p (hs p hp)⟩
  have := h.2.1
  simp at this ⊢
  omega
theorem SPN.put {w w1 : World} {L : List (Nat × Array Value × TypeId)} (h : SPN w L w1) (i : Nat) {R : Nat} {c0 c1 c2 c3 c4 c5 c6 : Value} {t : TypeId} (hi : L[i]? = some (R, #[c0, c1, c2, c3, c4, c5, c6], t)) (v0 v1 v2 v3 v4 v5 v6 : Value) :
    SPN w (L.set i (R, #[v0, v1, v2, v3, v4, v5, v6], t)) (((((((w1.setCell ⟨R, 0, none⟩ v0).setCell ⟨R, 1, none⟩ v1).setCell ⟨R, 2, none⟩ v2).setCell ⟨R, 3, none⟩ v3).setCell ⟨R, 4, none⟩ v4).setCell ⟨R, 5, none⟩ v5).setCell ⟨R, 6, none⟩ v6) := by
  have hm := List.mem_of_getElem? hi
  have hR := h.2.2 _ hm
  have hset := sev_set (h.1.2 _ hm) v0 v1 v2 v3 v4 v5 v6
  have hgr := sev_grown w1 R v0 v1 v2 v3 v4 v5 v6
  have hil : i < L.length := (List.getElem?_eq_some_iff.1 hi).1
  have hmap : (L.set i (R, #[v0, v1, v2, v3, v4, v5, v6], t)).map (·.1) = L.map (·.1) := by
    rw [List.map_set]
    apply List.ext_getElem?
    intro j
    rw [List.getElem?_set]
    split
    · rename_i he
      subst he
      rw [List.getElem?_map, hi]
      simp [hil]
    · rfl
  refine ⟨⟨h.1.1.grown hgr h.1.1.size (fun k hk => by cases hk; exact hR), ?_⟩, by rw [hmap]; exact h.2.1, ?_⟩
  · intro p hp
    obtain ⟨j, hj⟩ := List.getElem?_of_mem hp
    rw [List.getElem?_set] at hj
    split at hj
    · rename_i he
      simp [hil] at hj
      obtain rfl := hj
      exact hset
    · rename_i hne
      have hpL := List.mem_of_getElem? hj
      have hd : p.1 ≠ R := fun e => by
        have hl := (List.getElem?_eq_some_iff.1 hj).1
        have h1 : (L.map (·.1))[i]? = some R := by rw [List.getElem?_map, hi]; rfl
        have h2 : (L.map (·.1))[j]? = some R := by rw [List.getElem?_map, hj]; simp [e]
        exact hne ((List.getElem?_inj (by simpa using hil) h.2.1).1 (h1.trans h2.symm))
      exact (hgr.block _ (lt_of_heap (h.1.2 p hpL)) (fun e => hd (by cases e; rfl))).trans (h.1.2 p hpL)
  · intro p hp
    have : p.1 ∈ L.map (·.1) := by rw [← hmap]; exact List.mem_map_of_mem hp
    obtain ⟨q, hq, e⟩ := List.mem_map.1 this
    rw [← e]; exact h.2.2 q hq
section
variable {P : Program} {ops : Array Oper} {Q : Exit → Act → World → Prop}
end
theorem SPL.bel {w w1 : World} {L : List (Nat × Array Value × TypeId)} (h : SPL w L w1) : Below w.heap.size w w1 := h.1
end Go.Proofs.YtbnfeicpjmfooaaGreatDoor.ValA
/-
The order and sameness of flat values; the laws' yes and no.
-/
set_option linter.unusedSimpArgs false
set_option linter.unusedVariables false
namespace Go.Proofs.YtbnfeicpjmfooaaGreatDoor.NumA
open Go.RowKit Go.Lib Go.Proofs.YtbnfeicpjmfooaaGreatDoor.ValA Go.Proofs.YtbnfeicpjmfooaaGreatDoor.FloH Go.Proofs.YtbnfeicpjmfooaaGreatDoorW.PrintWords Go.Proofs.YtbnfeicpjmfooaaGreatDoorW.PrintLast Go.Proofs.YtbnfeicpjmfooaaGreatDoorW.PrintMore
theorem bless_irrefl : ∀ l : List UInt8, Op.bytesLess l l = false
  | [] => rfl
  | a :: l => by
    have := bless_irrefl l
    simp [Op.bytesLess, this]
/-- The order of two strings. -/
def tx (s t : ByteArray) : Int := if s.toList = t.toList then 0 else if Op.bytesLess s.toList t.toList = true then -1 else 1
theorem tx_zero (s t : ByteArray) : (tx s t == 0) = decide (s = t) := by
  have e : s = t ↔ s.toList = t.toList := ⟨fun h => by rw [h], fun h => by
    rw [Lib.toList_data, Lib.toList_data] at h
    exact Go.WideShapes.bytes_inj h⟩
  rw [Bool.eq_iff_iff, beq_iff_eq, decide_eq_true_eq, e]
  unfold tx
  by_cases c : s.toList = t.toList
  · simp [c]
  · rw [if_neg c]
    by_cases d : Op.bytesLess s.toList t.toList = true
    · rw [if_pos d]; simp [c]
    · rw [if_neg d]; simp [c]
theorem texts_any (s t : ByteArray) (w : World) : Calls Tryz.prog 54 #[.string s, .string t] w fun e w' => e = .returned (.int .i64 (tx s t)) ∧ w = w' := by
  unfold tx
  by_cases c : s.toList = t.toList
  · rw [if_pos c]
    have h1 : Op.bytesLess s.toList t.toList = false := by rw [c]; exact bless_irrefl _
    have h2 : (!(Op.bytesLess s.toList t.toList || s.toList == t.toList)) = false := by rw [c]; simp
    have h3 : (!(s.toList == t.toList)) = false := by rw [c]; simp
    clear c
    go_enter Tryz.func54, Tryz.ntmps54
    go_wp2_with fail
    go_ret
    exact ⟨rfl, rfl⟩
  · rw [if_neg c]
    by_cases d : Op.bytesLess s.toList t.toList = true
    · rw [if_pos d]
      clear c
      go_enter Tryz.func54, Tryz.ntmps54
      go_wp2_with fail
      go_ret
      exact ⟨rfl, rfl⟩
    · rw [if_neg d]
      have h1 : Op.bytesLess s.toList t.toList = false := by simpa using d
      have h2 : (!(Op.bytesLess s.toList t.toList || s.toList == t.toList)) = true := by rw [h1]; simp [c]
      have h3 : (!(s.toList == t.toList)) = true := by simp [c]
      clear c d
      go_enter Tryz.func54, Tryz.ntmps54
      go_wp2_with fail
      go_ret
      exact ⟨rfl, rfl⟩
theorem cmp_k0 (h k : Int) (r r' : Rest) (w : World) :
    Calls Tryz.prog 21 #[vl 0 h r, vl 0 k r'] w fun e w' => e = .returned (.int .i64 0) ∧ Below w.heap.size w w' := by
  obtain ⟨s, a, l, c, a1, l1, c1, a2, l2, c2⟩ := r
  obtain ⟨s', a', l', c', a1', l1', c1', a2', l2', c2'⟩ := r'
  simp only [vl]
  go_enter Tryz.func21, Tryz.ntmps21
  go_wp2_with fail
  go_ret
  exact ⟨rfl, ((Below.refl _ w).alloc (Nat.le_refl _) _).alloc (by simp) _⟩
theorem cmp_k1 (h k : Int) (r r' : Rest) (w : World) :
    Calls Tryz.prog 21 #[vl 1 h r, vl 1 k r'] w fun e w' => e = .returned (.int .i64 0) ∧ Below w.heap.size w w' := by
  obtain ⟨s, a, l, c, a1, l1, c1, a2, l2, c2⟩ := r
  obtain ⟨s', a', l', c', a1', l1', c1', a2', l2', c2'⟩ := r'
  simp only [vl]
  go_enter Tryz.func21, Tryz.ntmps21
  go_wp2_with fail
  go_ret
  exact ⟨rfl, ((Below.refl _ w).alloc (Nat.le_refl _) _).alloc (by simp) _⟩
theorem cmp_k2 (h k : Int) (r r' : Rest) (w : World) :
    Calls Tryz.prog 21 #[vl 2 h r, vl 2 k r'] w fun e w' => e = .returned (.int .i64 0) ∧ Below w.heap.size w w' := by
  obtain ⟨s, a, l, c, a1, l1, c1, a2, l2, c2⟩ := r
  obtain ⟨s', a', l', c', a1', l1', c1', a2', l2', c2'⟩ := r'
  simp only [vl]
  go_enter Tryz.func21, Tryz.ntmps21
  go_wp2_with fail
  go_ret
  exact ⟨rfl, ((Below.refl _ w).alloc (Nat.le_refl _) _).alloc (by simp) _⟩
theorem cmp_k4 (h k : Int) (r r' : Rest) (w : World) :
    Calls Tryz.prog 21 #[vl 4 h r, vl 4 k r'] w fun e w' => e = .returned (.int .i64 (tx r.s r'.s)) ∧ Below w.heap.size w w' := by
  obtain ⟨s, a, l, c, a1, l1, c1, a2, l2, c2⟩ := r
  obtain ⟨s', a', l', c', a1', l1', c1', a2', l2', c2'⟩ := r'
  simp only [vl]
  go_enter Tryz.func21, Tryz.ntmps21
  go_wp2_with fail
  refine (texts_any _ _ _).mono ?_
  rintro e w1 ⟨rfl, rfl⟩
  go_wp2_with fail
  go_ret
  exact ⟨rfl, ((Below.refl _ w).alloc (Nat.le_refl _) _).alloc (by simp) _⟩
end Go.Proofs.YtbnfeicpjmfooaaGreatDoor.NumA
