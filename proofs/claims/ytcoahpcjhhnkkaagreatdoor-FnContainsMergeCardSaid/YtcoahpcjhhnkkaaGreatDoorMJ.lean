/-
Parts of the proof, one behind the other: AddC, CopyV, AddD, AddE, AddF, SumS.
-/
import Derived.Test.YtcoahpcjhhnkkaaGreatDoorMI
import Derived.Laws.CopyRow
import Derived.Laws.CopyOwn
import Derived.Laws.Concat
import Derived.Shelf.SlMaps.Copy
import Derived.Test.YtcoahpcjhhnkkaaGreatDoorProg
import Derived.Test.YtcoahpcjhhnkkaaGreatDoorMH
/-
Sums of two strings, of two arrays.
-/
set_option linter.unusedSimpArgs false
set_option linter.unusedVariables false
namespace Go.Proofs.YtcoahpcjhhnkkaaGreatDoor.NumA
open Go.RowKit Go.Lib Go.Proofs.YtcoahpcjhhnkkaaGreatDoor.ValA Go.Proofs.YtcoahpcjhhnkkaaGreatDoor.FloH Go.Proofs.YtcoahpcjhhnkkaaGreatDoorW.PrintWords Go.Proofs.YtcoahpcjhhnkkaaGreatDoorW.PrintLast Go.Proofs.YtcoahpcjhhnkkaaGreatDoorW.PrintMore Go.Proofs.YtcoahpcjhhnkkaaGreatDoor.PzzFits1
set_option maxRecDepth 100000 in
set_option maxHeartbeats 4000000 in
theorem bin_add_ss (Q : Ending → World → Prop) (s t : ByteArray) (w : World) (HC : Calls Tryz.prog 124 #[.string s, .string t] w fun e w' => ∃ v, e = .returned v ∧ Q e w') :
    Calls Tryz.prog 106 #[.iface 9 (.string s), .iface 9 (.string t), Value.func (Fn.func 120) #[] #[], Value.func (Fn.func 122) #[] #[], Value.func (Fn.func 123) #[] #[], Value.func (Fn.func 124) #[] #[], Value.func (Fn.func 125) #[] #[], Value.func (Fn.func 126) #[] #[], Value.func (Fn.func 127) #[] #[]] w fun e w' => ∃ v, e = .returned v ∧ Q e w' := by
  have H := Lib.hid HC
  clear HC
  have faJ := fun w => qSJ (.string s) w
  have faI := fun w => qSI (.string s) w
  have faF := fun w => qSF (.string s) w
  have faB := fun w => qSB (.string s) w
  have gaS := fun w => qS (.string s) w
  have fbJ := fun w => qSJ (.string t) w
  have gbS := fun w => qS (.string t) w
  go_enter Tryz.func106, Tryz.ntmps106
  go_wp2_with fail
  refine H.out.mono ?_
  rintro e w1 ⟨v, rfl, hq⟩
  have HB := Lib.hid hq; clear hq
  go_wp2_with fail
  go_ret
  exact ⟨_, rfl, HB.out⟩
set_option maxRecDepth 100000 in
set_option maxHeartbeats 4000000 in
theorem bin_add_ll (Q : Ending → World → Prop) (A B : Option Addr) (n m : Nat) (w : World) (HC : Calls Tryz.prog 125 #[.slice A n n, .slice B m m] w fun e w' => ∃ v, e = .returned v ∧ Q e w') :
    Calls Tryz.prog 106 #[.iface 78 (.slice A n n), .iface 78 (.slice B m m), Value.func (Fn.func 120) #[] #[], Value.func (Fn.func 122) #[] #[], Value.func (Fn.func 123) #[] #[], Value.func (Fn.func 124) #[] #[], Value.func (Fn.func 125) #[] #[], Value.func (Fn.func 126) #[] #[], Value.func (Fn.func 127) #[] #[]] w fun e w' => ∃ v, e = .returned v ∧ Q e w' := by
  have H := Lib.hid HC
  clear HC
  have faJ := fun w => qLJ (.slice A n n) w
  have faI := fun w => qLI (.slice A n n) w
  have faF := fun w => qLF (.slice A n n) w
  have faB := fun w => qLB (.slice A n n) w
  have faS := fun w => qLS (.slice A n n) w
  have gaL := fun w => qL (.slice A n n) w
  have fbJ := fun w => qLJ (.slice B m m) w
  have gbL := fun w => qL (.slice B m m) w
  go_enter Tryz.func106, Tryz.ntmps106
  go_wp2_with fail
  refine H.out.mono ?_
  rintro e w1 ⟨v, rfl, hq⟩
  have HB := Lib.hid hq; clear hq
  go_wp2_with fail
  go_ret
  exact ⟨_, rfl, HB.out⟩
set_option maxRecDepth 100000 in
set_option maxHeartbeats 4000000 in
theorem bin_add_mm (Q : Ending → World → Prop) (b c : Option Nat) (w : World) (HC : Calls Tryz.prog 126 #[.map b, .map c] w fun e w' => ∃ v, e = .returned v ∧ Q e w') :
    Calls Tryz.prog 106 #[.iface 67 (.map b), .iface 67 (.map c), Value.func (Fn.func 120) #[] #[], Value.func (Fn.func 122) #[] #[], Value.func (Fn.func 123) #[] #[], Value.func (Fn.func 124) #[] #[], Value.func (Fn.func 125) #[] #[], Value.func (Fn.func 126) #[] #[], Value.func (Fn.func 127) #[] #[]] w fun e w' => ∃ v, e = .returned v ∧ Q e w' := by
  have H := Lib.hid HC
  clear HC
  have faJ := fun w => qMJ (.map b) w
  have faI := fun w => qMI (.map b) w
  have faF := fun w => qMF (.map b) w
  have faB := fun w => qMB (.map b) w
  have faS := fun w => qMS (.map b) w
  have faL := fun w => qML (.map b) w
  have gaM := fun w => qM (.map b) w
  have fbJ := fun w => qMJ (.map c) w
  have gbM := fun w => qM (.map c) w
  go_enter Tryz.func106, Tryz.ntmps106
  go_wp2_with fail
  refine H.out.mono ?_
  rintro e w1 ⟨v, rfl, hq⟩
  have HB := Lib.hid hq; clear hq
  go_wp2_with fail
  go_ret
  exact ⟨_, rfl, HB.out⟩
theorem add_strs (s t : ByteArray) (hs : s.size + t.size ≤ 9223372036854775807) (w : World) : Calls Tryz.prog 124 #[.string s, .string t] w (Gv (.iface 9 (.string (s ++ t))) w) := by
  have hr : ∀ w, (Op.stringOp .add s t).run Tryz.prog w = .ok (.string (s ++ t)) w := fun w => run_string_add_sum w s t hs
  clear hs
  go_enter Tryz.func124, Tryz.ntmps124
  go_wp2_with fail
  go_ret
  exact ⟨rfl, Below.refl _ _⟩
theorem wp_copy_run {P : Program} {ops : Array Oper} {rest : List Oper} {o : Oper} {a : Act} {Q : Exit → Act → World → Prop} (hgd : o.guard = none) (s x : Operand) (t : TypeId) (ho : o.op = .call { callee := .builtin .copy, args := #[s, x], argTypes := #[t, t] })
    (v y : Value) (hs : a.eval s = v) (hx : a.eval x = y) {W w1 : World} {v1 : Value} (hrun : (Builtin.copy_ #[t, t] o.type #[v, y]).run P W = .ok v1 w1) (h : wpList P ops Q rest (a.put o.dst v1) w1) : wpList P ops Q (o :: rest) a W := by
  refine wpList_plain hgd fun K' hK' => ?_
  unfold Oper.wp
  simp [execOp, ho, resolve, invoke, builtin, hs, hx, hrun, Result.andThen]
  exact hK' _ _ h
theorem runMakeB (n : Nat) (hn : n ≤ 10000000) (w : World) : (Instr.makeSlice 78 (.int .i64 n) (.int .i64 n)).run Tryz.prog w = .ok (.slice (some ⟨w.heap.size, 0, none⟩) n n) (w.alloc (.cells (List.replicate n Value.nilIface).toArray 20)) := by
  have hi := info_any
  cases h : Tryz.prog.info? 20 with
  | none => rw [h] at hi; cases hi
  | some i =>
    rw [h] at hi
    have hi := Option.some.inj hi
    simp only [Prod.mk.injEq] at hi
    obtain ⟨h1, h2, h3⟩ := hi
    have := run_makeSlice (P := Tryz.prog) w 78 20 i .nilIface Tryz.underlying78 h h1 .i64 .i64 (n : Int) (n : Int) (by omega) (by omega) (by rw [h2]; omega) (by rw [h3]; omega) (by omega)
    rw [this, Int.toNat_natCast, h2, made_nil]
theorem info_anyk : (Tryz.prog.info? 20).map (·.size) = some 1 := by kernel_rfl
theorem G.one {n : Nat} {w : World} {x : V} {g : Value} (h : G n w x g) : g.oneCell' = true := by
  rcases h.shape with rfl | ⟨t, v, rfl⟩ <;> rfl
/-- What a sum of two arrays gives. -/
def AddLs (w : World) (vs us : List Value) (e : Ending) (w' : World) : Prop := e = .returned (.iface 78 (.slice (some ⟨w.heap.size, 0, none⟩) (vs.length + us.length) (vs.length + us.length))) ∧ w'.heap[w.heap.size]? = some (.cells (vs ++ us).toArray 20 (0, 0)) ∧ Below w.heap.size w w'
theorem copies {w : World} {b c : Nat} {vs us : List Value} (hb : w.heap[b]? = some (.cells vs.toArray 20 (0, 0))) (hc : w.heap[c]? = some (.cells us.toArray 20 (0, 0))) (h1 : ∀ v ∈ vs, v.oneCell' = true) (h2 : ∀ v ∈ us, v.oneCell' = true) (ty : TypeId) :
    ∃ W1 W2, (Builtin.copy_ #[78, 78] ty #[.slice (some ⟨w.heap.size, 0, none⟩) (vs.length + us.length) (vs.length + us.length), .slice (some ⟨b, 0, none⟩) vs.length vs.length]).run Tryz.prog (w.alloc (.cells (List.replicate (vs.length + us.length) Value.nilIface).toArray 20)) = .ok (.int .i64 vs.length) W1 ∧
      (Builtin.copy_ #[78, 78] ty #[.slice (some ⟨w.heap.size, vs.length, none⟩) us.length us.length, .slice (some ⟨c, 0, none⟩) us.length us.length]).run Tryz.prog W1 = .ok (.int .i64 us.length) W2 ∧ W2.heap[w.heap.size]? = some (.cells (vs ++ us).toArray 20 (0, 0)) ∧ Below w.heap.size w W2 := by
  have ha := heap_alloc_new w (.cells (List.replicate (vs.length + us.length) Value.nilIface).toArray 20)
  have hb' := (Below.heap_alloc w (.cells (List.replicate (vs.length + us.length) Value.nilIface).toArray 20) b (lt_of_heap hb)).trans hb
  have hc' := (Below.heap_alloc w (.cells (List.replicate (vs.length + us.length) Value.nilIface).toArray 20) c (lt_of_heap hc)).trans hc
  have hlb := lt_of_heap hb
  have hlc := lt_of_heap hc
  have hb0 : Below w.heap.size w (w.alloc (.cells (List.replicate (vs.length + us.length) Value.nilIface).toArray 20)) := (Below.refl _ w).alloc (Nat.le_refl _) _
  generalize w.alloc (.cells (List.replicate (vs.length + us.length) Value.nilIface).toArray 20) = W0 at *
  have r1 := run_copy_row (P := Tryz.prog) W0 78 78 ty 20 w.heap.size 0 (vs.length + us.length) (vs.length + us.length) ⟨b, 0, none⟩ vs.length vs.length _ 20 vs Tryz.underlying78 info_anyk ha (Nat.min_eq_left (by omega)).symm
    (fun j v hv => by rw [add_at, Nat.zero_add, cell_of_row W0 b j _ _ _ hb']; simpa using hv) (by simp) h1
  have e1 : (List.replicate (vs.length + us.length) Value.nilIface).toArray.toList.take 0 ++ vs ++ (List.replicate (vs.length + us.length) Value.nilIface).toArray.toList.drop (0 + vs.length) = vs ++ List.replicate us.length Value.nilIface := by simp
  rw [e1] at r1
  have hg1 := setRow_heap W0 w.heap.size _ (vs ++ List.replicate us.length Value.nilIface).toArray 20 (0, 0) ha
  have hc1 := (setRow_other W0 w.heap.size c (vs ++ List.replicate us.length Value.nilIface).toArray (by omega)).trans hc'
  have hb1 : Below w.heap.size w (W0.setRow w.heap.size (vs ++ List.replicate us.length Value.nilIface).toArray) := below_setRow hb0 (Nat.le_refl _) _
  generalize W0.setRow w.heap.size (vs ++ List.replicate us.length Value.nilIface).toArray = W1 at *
  have r2 := run_copy_row (P := Tryz.prog) W1 78 78 ty 20 w.heap.size vs.length us.length us.length ⟨c, 0, none⟩ us.length us.length _ 20 us Tryz.underlying78 info_anyk hg1 (Nat.min_eq_left (by omega)).symm
    (fun j v hv => by rw [add_at, Nat.zero_add, cell_of_row W1 c j _ _ _ hc1]; simpa using hv) (by simp) h2
  have e2 : (vs ++ List.replicate us.length Value.nilIface).toArray.toList.take vs.length ++ us ++ (vs ++ List.replicate us.length Value.nilIface).toArray.toList.drop (vs.length + us.length) = vs ++ us := by simp
  rw [e2] at r2
  exact ⟨W1, _, r1, r2, setRow_heap W1 w.heap.size _ _ _ _ hg1, below_setRow hb1 (Nat.le_refl _) _⟩
set_option maxRecDepth 100000 in
set_option maxHeartbeats 4000000 in
theorem add_lists (w : World) (b c n m : Nat) (vs us : List Value) (hn : vs.length = n) (hm : us.length = m) (hn0 : 0 < n) (hm0 : 0 < m) (hnb : n ≤ 2000000) (hmb : m ≤ 2000000) (hb : w.heap[b]? = some (.cells vs.toArray 20 (0, 0))) (hc : w.heap[c]? = some (.cells us.toArray 20 (0, 0))) (h1 : ∀ v ∈ vs, v.oneCell' = true) (h2 : ∀ v ∈ us, v.oneCell' = true) :
    Calls Tryz.prog 125 #[.slice (some ⟨b, 0, none⟩) n n, .slice (some ⟨c, 0, none⟩) m m] w (AddLs w vs us) := by
  obtain ⟨W1, W2, r1, r2, hg, hbb⟩ := copies hb hc h1 h2 3
  obtain ⟨p, hp⟩ : ∃ p, p = n + m := ⟨_, rfl⟩
  have hw : wrap64 ((n : Int) + (m : Int)) = (p : Int) := by unfold wrap64; omega
  have hmk := fun w => runMakeB p (by omega) w
  rw [show ((p : Nat) : Int) = (n : Int) + (m : Int) by omega] at hmk
  have f1 : ((n : Int) == 0) = false := by simp; omega
  have f2 : ((m : Int) == 0) = false := by simp; omega
  have f3 : (n == 0) = false := by simp; omega
  have f4 : (m == 0) = false := by simp; omega
  rw [hn, hm, ← hp] at r1
  rw [hn, hm] at r2
  rw [List.toArray_replicate] at r1
  have HF := Lib.hid (And.intro hg (And.intro hbb (And.intro hn (And.intro hm hp))))
  have HR := Lib.hid (And.intro r1 r2)
  have hnp : n ≤ p := by omega
  have hpm : p - n = m := by omega
  have hpne : ¬ (p = n) := by omega
  have hlt : decide ((n : Int) ≤ (p : Int)) = true := decide_eq_true (by omega)
  clear hb hc h1 h2 hg hbb r1 r2 hn hm hp hn0 hm0
  go_enter Tryz.func125, Tryz.ntmps125
  go_wp2_with (first
    | ((with_reducible refine gate_builtin (b := .copy) (xs := #[.tmp 22, .tmp 23]) rfl ?_); refine wp_copy_run rfl (.tmp 22) (.tmp 23) 78 rfl _ _ rfl rfl HR.out.1 ?_)
    | ((with_reducible refine gate_builtin (b := .copy) (xs := #[.tmp 28, .tmp 29]) rfl ?_); refine wp_copy_run rfl (.tmp 28) (.tmp 29) 78 rfl _ _ rfl rfl HR.out.2 ?_))
  go_ret
  refine ⟨?_, HF.out.1, HF.out.2.1⟩
  rw [HF.out.2.2.1, HF.out.2.2.2.1, ← HF.out.2.2.2.2]
  rfl
end Go.Proofs.YtcoahpcjhhnkkaaGreatDoor.NumA
/-
maps.Copy's contract at this program (after the print of the kit's lay-plain).
-/
namespace Go.Proofs
open Go.Shelf
def Tryz.copyM_ren : Go.Shelf.Ren := ⟨fun | 5 => 118 | n => n, fun | 23 => 67 | 24 => 67 | 26 => 9 | 27 => 20 | 0 => 0 | 4 => 4 | n => n, fun | n => n⟩
theorem Tryz.copyM : Go.Proofs.SlLaysX.n5 Tryz.prog Tryz.copyM_ren := {
  mixed := by kernel_rfl
  f5 := ⟨Tryz.f118.name, by decide, Tryz.func118.trans (congrArg some (by kernel_rfl))⟩
  t0 := Tryz.underlying0
  a0 := Tryz.isAgg0
  z0 := Tryz.sizeOf0
  v0 := Tryz.zeroValue0
  t4 := Tryz.underlying4
  a4 := Tryz.isAgg4
  z4 := Tryz.sizeOf4
  v4 := Tryz.zeroValue4
  t23 := Tryz.underlying67
  a23 := Tryz.isAgg67
  z23 := Tryz.sizeOf67
  v23 := Tryz.zeroValue67
  t24 := Tryz.underlying67
  a24 := Tryz.isAgg67
  z24 := Tryz.sizeOf67
  v24 := Tryz.zeroValue67
  a26 := Tryz.isAgg9
  z26 := Tryz.sizeOf9
  a27 := Tryz.isAgg20
  z27 := Tryz.sizeOf20 }
end Go.Proofs
/-
Sums of two maps.
-/
set_option linter.unusedSimpArgs false
set_option linter.unusedVariables false
namespace Go.Proofs.YtcoahpcjhhnkkaaGreatDoor.NumA
open Go.RowKit Go.Lib Go.Proofs.YtcoahpcjhhnkkaaGreatDoor.ValA Go.Proofs.YtcoahpcjhhnkkaaGreatDoor.FloH Go.Proofs.YtcoahpcjhhnkkaaGreatDoorW.PrintWords Go.Proofs.YtcoahpcjhhnkkaaGreatDoorW.PrintLast Go.Proofs.YtcoahpcjhhnkkaaGreatDoorW.PrintMore Go.Proofs.YtcoahpcjhhnkkaaGreatDoor.PzzFits1
/-- An element of a map, read as itself. -/
def R1 (v : Value) : Option (DataW Value × List MemPlace) := some (.held v, [])
/-- A map's entries as a datum. -/
def IsV (es : List MapEntry) (D : DataW Value) : Prop := D = .map ((es.map (WideElems.rg Tryz.prog 9 R1)).foldr DataW.insert [])
theorem rgV {es : List MapEntry} {c : Nat} (F : WideElems.Fit Tryz.prog 9 R1 es.toArray c) {e : MapEntry} (he : e ∈ es) : ∃ kl, keyOf Tryz.prog 9 e.key = some kl ∧ WideElems.rg Tryz.prog 9 R1 e = (kl, .held e.val) := by
  obtain ⟨y, hy⟩ := F.reads e (by simpa using he)
  have h1 := WideElems.rd_key hy
  refine ⟨y.1, h1, ?_⟩
  rw [WideElems.rg_of hy]
  unfold WideElems.rd at hy
  rw [h1] at hy
  simp only [Option.bind_some, R1, Option.map_some, Option.some.injEq] at hy
  exact hy.symm
theorem hasV {es : List MapEntry} {c : Nat} {D : DataW Value} (F : WideElems.Fit Tryz.prog 9 R1 es.toArray c) (hD : IsV es D) {s : ByteArray} (hs : s.size ≤ 9223372036854775807) : Maps.has D (.string s.data.toList) = true ↔ ∃ e ∈ es, e.key = .string s := by
  unfold IsV at hD
  subst hD
  rw [Maps.has_eq, List.any_eq_true]
  constructor
  · rintro ⟨p, hp, hk⟩
    obtain ⟨e, he, rfl⟩ := List.mem_map.1 (mem_sorted.1 hp)
    obtain ⟨kl, h1, h2⟩ := rgV F he
    rw [h2] at hk
    obtain rfl : kl = .string s.data.toList := WideAt.sameKey_eq hk
    exact ⟨e, he, keyedS.inj h1 (key_lit s hs)⟩
  · rintro ⟨e, he, hk⟩
    obtain ⟨kl, h1, h2⟩ := rgV F he
    rw [hk, key_lit s hs] at h1
    obtain rfl := Option.some.inj h1
    exact ⟨_, mem_sorted.2 (List.mem_map.2 ⟨e, he, rfl⟩), by rw [h2]; exact WideAt.sameKey_self trivial⟩
theorem apart_sorted {l : List (Lit × DataW Value)} (h : l.Pairwise (fun p q => p.1 ≠ q.1)) : (l.foldr DataW.insert []).Pairwise (fun p q => p.1 ≠ q.1) :=
  ((WideShapes.sorted_perm l).pairwise_iff (fun {_ _} hne => Ne.symm hne)).2 h
theorem apartV {es : List MapEntry} {c : Nat} (F : WideElems.Fit Tryz.prog 9 R1 es.toArray c) : ((es.map (WideElems.rg Tryz.prog 9 R1)).foldr DataW.insert []).Pairwise (fun p q => p.1 ≠ q.1) :=
  apart_sorted (by have h := Maps.fit_apart keyedS F; rw [List.toList_toArray] at h; exact h)
theorem keysV {es : List MapEntry} {c : Nat} (F : WideElems.Fit Tryz.prog 9 R1 es.toArray c) : ∀ p ∈ (es.map (WideElems.rg Tryz.prog 9 R1)).foldr DataW.insert [], WideAt.IsKeyLit p.1 := by
  intro p hp
  obtain ⟨e, he, hpe⟩ := List.mem_map.1 (mem_sorted.1 hp)
  obtain ⟨kl, h1, h2⟩ := rgV F he
  rw [← hpe, h2]
  exact keyedS.key h1
theorem atV {es : List MapEntry} {c : Nat} {D : DataW Value} (F : WideElems.Fit Tryz.prog 9 R1 es.toArray c) (hD : IsV es D) {s : ByteArray} (hs : s.size ≤ 9223372036854775807) {e : MapEntry} (he : e ∈ es) (hk : e.key = .string s) (z : DataW Value) : D.atKey (.string s.data.toList) z = .held e.val := by
  unfold IsV at hD
  subst hD
  obtain ⟨kl, h1, h2⟩ := rgV F he
  rw [hk, key_lit s hs] at h1
  obtain rfl := Option.some.inj h1
  exact WideAt.atKey_mem z trivial (apartV F) (mem_sorted.2 (by rw [← h2]; exact List.mem_map.2 ⟨e, he, rfl⟩))
theorem mergeV {Dd : DataW Value} (hm : Maps.IsMap Dd) {l : List (Lit × DataW Value)} (hk : ∀ p ∈ l, WideAt.IsKeyLit p.1) (hp : l.Pairwise (fun p q => p.1 ≠ q.1)) (k : Lit) (z : DataW Value) :
    Maps.has (Lib.mergeD Dd (.map l)) k = (Maps.has Dd k || Maps.has (.map l) k) ∧ (Lib.mergeD Dd (.map l)).atKey k z = if Maps.has (.map l) k = true then (DataW.map l).atKey k z else Dd.atKey k z := by
  refine ⟨Maps.has_foldPut k l Dd hm hk, ?_⟩
  refine (Maps.atKey_foldPut k z l Dd hm hk hp).trans ?_
  cases hf : l.find? (fun p => p.1.sameKey k) with
  | none =>
    have h0 : Maps.has (.map l) k = false := by
      rw [Maps.has_eq]
      exact List.any_eq_false.2 (fun p hp => by simpa using List.find?_eq_none.1 hf p hp)
    simp [h0]
  | some p =>
    have h1 : Maps.has (.map l) k = true := by
      rw [Maps.has_eq]
      exact List.any_eq_true.2 ⟨p, List.mem_of_find?_eq_some hf, List.find?_some (p := fun (q : Lit × DataW Value) => q.1.sameKey k) hf⟩
    have h2 : (DataW.map l).atKey k z = p.2 := by
      simp [DataW.atKey, hf]
    simp [h1, h2]
theorem isMap_merge {Dd : DataW Value} (hm : Maps.IsMap Dd) : ∀ l : List (Lit × DataW Value), Maps.IsMap (Lib.mergeD Dd (.map l)) := by
  intro l
  show Maps.IsMap (l.foldl (fun D p => D.put p.1 p.2) Dd)
  induction l generalizing Dd with
  | nil => exact hm
  | cons a r ih => exact ih (hm.put _ _)
/-- es holds e1's entries and e2's; where both have a key, e2's element stands. -/
def Merges (es e1 e2 : List MapEntry) : Prop := (∀ s : ByteArray, (∃ e ∈ es, e.key = .string s) ↔ (∃ e ∈ e1, e.key = .string s) ∨ ∃ e ∈ e2, e.key = .string s) ∧
  ∀ e ∈ es, ∀ s : ByteArray, e.key = .string s → (∀ d ∈ e2, d.key = .string s → e.val = d.val) ∧ ((∀ d ∈ e2, d.key ≠ .string s) → ∀ d ∈ e1, d.key = .string s → e.val = d.val)
theorem held_inj {v u : Value} (h : (DataW.held v : DataW Value) = .held u) : v = u := by cases h; rfl
theorem size_key {es : List MapEntry} {c : Nat} (F : WideElems.Fit Tryz.prog 9 R1 es.toArray c) {e : MapEntry} (he : e ∈ es) : ∃ t : ByteArray, e.key = .string t ∧ t.size ≤ 9223372036854775807 := by
  obtain ⟨kl, h1, _⟩ := rgV F he
  obtain ⟨x, e1, _, hx⟩ := Maps.keyOf_str Tryz.underlying9 h1
  exact ⟨⟨x.toArray⟩, by rw [e1], hx⟩
theorem merges_of {es e1 e2 : List MapEntry} {c c1 c2 : Nat} {D D1 D2 : DataW Value} (F : WideElems.Fit Tryz.prog 9 R1 es.toArray c) (F1 : WideElems.Fit Tryz.prog 9 R1 e1.toArray c1) (F2 : WideElems.Fit Tryz.prog 9 R1 e2.toArray c2)
    (hD : IsV es D) (hD1 : IsV e1 D1) (hD2 : IsV e2 D2) (he : D = Lib.mergeD (Lib.mergeD (.map []) D1) D2) : Merges es e1 e2 := by
  have hh : ∀ k z, Maps.has D k = (Maps.has D1 k || Maps.has D2 k) ∧ D.atKey k z = if Maps.has D2 k = true then D2.atKey k z else if Maps.has D1 k = true then D1.atKey k z else z := by
    intro k z
    rw [he]
    have h1 := hD1
    have h2 := hD2
    unfold IsV at h1 h2
    rw [h1, h2]
    have m1 := mergeV (Maps.isMap_empty (H := Value)) (keysV F1) (apartV F1) k z
    have m2 := mergeV (isMap_merge (Maps.isMap_empty (H := Value)) ((e1.map (WideElems.rg Tryz.prog 9 R1)).foldr DataW.insert [])) (keysV F2) (apartV F2) k z
    rw [m2.1, m2.2, m1.1, m1.2]
    exact ⟨by show ((false || _) || _) = _; rw [Bool.false_or], rfl⟩
  have hx : ∀ s : ByteArray, s.size ≤ 9223372036854775807 → ((∃ e ∈ es, e.key = .string s) ↔ (∃ e ∈ e1, e.key = .string s) ∨ ∃ e ∈ e2, e.key = .string s) := by
    intro s hs
    rw [← hasV F hD hs, ← hasV F1 hD1 hs, ← hasV F2 hD2 hs, (hh _ .nil).1, Bool.or_eq_true]
  refine ⟨fun s => ⟨fun h => ?_, fun h => ?_⟩, fun e hm s hk => ?_⟩
  · obtain ⟨e, h1, h2⟩ := h
    obtain ⟨t, e3, ht⟩ := size_key F h1
    rw [h2] at e3
    cases e3
    exact (hx s ht).1 ⟨e, h1, h2⟩
  · rcases h with ⟨e, h1, h2⟩ | ⟨e, h1, h2⟩
    · obtain ⟨t, e3, ht⟩ := size_key F1 h1
      rw [h2] at e3
      cases e3
      exact (hx s ht).2 (.inl ⟨e, h1, h2⟩)
    · obtain ⟨t, e3, ht⟩ := size_key F2 h1
      rw [h2] at e3
      cases e3
      exact (hx s ht).2 (.inr ⟨e, h1, h2⟩)
  · obtain ⟨t, e3, hs⟩ := size_key F hm
    rw [hk] at e3
    cases e3
    have ha := atV F hD hs hm hk .nil
    rw [(hh _ .nil).2] at ha
    refine ⟨fun d hd hkd => ?_, fun hno d hd hkd => ?_⟩
    · rw [if_pos ((hasV F2 hD2 hs).2 ⟨d, hd, hkd⟩), atV F2 hD2 hs hd hkd] at ha
      exact (held_inj ha).symm
    · rw [if_neg (fun h => by obtain ⟨d, hd, hkd⟩ := (hasV F2 hD2 hs).1 h; exact hno d hd hkd), if_pos ((hasV F1 hD1 hs).2 ⟨d, hd, hkd⟩), atV F1 hD1 hs hd hkd] at ha
      exact (held_inj ha).symm
theorem fitV {es : List MapEntry} {c : Nat} {l : List ByteArray} (hst : MapKept.Stamped es.toArray c) (hn : es.length ≤ 2000000) (hk : KeysAre es l) : WideElems.Fit Tryz.prog 9 R1 es.toArray c := by
  refine ⟨by unfold maxLen; simp; omega, hst, fun x hx => ?_⟩
  obtain ⟨t, e1, e2⟩ := hk.all x (by simpa using hx)
  refine ⟨(.string t.data.toList, .held x.val), ?_⟩
  unfold WideElems.rd
  rw [e1, key_lit t e2]
  rfl
/-- What a sum of two maps gives. -/
def AddMs (w : World) (e1 e2 : List MapEntry) (e : Ending) (w' : World) : Prop :=
  ∃ (es : List MapEntry) (k : Nat), e = .returned (.iface 67 (.map (some w.heap.size))) ∧ w'.heap[w.heap.size]? = some (.map es.toArray k) ∧ MapKept.Stamped es.toArray k ∧ (∀ e ∈ es, ∃ t : ByteArray, e.key = .string t ∧ t.size ≤ 9223372036854775807) ∧ Merges es e1 e2 ∧ Below w.heap.size w w'
theorem sizeV {es : List MapEntry} {D : DataW Value} (hD : IsV es D) : Maps.size D = es.length := by
  unfold IsV at hD
  subst hD
  simp [Maps.size, length_sorted]
set_option maxRecDepth 100000 in
set_option maxHeartbeats 4000000 in
theorem add_maps (w : World) (b c n m c1 c2 : Nat) (e1 e2 : List MapEntry) (l1 l2 : List ByteArray) (hn : e1.length = n) (hm : e2.length = m) (hn0 : 0 < n) (hm0 : 0 < m) (hnb : n ≤ 1000000) (hmb : m ≤ 1000000) (hb : w.heap[b]? = some (.map e1.toArray c1)) (hc : w.heap[c]? = some (.map e2.toArray c2))
    (hs1 : MapKept.Stamped e1.toArray c1) (hs2 : MapKept.Stamped e2.toArray c2) (hk1 : KeysAre e1 l1) (hk2 : KeysAre e2 l2) :
    Calls Tryz.prog 126 #[.map (some b), .map (some c)] w (AddMs w e1 e2) := by
  obtain ⟨D1, hD1⟩ : ∃ D, IsV e1 D := ⟨_, rfl⟩
  obtain ⟨D2, hD2⟩ : ∃ D, IsV e2 D := ⟨_, rfl⟩
  have F1 := fitV hs1 (by omega) hk1
  have F2 := fitV hs2 (by omega) hk2
  have o1 : w.ownsMap Tryz.prog 9 R1 b n D1 := ⟨_, _, hb, F1, by simp [hn], hD1⟩
  have o2 : w.ownsMap Tryz.prog 9 R1 c m D2 := ⟨_, _, hc, F2, by simp [hm], hD2⟩
  have z1 := sizeV hD1
  have z2 := sizeV hD2
  have hl1 : ∀ ty, (Builtin.len_ #[67] ty #[.map (some b)]).run Tryz.prog w = .ok (.int .i64 (n : Int)) w := fun ty => by
    have := o1.len Tryz.underlying67 ty
    rwa [z1, hn] at this
  have hl2 : ∀ ty, (Builtin.len_ #[67] ty #[.map (some c)]).run Tryz.prog w = .ok (.int .i64 (m : Int)) w := fun ty => by
    have := o2.len Tryz.underlying67 ty
    rwa [z2, hm] at this
  have hmk := fun w => runMakeMap ((n : Int) + (m : Int)) w
  have f1 : ((n : Int) == 0) = false := by simp; omega
  have f2 : ((m : Int) == 0) = false := by simp; omega
  have f3 : (n == 0) = false := by simp; omega
  have f4 : (m == 0) = false := by simp; omega
  have g0 : w.grownBy (w.alloc (.map #[] 0)) none := World.grownBy_alloc w _ none
  have hlb := lt_of_heap hb
  have hlc := lt_of_heap hc
  have k1 : Calls Tryz.prog 118 #[.map (some w.heap.size), .map (some b)] (w.alloc (.map #[] 0)) (fun e w' => e = .returned (.tuple #[]) ∧ w'.ownsMap Tryz.prog 9 R1 w.heap.size (0 + Maps.size D1) (Lib.mergeD (.map []) D1) ∧ w'.ownsMap Tryz.prog 9 R1 b n D1 ∧ (w.alloc (.map #[] 0)).grownBy w' (some w.heap.size)) :=
    AnyX.maps_Copy Tryz.copyM keyedS R1 w.heap.size b 0 n (.map []) D1 _ (World.ownsMap_made w Tryz.prog 9 R1) (o1.kept g0 (by simp)) (by omega) (by unfold maxLen; omega)
  have k2 : ∀ w1, w1.ownsMap Tryz.prog 9 R1 w.heap.size (0 + Maps.size D1) (Lib.mergeD (.map []) D1) → w1.ownsMap Tryz.prog 9 R1 c m D2 →
      Calls Tryz.prog 118 #[.map (some w.heap.size), .map (some c)] w1 (fun e w' => e = .returned (.tuple #[]) ∧ w'.ownsMap Tryz.prog 9 R1 w.heap.size (0 + Maps.size D1 + Maps.size D2) (Lib.mergeD (Lib.mergeD (.map []) D1) D2) ∧ w'.ownsMap Tryz.prog 9 R1 c m D2 ∧ w1.grownBy w' (some w.heap.size)) :=
    fun w1 h1 h2 => AnyX.maps_Copy Tryz.copyM keyedS R1 w.heap.size c _ m _ D2 w1 h1 h2 (by omega) (by unfold maxLen; omega)
  have HK1 := Lib.hid k1
  have HK2 := Lib.hid k2
  have HO := Lib.hid (o2.kept g0 (by simp))
  have HL := Lib.hid hlc
  have HF := Lib.hid (And.intro F1 (And.intro F2 (And.intro hD1 hD2)))
  clear k1 k2 o1 o2 z1 z2 F1 F2 hD1 hD2 g0 hlb hlc hb hc hs1 hs2 hk1 hk2 hn hm hn0 hm0
  go_enter Tryz.func126, Tryz.ntmps126
  go_wp2_with fail
  refine HK1.out.mono ?_
  rintro e w1 ⟨rfl, ho1, _, hg1⟩
  have HA := Lib.hid (And.intro ho1 hg1)
  have HP := Lib.hid (HO.out.kept hg1 (by have := HL.out; simp; omega))
  clear ho1 hg1 hl1 hl2 hmk HK1
  go_wp2_with fail
  refine (HK2.out w1 HA.out.1 HP.out).mono ?_
  rintro e w2 ⟨rfl, ho2, _, hg2⟩
  have HB := Lib.hid (And.intro ho2 hg2)
  clear ho2 hg2 HK2
  go_wp2_with fail
  go_ret
  obtain ⟨es, k, hh, F, _, hD⟩ := HB.out.1
  have hD' : IsV es.toList _ := hD
  have F' : WideElems.Fit Tryz.prog 9 R1 es.toList.toArray k := by simpa using F
  refine ⟨es.toList, k, rfl, by simpa using hh, by simpa using F.stamped, fun e he => size_key F' he, merges_of F' HF.out.1 HF.out.2.1 hD' HF.out.2.2.1 HF.out.2.2.2 rfl, ?_⟩
  exact (((Below.refl _ w).alloc (Nat.le_refl _) _).grown HA.out.2 (by rw [World.size_alloc]; omega) (fun k hk => by cases hk; exact Nat.le_refl _)).grown HB.out.2 (by have := HA.out.2.size; rw [World.size_alloc] at this; omega) (fun k hk => by cases hk; exact Nat.le_refl _)
end Go.Proofs.YtcoahpcjhhnkkaaGreatDoor.NumA
/-
Sums of values, as plain functions: arrays, texts, objects.
-/
set_option linter.unusedSimpArgs false
set_option linter.unusedVariables false
namespace Go.Proofs.YtcoahpcjhhnkkaaGreatDoor.NumA
open Go.RowKit Go.Lib Go.Proofs.YtcoahpcjhhnkkaaGreatDoor.ValA Go.Proofs.YtcoahpcjhhnkkaaGreatDoor.FloH Go.Proofs.YtcoahpcjhhnkkaaGreatDoorW.PrintWords Go.Proofs.YtcoahpcjhhnkkaaGreatDoorW.PrintLast Go.Proofs.YtcoahpcjhhnkkaaGreatDoorW.PrintMore Go.Proofs.YtcoahpcjhhnkkaaGreatDoor.PzzFits1
/-- The order of bytes. -/
def bl (a b : ByteArray) : Bool := Op.bytesLess a.toList b.toList
theorem bl_self (a : ByteArray) : bl a a = false := by
  cases h : bl a a with
  | false => rfl
  | true => exact (bless_ne h).elim
theorem bl_trans {a b c : ByteArray} (h1 : bl a b = true) (h2 : bl b c = true) : bl a c = true := bless_trans h1 h2
theorem bl_other {a b : ByteArray} (h1 : bl a b = false) (h2 : a ≠ b) : bl b a = true := by
  unfold bl at *
  rw [bytesLess_eq, decide_eq_false_iff_not] at h1
  rw [bytesLess_eq, decide_eq_true_eq]
  refine Classical.byContradiction fun h3 => h2 ?_
  have e := List.le_antisymm (List.not_lt.1 h3) (List.not_lt.1 h1)
  rw [Lib.toList_data, Lib.toList_data] at e
  cases a; cases b
  simp only [ByteArray.mk.injEq]
  exact Array.toList_inj.1 e
/-- A key set among others that rise. -/
def insKV : List (ByteArray × V) → ByteArray → V → List (ByteArray × V)
  | [], k, v => [(k, v)]
  | p :: r, k, v => if bl p.1 k = true then p :: insKV r k v else if p.1 = k then (k, v) :: r else (k, v) :: p :: r
def getKV : List (ByteArray × V) → ByteArray → Option V
  | [], _ => none
  | p :: r, k => if p.1 = k then some p.2 else getKV r k
def foldKV (m l : List (ByteArray × V)) : List (ByteArray × V) := l.foldl (fun m p => insKV m p.1 p.2) m
def Rise (l : List (ByteArray × V)) : Prop := l.Pairwise fun p q => bl p.1 q.1 = true
theorem ins_get (k : ByteArray) (v : V) (s : ByteArray) : ∀ l : List (ByteArray × V), getKV (insKV l k v) s = if s = k then some v else getKV l s
  | [] => by
    by_cases e : k = s
    · subst e; simp [insKV, getKV]
    · simp [insKV, getKV, e, Ne.symm e]
  | p :: r => by
    have ih := ins_get k v s r
    by_cases h1 : bl p.1 k = true
    · rw [insKV, if_pos h1, getKV, getKV, ih]
      by_cases e : p.1 = s
      · have : s ≠ k := fun e2 => by rw [e, e2, bl_self] at h1; cases h1
        simp [e, this]
      · simp [e]
    · rw [insKV, if_neg h1]
      by_cases h2 : p.1 = k
      · rw [if_pos h2, getKV, getKV]
        by_cases e : s = k
        · simp [e]
        · simp [e, Ne.symm e, h2]
      · rw [if_neg h2, getKV]
        by_cases e : s = k
        · simp [e]
        · simp [e, Ne.symm e]
theorem ins_mem {k : ByteArray} {v : V} {q : ByteArray × V} : ∀ {l : List (ByteArray × V)}, q ∈ insKV l k v → q = (k, v) ∨ q ∈ l
  | [], h => by simp [insKV] at h; exact .inl h
  | p :: r, h => by
    rw [insKV] at h
    split at h
    · rcases List.mem_cons.1 h with rfl | h
      · exact .inr (by simp)
      · exact (ins_mem h).imp id (fun h => List.mem_cons_of_mem _ h)
    · split at h
      · rcases List.mem_cons.1 h with rfl | h
        · exact .inl rfl
        · exact .inr (List.mem_cons_of_mem _ h)
      · rcases List.mem_cons.1 h with rfl | h
        · exact .inl rfl
        · exact .inr h
theorem ins_rise {k : ByteArray} {v : V} : ∀ {l : List (ByteArray × V)}, Rise l → Rise (insKV l k v)
  | [], _ => by unfold Rise; simp [insKV]
  | p :: r, h => by
    obtain ⟨h1, h2⟩ := List.pairwise_cons.1 h
    rw [insKV]
    split
    · rename_i c
      refine List.pairwise_cons.2 ⟨fun q hq => ?_, ins_rise h2⟩
      rcases ins_mem hq with rfl | hq
      · exact c
      · exact h1 q hq
    · rename_i c
      split
      · rename_i e
        exact List.pairwise_cons.2 ⟨fun q hq => by have := h1 q hq; rw [e] at this; exact this, h2⟩
      · rename_i e
        have h3 : bl k p.1 = true := bl_other (by simpa using c) e
        refine List.pairwise_cons.2 ⟨fun q hq => ?_, h⟩
        rcases List.mem_cons.1 hq with rfl | hq
        · exact h3
        · exact bl_trans h3 (h1 q hq)
theorem ins_len {k : ByteArray} {v : V} : ∀ l : List (ByteArray × V), (insKV l k v).length ≤ l.length + 1
  | [] => by simp [insKV]
  | p :: r => by
    have := ins_len (k := k) (v := v) r
    rw [insKV]
    split
    · simp; omega
    · split <;> simp
theorem ins_end {k : ByteArray} {v : V} : ∀ {l : List (ByteArray × V)}, (∀ q ∈ l, bl q.1 k = true) → insKV l k v = l ++ [(k, v)]
  | [], _ => rfl
  | p :: r, h => by
    rw [insKV, if_pos (h p (by simp)), ins_end (fun q hq => h q (List.mem_cons_of_mem _ hq))]
    rfl
theorem get_mem {s : ByteArray} {v : V} : ∀ {l : List (ByteArray × V)}, getKV l s = some v → (s, v) ∈ l
  | [], h => by simp [getKV] at h
  | p :: r, h => by
    rw [getKV] at h
    split at h
    · rename_i e
      obtain rfl := Option.some.inj h
      rw [← e]
      simp
    · exact List.mem_cons_of_mem _ (get_mem h)
theorem get_none {s : ByteArray} : ∀ {l : List (ByteArray × V)}, getKV l s = none ↔ ∀ q ∈ l, q.1 ≠ s
  | [] => by simp [getKV]
  | p :: r => by
    have ih := get_none (s := s) (l := r)
    rw [getKV]
    split
    · rename_i e
      simp [e]
    · rename_i e
      rw [ih]
      simp [e]
theorem mem_get {s : ByteArray} {v : V} : ∀ {l : List (ByteArray × V)}, Rise l → (s, v) ∈ l → getKV l s = some v
  | [], _, h => by cases h
  | p :: r, hr, h => by
    obtain ⟨h1, h2⟩ := List.pairwise_cons.1 hr
    rw [getKV]
    rcases List.mem_cons.1 h with rfl | h
    · simp
    · have := h1 _ h
      rw [if_neg (fun e => by rw [e, bl_self] at this; cases this)]
      exact mem_get h2 h
theorem fold_rise : ∀ (l : List (ByteArray × V)) {m : List (ByteArray × V)}, Rise m → Rise (foldKV m l)
  | [], _, h => h
  | p :: r, _, h => fold_rise r (ins_rise h)
theorem fold_len : ∀ (l m : List (ByteArray × V)), (foldKV m l).length ≤ m.length + l.length
  | [], _ => Nat.le_refl _
  | p :: r, m => by
    have h1 := fold_len r (insKV m p.1 p.2)
    have h2 := ins_len (k := p.1) (v := p.2) m
    rw [List.length_cons]
    show (foldKV (insKV m p.1 p.2) r).length ≤ _
    omega
theorem fold_mem {q : ByteArray × V} : ∀ (l : List (ByteArray × V)) {m : List (ByteArray × V)}, q ∈ foldKV m l → q ∈ m ∨ q ∈ l
  | [], _, h => .inl h
  | p :: r, m, h => by
    rcases fold_mem r (show q ∈ foldKV (insKV m p.1 p.2) r from h) with h | h
    · rcases ins_mem h with rfl | h
      · exact .inr (by simp)
      · exact .inl h
    · exact .inr (List.mem_cons_of_mem _ h)
theorem fold_get (s : ByteArray) : ∀ (l m : List (ByteArray × V)), Rise l → getKV (foldKV m l) s = (getKV l s).or (getKV m s)
  | [], m, _ => by simp [foldKV, getKV]
  | p :: r, m, h => by
    obtain ⟨h1, h2⟩ := List.pairwise_cons.1 h
    show getKV (foldKV (insKV m p.1 p.2) r) s = _
    rw [fold_get s r _ h2, ins_get, getKV]
    by_cases e : p.1 = s
    · have h0 : getKV r s = none := get_none.2 fun q hq e2 => by have := h1 q hq; rw [e, e2, bl_self] at this; cases this
      simp [e, h0]
    · simp [e, Ne.symm e]
theorem fold_end : ∀ (l m : List (ByteArray × V)), Rise (m ++ l) → foldKV m l = m ++ l
  | [], m, _ => by simp [foldKV]
  | p :: r, m, h => by
    have e : insKV m p.1 p.2 = m ++ [p] := ins_end fun q hq => (List.pairwise_append.1 h).2.2 q hq p (by simp)
    show foldKV (insKV m p.1 p.2) r = _
    have e2 : m ++ p :: r = (m ++ [p]) ++ r := by simp
    rw [e, fold_end r (m ++ [p]) (by rw [← e2]; exact h), e2]
/-- An object's keys and values. -/
def kv (x : V) : List (ByteArray × V) := x.f4.zip x.f5
theorem kv_keys {x : V} (h : x.f4.length = x.f5.length) : (kv x).map (·.1) = x.f4 := List.map_fst_zip (by omega)
theorem kv_vals {x : V} (h : x.f4.length = x.f5.length) : (kv x).map (·.2) = x.f5 := List.map_snd_zip (by omega)
theorem kv_rise {x : V} (hx : WL x) : Rise (kv x) := by
  cases hx with
  | mk x h1 h2 n3 n4 hk h3 h5 =>
    unfold Rise kv
    rw [List.pairwise_iff_getElem]
    intro i j hi hj hij
    have hi' : i < x.f4.length := by simp at hi; omega
    have hj' : j < x.f4.length := by simp at hj; omega
    have h := keys_rise hk (j - i - 1) i (by omega)
    rw [show i + (j - i - 1) + 1 = j by omega] at h
    have e1 := key_rd x.f4 i hi'
    have e2 := key_rd x.f4 j hj'
    rw [List.getElem?_eq_getElem hi'] at e1
    rw [List.getElem?_eq_getElem hj'] at e2
    unfold bl
    simp only [List.getElem_zip]
    rw [Option.some.inj e1, Option.some.inj e2]
    exact h
theorem rise_keys {l : List (ByteArray × V)} (h : Rise l) : ∀ i : Nat, 0 < i → i < (l.map (·.1)).length → Op.bytesLess (rdOf ByteArray.empty (l.map (·.1)) (i - 1 : Nat)).toList (rdOf ByteArray.empty (l.map (·.1)) i).toList = true := by
  intro i h0 hi
  have hi' : i < l.length := by simpa using hi
  have e1 := key_rd (l.map (·.1)) (i - 1) (by simp; omega)
  have e2 := key_rd (l.map (·.1)) i hi
  rw [List.getElem?_eq_getElem (by simp; omega), List.getElem_map] at e1
  rw [List.getElem?_eq_getElem hi, List.getElem_map] at e2
  rw [← Option.some.inj e1, ← Option.some.inj e2]
  exact (List.pairwise_iff_getElem.1 h) (i - 1) i (by omega) hi' (by omega)
/-- Two objects' sum; two arrays'; two texts'. -/
def sumM (a b : V) : V := ⟨6, 0, ⟨#[]⟩, [], (foldKV (kv a) (kv b)).map (·.1), (foldKV (kv a) (kv b)).map (·.2)⟩
def catV (a b : V) : V := ⟨5, 0, ⟨#[]⟩, a.f3 ++ b.f3, [], []⟩
def txtV (a b : V) : V := ⟨4, 0, a.f2 ++ b.f2, [], [], []⟩
theorem kv_mem {x : V} {q : ByteArray × V} (h : q ∈ kv x) : q.1 ∈ x.f4 ∧ q.2 ∈ x.f5 := by
  obtain ⟨p1, p2⟩ := q
  exact List.of_mem_zip h
theorem wl_sumM {a b : V} (ha : WL a) (hb : WL b) (hn : a.f4.length + b.f4.length ≤ 1000000) : WL (sumM a b) := by
  have hl : (foldKV (kv a) (kv b)).length ≤ 1000000 := by
    have h1 := fold_len (kv b) (kv a)
    have h2 : (kv a).length ≤ a.f4.length := by unfold kv; rw [List.length_zip]; omega
    have h3 : (kv b).length ≤ b.f4.length := by unfold kv; rw [List.length_zip]; omega
    omega
  refine .mk _ ?_ (show c2B 0 = true by decide) (by simp [sumM]) (by simpa [sumM] using hl) (rise_keys (fold_rise _ (kv_rise ha))) (fun y hy => by cases hy) (fun y hy => ?_)
  · simp [sumM, c1B]
  · obtain ⟨q, hq, rfl⟩ := List.mem_map.1 hy
    rcases fold_mem _ hq with h | h
    · exact ha.h5 _ (kv_mem h).2
    · exact hb.h5 _ (kv_mem h).2
theorem sz_sumM {a b : V} (ha : Sz a) (hb : Sz b) : Sz (sumM a b) := by
  refine .mk _ (show (0 : Nat) ≤ 9223372036854775807 by omega) (fun s hs => ?_) (fun y hy => by cases hy) (fun y hy => ?_)
  · obtain ⟨q, hq, rfl⟩ := List.mem_map.1 hs
    rcases fold_mem _ hq with h | h
    · exact (sz_h4 ha) _ (kv_mem h).1
    · exact (sz_h4 hb) _ (kv_mem h).1
  · obtain ⟨q, hq, rfl⟩ := List.mem_map.1 hy
    rcases fold_mem _ hq with h | h
    · exact (sz_h5 ha) _ (kv_mem h).2
    · exact (sz_h5 hb) _ (kv_mem h).2
theorem wl_catV {a b : V} (ha : WL a) (hb : WL b) (hn : a.f3.length + b.f3.length ≤ 1000000) : WL (catV a b) := by
  refine .mk _ (by simp [catV, c1B]) (show c2B 0 = true by decide) (by simpa [catV] using hn) (by simp [catV]) (fun i _ h => by simp [catV] at h) (fun y hy => ?_) (fun y hy => by cases hy)
  rcases List.mem_append.1 hy with h | h
  · exact ha.h3 _ h
  · exact hb.h3 _ h
theorem sz_catV {a b : V} (ha : Sz a) (hb : Sz b) : Sz (catV a b) := by
  refine .mk _ (show (0 : Nat) ≤ 9223372036854775807 by omega) (fun s hs => by cases hs) (fun y hy => ?_) (fun y hy => by cases hy)
  rcases List.mem_append.1 hy with h | h
  · exact (sz_h3 ha) _ h
  · exact (sz_h3 hb) _ h
theorem wl_txtV (a b : V) : WL (txtV a b) :=
  .mk _ (by simp [txtV, c1B]) (show c2B 0 = true by decide) (by simp [txtV]) (by simp [txtV]) (fun i _ h => by simp [txtV] at h) (fun y hy => by cases hy) (fun y hy => by cases hy)
theorem sz_txtV {a b : V} (h : a.f2.size + b.f2.size ≤ 9223372036854775807) : Sz (txtV a b) :=
  .mk _ (by simpa [txtV, ByteArray.size_append] using h) (fun s hs => by cases hs) (fun y hy => by cases hy) (fun y hy => by cases hy)
theorem sumM_nil_l {a b : V} (hb : WL b) (h0 : b.f0 = 6) (he : a.f4 = []) : sumM a b = b := by
  have hf := (wf_facts hb).2.2.2
  refine Eq.trans ?_ (map_eq hb h0).symm
  have e : kv a = [] := by unfold kv; rw [he]; rfl
  unfold sumM
  rw [e, fold_end _ _ (by simpa using kv_rise hb), List.nil_append, kv_keys hf, kv_vals hf]
theorem sumM_nil_r {a b : V} (ha : WL a) (h0 : a.f0 = 6) (he : b.f4 = []) : sumM a b = a := by
  have hf := (wf_facts ha).2.2.2
  refine Eq.trans ?_ (map_eq ha h0).symm
  have e : kv b = [] := by unfold kv; rw [he]; rfl
  unfold sumM
  rw [e, fold_end _ _ (by simpa using kv_rise ha), List.append_nil, kv_keys hf, kv_vals hf]
theorem catV_nil_l {a b : V} (hb : WL b) (h0 : b.f0 = 5) (he : a.f3 = []) : catV a b = b := by
  rw [list_eq hb h0]; simp [catV, he]
theorem catV_nil_r {a b : V} (ha : WL a) (h0 : a.f0 = 5) (he : b.f3 = []) : catV a b = a := by
  rw [list_eq ha h0]; simp [catV, he]
theorem kv_at {x : V} {q : ByteArray × V} (h : q ∈ kv x) : ∃ i : Nat, x.f4[i]? = some q.1 ∧ x.f5[i]? = some q.2 := by
  obtain ⟨i, hi⟩ := List.getElem?_of_mem h
  unfold kv at hi
  rw [List.getElem?_zip_eq_some] at hi
  exact ⟨i, hi⟩
/-- The Go value of two objects' sum. -/
theorem G_sumM {n1 n2 k B : Nat} {w : World} {a b : V} {es e1 e2 : List MapEntry} (ha : WL a) (hb : WL b) (hk1 : (e1.map (·.key)).Perm (a.f4.map Value.string)) (hk2 : (e2.map (·.key)).Perm (b.f4.map Value.string))
    (he1 : ∀ (i : Nat) (s : ByteArray) (y : V) (e : MapEntry), a.f4[i]? = some s → a.f5[i]? = some y → e ∈ e1 → e.key = .string s → G n1 w y e.val)
    (he2 : ∀ (i : Nat) (s : ByteArray) (y : V) (e : MapEntry), b.f4[i]? = some s → b.f5[i]? = some y → e ∈ e2 → e.key = .string s → G n2 w y e.val)
    (hw : w.heap[B]? = some (.map es.toArray k)) (hst : MapKept.Stamped es.toArray k) (hks : ∀ e ∈ es, ∃ t : ByteArray, e.key = .string t ∧ t.size ≤ 9223372036854775807) (hM : Merges es e1 e2) :
    G 0 w (sumM a b) (.iface 67 (.map (some B))) := by
  have fa := (wf_facts ha).2.2.2
  have fb := (wf_facts hb).2.2.2
  have rb := kv_rise hb
  have rs := fold_rise (kv b) (kv_rise ha)
  have hin : ∀ {es : List MapEntry} {l : List ByteArray}, (es.map (·.key)).Perm (l.map Value.string) → ∀ s, (∃ e ∈ es, e.key = .string s) ↔ s ∈ l := by
    intro es l hp s
    have h := hp.mem_iff (a := Value.string s)
    rw [List.mem_map, List.mem_map] at h
    rw [h]
    exact ⟨fun ⟨t, h1, h2⟩ => by cases h2; exact h1, fun h1 => ⟨s, h1, rfl⟩⟩
  have hkm : ∀ {x : V}, x.f4.length = x.f5.length → ∀ s, s ∈ x.f4 ↔ getKV (kv x) s ≠ none := by
    intro x hx s
    rw [← kv_keys hx, List.mem_map, Ne, get_none]
    constructor
    · rintro ⟨q, h1, h2⟩ h
      exact h q h1 h2
    · intro h
      refine Classical.byContradiction fun h2 => h fun q hq e => h2 ⟨q, hq, e⟩
  have hmem : ∀ s, s ∈ (sumM a b).f4 ↔ ∃ e ∈ es, e.key = .string s := by
    intro s
    have h1 := hM.1 s
    rw [h1, hin hk1 s, hin hk2 s, hkm fa s, hkm fb s]
    have h2 := fold_get s (kv b) (kv a) rb
    show s ∈ (foldKV (kv a) (kv b)).map (·.1) ↔ _
    have h3 : s ∈ (foldKV (kv a) (kv b)).map (·.1) ↔ getKV (foldKV (kv a) (kv b)) s ≠ none := by
      rw [List.mem_map, Ne, get_none]
      constructor
      · rintro ⟨q, h1, h2⟩ h
        exact h q h1 h2
      · intro h
        refine Classical.byContradiction fun h2 => h fun q hq e => h2 ⟨q, hq, e⟩
    rw [h3, h2]
    cases getKV (kv b) s <;> cases getKV (kv a) s <;> simp
  have hperm : (es.map (·.key)).Perm ((sumM a b).f4.map Value.string) := by
    refine (List.perm_ext_iff_of_nodup ?_ ?_).2 fun v => ?_
    · have h := ((MapKept.stamped_iff es.toArray k).1 hst).2.2
      unfold List.Nodup
      rw [List.pairwise_map]
      simpa using h
    · unfold List.Nodup
      rw [List.pairwise_map]
      show List.Pairwise _ ((foldKV (kv a) (kv b)).map (·.1))
      rw [List.pairwise_map]
      refine List.Pairwise.imp (fun {p q} h e => ?_) rs
      have e2 : p.1 = q.1 := Value.string.inj e
      rw [e2, bl_self] at h
      cases h
    · rw [List.mem_map, List.mem_map]
      constructor
      · rintro ⟨e, h1, rfl⟩
        obtain ⟨t, e2, _⟩ := hks e h1
        exact ⟨t, (hmem t).2 ⟨e, h1, e2⟩, e2.symm⟩
      · rintro ⟨s, h1, rfl⟩
        obtain ⟨e, h2, h3⟩ := (hmem s).1 h1
        exact ⟨e, h2, h3⟩
  refine .map _ rfl B es k (Nat.zero_le _) (by have := hperm.length_eq; simpa using this) hw hst hperm ?_
  intro i s y e hs hy he hke
  have hq : (s, y) ∈ foldKV (kv a) (kv b) := by
    have h1 : ((foldKV (kv a) (kv b)).map (·.1))[i]? = some s := hs
    have h2 : ((foldKV (kv a) (kv b)).map (·.2))[i]? = some y := hy
    rw [List.getElem?_map] at h1 h2
    cases hc : (foldKV (kv a) (kv b))[i]? with
    | none => rw [hc] at h1; cases h1
    | some q =>
      rw [hc] at h1 h2
      have e1 : q.1 = s := Option.some.inj h1
      have e2 : q.2 = y := Option.some.inj h2
      have := List.mem_of_getElem? hc
      rw [← e1, ← e2]
      exact this
  have hg := mem_get rs hq
  rw [fold_get s _ _ rb] at hg
  have hv := hM.2 e he s hke
  cases hb0 : getKV (kv b) s with
  | some y2 =>
    rw [hb0] at hg
    obtain rfl : y2 = y := by simpa using hg
    have hm := get_mem hb0
    obtain ⟨j, j1, j2⟩ := kv_at hm
    obtain ⟨d, hd, hkd⟩ := (hin hk2 s).2 (kv_mem hm).1
    rw [hv.1 d hd hkd]
    exact (he2 j s y2 d j1 j2 hd hkd).mono (Nat.zero_le _)
  | none =>
    rw [hb0] at hg
    have hg : getKV (kv a) s = some y := by simpa using hg
    have hm := get_mem hg
    obtain ⟨j, j1, j2⟩ := kv_at hm
    obtain ⟨d, hd, hkd⟩ := (hin hk1 s).2 (kv_mem hm).1
    have hno : ∀ d ∈ e2, d.key ≠ .string s := fun d hd hkd => ((hkm fb s).1 ((hin hk2 s).1 ⟨d, hd, hkd⟩)) hb0
    rw [hv.2 hno d hd hkd]
    exact (he1 j s y d j1 j2 hd hkd).mono (Nat.zero_le _)
/-- The Go value of two arrays' sum. -/
theorem G_catV {n1 n2 B : Nat} {w : World} {a b : V} {l1 l2 : List Value} (hl1 : l1.length = a.f3.length) (hl2 : l2.length = b.f3.length) (he1 : ∀ (i : Nat) (y : V) (v : Value), a.f3[i]? = some y → l1[i]? = some v → G n1 w y v)
    (he2 : ∀ (i : Nat) (y : V) (v : Value), b.f3[i]? = some y → l2[i]? = some v → G n2 w y v) (hw : w.heap[B]? = some (.cells (l1 ++ l2).toArray 20 (0, 0))) :
    G 0 w (catV a b) (.iface 78 (.slice (some ⟨B, 0, none⟩) (l1.length + l2.length) (l1.length + l2.length))) := by
  have hlen : (catV a b).f3.length = l1.length + l2.length := by simp [catV, hl1, hl2]
  rw [← hlen]
  refine .list _ rfl B (l1 ++ l2) (Nat.zero_le _) (by simp [catV, hl1, hl2]) hw ?_
  intro i y v hy hv
  have hy : (a.f3 ++ b.f3)[i]? = some y := hy
  by_cases c : i < l1.length
  · rw [List.getElem?_append_left c] at hv
    rw [List.getElem?_append_left (by omega)] at hy
    exact (he1 i y v hy hv).mono (Nat.zero_le _)
  · rw [List.getElem?_append_right (by omega)] at hv
    rw [List.getElem?_append_right (by omega), ← hl1] at hy
    exact (he2 _ y v hy hv).mono (Nat.zero_le _)
end Go.Proofs.YtcoahpcjhhnkkaaGreatDoor.NumA
/-
gojq's sum at two arrays, two texts, two objects.
-/
set_option linter.unusedSimpArgs false
set_option linter.unusedVariables false
namespace Go.Proofs.YtcoahpcjhhnkkaaGreatDoor.NumA
open Go.RowKit Go.Lib Go.Proofs.YtcoahpcjhhnkkaaGreatDoor.ValA Go.Proofs.YtcoahpcjhhnkkaaGreatDoor.FloH Go.Proofs.YtcoahpcjhhnkkaaGreatDoorW.PrintWords Go.Proofs.YtcoahpcjhhnkkaaGreatDoorW.PrintLast Go.Proofs.YtcoahpcjhhnkkaaGreatDoorW.PrintMore Go.Proofs.YtcoahpcjhhnkkaaGreatDoor.PzzFits1
theorem zz_add_gen (l r : Value) (Q : Ending → World → Prop) (w : World) (HB : Calls Tryz.prog 106 #[l, r, Value.func (Fn.func 120) #[] #[], Value.func (Fn.func 122) #[] #[], Value.func (Fn.func 123) #[] #[], Value.func (Fn.func 124) #[] #[], Value.func (Fn.func 125) #[] #[], Value.func (Fn.func 126) #[] #[], Value.func (Fn.func 127) #[] #[]] w fun e w' => ∃ v, e = .returned v ∧ Q e w') : Calls Tryz.prog 53 #[l, r] w Q := by
  refine Calls.mono (R := fun e w' => ∃ v, e = .returned v ∧ Q e w') ?_ (fun _ _ ⟨_, _, h⟩ => h)
  have H := Lib.hid HB
  clear HB
  have H1 : Hid (Calls Tryz.prog 90 #[.nilIface, l, r] w (fun e w' => ∃ v, e = .returned v ∧ Q e w')) := by
    refine Lib.hid ?_
    go_enter Tryz.func90, Tryz.ntmps90
    go_wp2_with fail
    refine H.out.mono ?_
    rintro e w1 ⟨v, rfl, hq⟩
    have HB := Lib.hid hq; clear hq
    go_wp2_with fail
    go_ret
    exact ⟨_, rfl, HB.out⟩
  clear H
  go_enter Tryz.func53, Tryz.ntmps53
  go_wp2_with fail
  refine H1.out.mono ?_
  rintro e w1 ⟨v, rfl, hq⟩
  have HB := Lib.hid hq; clear hq
  go_wp2_with fail
  go_ret
  exact ⟨_, rfl, HB.out⟩
theorem add_l0 (A B : Option Addr) (m : Nat) (w : World) : Calls Tryz.prog 125 #[.slice A 0 0, .slice B m m] w (Gv (.iface 78 (.slice B m m)) w) := by
  go_enter Tryz.func125, Tryz.ntmps125
  go_wp2_with fail
  go_ret
  exact ⟨rfl, Below.refl _ _⟩
theorem add_l1 (A B : Option Addr) (n : Nat) (hn : 0 < n) (w : World) : Calls Tryz.prog 125 #[.slice A n n, .slice B 0 0] w (Gv (.iface 78 (.slice A n n)) w) := by
  have f1 : ((n : Int) == 0) = false := by simp; omega
  have f3 : (n == 0) = false := by simp; omega
  clear hn
  go_enter Tryz.func125, Tryz.ntmps125
  go_wp2_with fail
  go_ret
  exact ⟨rfl, Below.refl _ _⟩
theorem len_map {w : World} {b c : Nat} {es : List MapEntry} {l : List ByteArray} (hb : w.heap[b]? = some (.map es.toArray c)) (hst : MapKept.Stamped es.toArray c) (hn : es.length ≤ 1000000) (hk : KeysAre es l) (ty : TypeId) : (Builtin.len_ #[67] ty #[.map (some b)]).run Tryz.prog w = .ok (.int .i64 (es.length : Int)) w := by
  obtain ⟨D, hD⟩ : ∃ D, IsD es D := ⟨_, rfl⟩
  have := (owns_of hb hst hn hk hD).len Tryz.underlying67 ty
  rwa [size_D hD] at this
theorem add_m0 (b c : Nat) (w : World) (h : ∀ ty, (Builtin.len_ #[67] ty #[.map (some b)]).run Tryz.prog w = .ok (.int .i64 0) w) : Calls Tryz.prog 126 #[.map (some b), .map (some c)] w (Gv (.iface 67 (.map (some c))) w) := by
  go_enter Tryz.func126, Tryz.ntmps126
  go_wp2_with fail
  go_ret
  exact ⟨rfl, Below.refl _ _⟩
theorem add_m1 (b c n : Nat) (hn : 0 < n) (w : World) (h : ∀ ty, (Builtin.len_ #[67] ty #[.map (some b)]).run Tryz.prog w = .ok (.int .i64 (n : Int)) w) (h2 : ∀ ty, (Builtin.len_ #[67] ty #[.map (some c)]).run Tryz.prog w = .ok (.int .i64 0) w) : Calls Tryz.prog 126 #[.map (some b), .map (some c)] w (Gv (.iface 67 (.map (some b))) w) := by
  have f1 : ((n : Int) == 0) = false := by simp; omega
  have f3 : (n == 0) = false := by simp; omega
  clear hn
  go_enter Tryz.func126, Tryz.ntmps126
  go_wp2_with fail
  go_ret
  exact ⟨rfl, Below.refl _ _⟩
/-- A sum whose Go value is x's. -/
def SumIs (x : V) (w : World) (e : Ending) (w' : World) : Prop := ∃ r k, e = .returned r ∧ G k w' x r ∧ Below w.heap.size w w'
theorem zz_add_ll {a b : V} (ha : WL a) (hb : WL b) (ka : a.f0 = 5) (kb : b.f0 = 5) (hn : a.f3.length ≤ 1000000) (hm : b.f3.length ≤ 1000000) {n m : Nat} {w : World} {g h : Value} (Ga : G n w a g) (Gb : G m w b h) : Calls Tryz.prog 53 #[g, h] w (SumIs (catV a b) w) := by
  have Ga0 := Ga
  have Gb0 := Gb
  obtain ⟨p, l1, rfl, _, hl1, hw1, he1⟩ := Ga.list_inv ka
  obtain ⟨q, l2, rfl, _, hl2, hw2, he2⟩ := Gb.list_inv kb
  refine zz_add_gen _ _ _ w (bin_add_ll _ _ _ _ _ w ?_)
  by_cases c1 : a.f3.length = 0
  · rw [c1]
    refine (add_l0 _ _ _ w).mono ?_
    rintro e w' ⟨rfl, hb'⟩
    exact ⟨_, rfl, _, m, rfl, by rw [catV_nil_l hb kb (List.length_eq_zero_iff.1 c1)]; exact Gb0.keepB hb', hb'⟩
  by_cases c2 : b.f3.length = 0
  · rw [c2]
    refine (add_l1 _ _ _ (by omega) w).mono ?_
    rintro e w' ⟨rfl, hb'⟩
    exact ⟨_, rfl, _, n, rfl, by rw [catV_nil_r ha ka (List.length_eq_zero_iff.1 c2)]; exact Ga0.keepB hb', hb'⟩
  have o1 : ∀ v ∈ l1, v.oneCell' = true := fun v hv => by
    obtain ⟨i, hi⟩ := List.getElem?_of_mem hv
    have hi2 := (List.getElem?_eq_some_iff.1 hi).1
    exact (he1 i _ v (List.getElem?_eq_getElem (by omega)) hi).one
  have o2 : ∀ v ∈ l2, v.oneCell' = true := fun v hv => by
    obtain ⟨i, hi⟩ := List.getElem?_of_mem hv
    have hi2 := (List.getElem?_eq_some_iff.1 hi).1
    exact (he2 i _ v (List.getElem?_eq_getElem (by omega)) hi).one
  refine (add_lists w p q _ _ l1 l2 hl1 hl2 (by omega) (by omega) (by omega) (by omega) hw1 hw2 o1 o2).mono ?_
  rintro e w' ⟨rfl, hw, hb'⟩
  exact ⟨_, rfl, _, 0, rfl, G_catV hl1 hl2 (fun i y v hy hv => (he1 i y v hy hv).keepB hb') (fun i y v hy hv => (he2 i y v hy hv).keepB hb') hw, hb'⟩
theorem zz_add_mm {a b : V} (ha : WL a) (hb : WL b) (za : Sz a) (zb : Sz b) (ka : a.f0 = 6) (kb : b.f0 = 6) (hn : a.f4.length ≤ 1000000) (hm : b.f4.length ≤ 1000000) {n m : Nat} {w : World} {g h : Value} (Ga : G n w a g) (Gb : G m w b h) : Calls Tryz.prog 53 #[g, h] w (SumIs (sumM a b) w) := by
  have Ga0 := Ga
  have Gb0 := Gb
  obtain ⟨p, e1, c1, rfl, _, hl1, hw1, hs1, hp1, he1⟩ := Ga.map_inv ka
  obtain ⟨q, e2, c2, rfl, _, hl2, hw2, hs2, hp2, he2⟩ := Gb.map_inv kb
  have K1 : KeysAre e1 a.f4 := ⟨hl1, hp1, sz_h4 za⟩
  have K2 : KeysAre e2 b.f4 := ⟨hl2, hp2, sz_h4 zb⟩
  have t1 := fun ty => len_map hw1 hs1 (by omega) K1 ty
  have t2 := fun ty => len_map hw2 hs2 (by omega) K2 ty
  refine zz_add_gen _ _ _ w (bin_add_mm _ _ _ w ?_)
  by_cases d1 : e1.length = 0
  · rw [d1] at t1
    refine (add_m0 p q w t1).mono ?_
    rintro e w' ⟨rfl, hb'⟩
    exact ⟨_, rfl, _, m, rfl, by rw [sumM_nil_l hb kb (List.length_eq_zero_iff.1 (by omega))]; exact Gb0.keepB hb', hb'⟩
  by_cases d2 : e2.length = 0
  · rw [d2] at t2
    refine (add_m1 p q _ (by omega) w t1 t2).mono ?_
    rintro e w' ⟨rfl, hb'⟩
    exact ⟨_, rfl, _, n, rfl, by rw [sumM_nil_r ha ka (List.length_eq_zero_iff.1 (by omega))]; exact Ga0.keepB hb', hb'⟩
  refine (add_maps w p q _ _ c1 c2 e1 e2 _ _ rfl rfl (by omega) (by omega) (by omega) (by omega) hw1 hw2 hs1 hs2 K1 K2).mono ?_
  rintro e w' ⟨es, k, rfl, hw, hst, hks, hM, hb'⟩
  exact ⟨_, rfl, _, 0, rfl, G_sumM ha hb hp1 hp2 (fun i s y e h1 h2 h3 h4 => (he1 i s y e h1 h2 h3 h4).keepB hb') (fun i s y e h1 h2 h3 h4 => (he2 i s y e h1 h2 h3 h4).keepB hb') hw hst hks hM, hb'⟩
theorem zz_add_ss {a b : V} (ka : a.f0 = 4) (kb : b.f0 = 4) (hs : a.f2.size + b.f2.size ≤ 9223372036854775807) {n m : Nat} {w : World} {g h : Value} (Ga : G n w a g) (Gb : G m w b h) : Calls Tryz.prog 53 #[g, h] w (SumIs (txtV a b) w) := by
  obtain rfl := Ga.flat_inv (by omega)
  obtain rfl := Gb.flat_inv (by omega)
  have e1 : ∀ x : V, x.f0 = 4 → fg x.f0 x.f1 x.f2 = .iface 9 (.string x.f2) := fun x hx => by rw [hx]; rfl
  rw [e1 a ka, e1 b kb]
  refine zz_add_gen _ _ _ w (bin_add_ss _ _ _ w ?_)
  refine (add_strs _ _ hs w).mono ?_
  rintro e w' ⟨rfl, hb'⟩
  exact ⟨_, rfl, _, 0, rfl, .flat (txtV a b) (by show (4 : Int) ≤ 4; omega), hb'⟩
end Go.Proofs.YtcoahpcjhhnkkaaGreatDoor.NumA
/-
Sums of two arrays or two texts: results that stand.
-/
set_option linter.unusedSimpArgs false
set_option linter.unusedVariables false
namespace Go.Proofs.YtcoahpcjhhnkkaaGreatDoor.ValA
open Go.RowKit Go.Lib Go.Proofs.YtcoahpcjhhnkkaaGreatDoorW.PrintWords Go.Proofs.YtcoahpcjhhnkkaaGreatDoorW.PrintLast Go.Proofs.YtcoahpcjhhnkkaaGreatDoorW.PrintMore Go.Proofs.YtcoahpcjhhnkkaaGreatDoor.PzzFits1 Go.Proofs.YtcoahpcjhhnkkaaGreatDoor.NumA
/-- The sum of two arrays or two texts. -/
def joinV (a b : V) : V := if a.f0 = 4 then txtV a b else catV a b
theorem joinV_f0 {a b : V} (h : a.f0 = 4 ∨ a.f0 = 5) : (joinV a b).f0 = a.f0 := by
  unfold joinV
  rcases h with h | h <;> simp [h, txtV, catV]
theorem joinV_f3 {a b : V} (ha : WL a) (hb : WL b) (e : a.f0 = b.f0) (h : a.f0 = 4 ∨ a.f0 = 5) : (joinV a b).f3.length = a.f3.length + b.f3.length := by
  unfold joinV
  rcases h with h | h
  · simp [h, txtV, (wf_shape ha).2.2.1 (by omega), (wf_shape hb).2.2.1 (by omega)]
  · simp [h, catV]
theorem joinV_f2 {a b : V} (ha : WL a) (hb : WL b) (e : a.f0 = b.f0) (h : a.f0 = 4 ∨ a.f0 = 5) : (joinV a b).f2.size = a.f2.size + b.f2.size := by
  unfold joinV
  rcases h with h | h
  · simp [h, txtV, ByteArray.size_append]
  · rw [(wf_shape ha).2.1 (by omega), (wf_shape hb).2.1 (by omega), if_neg (by omega)]
    rfl
theorem joinV_assoc (a b c : V) (e : a.f0 = b.f0) (h : a.f0 = 4 ∨ a.f0 = 5) : joinV (joinV a b) c = joinV a (joinV b c) := by
  unfold joinV
  rcases h with h | h
  · simp [h, ← e, txtV, ByteArray.append_assoc]
  · simp [h, ← e, catV]
theorem wl_joinV {a b : V} (ha : WL a) (hb : WL b) (hn : a.f3.length + b.f3.length ≤ 1000000) : WL (joinV a b) := by
  unfold joinV
  split
  · exact wl_txtV a b
  · exact wl_catV ha hb hn
theorem sz_joinV {a b : V} (ha : Sz a) (hb : Sz b) (hs : a.f2.size + b.f2.size ≤ 9223372036854775807) : Sz (joinV a b) := by
  unfold joinV
  split
  · exact sz_txtV hs
  · exact sz_catV ha hb
theorem zz_join {a b : V} (ha : WL a) (hb : WL b) (e : a.f0 = b.f0) (h : a.f0 = 4 ∨ a.f0 = 5) (hn : a.f3.length ≤ 1000000) (hm : b.f3.length ≤ 1000000) (hs : a.f2.size + b.f2.size ≤ 9223372036854775807) {n m : Nat} {w : World} {g g' : Value} (Ga : G n w a g) (Gb : G m w b g') :
    Calls Tryz.prog 53 #[g, g'] w (SumIs (joinV a b) w) := by
  unfold joinV
  rcases h with h | h
  · rw [if_pos h]; exact zz_add_ss h (by omega) hs Ga Gb
  · rw [if_neg (by omega)]; exact zz_add_ll ha hb h (by omega) hn hm Ga Gb
/-- impl.OpAdd at two arrays or two texts: one result more. -/
theorem opAdd_join (w0 : World) {a b : V} {A3a A4a A5a : Option Addr} {c3a c4a c5a : Nat} {A3b A4b A5b : Option Addr} {c3b c4b c5b : Nat}
    (Ta : ToGo w0 a [.int .i64 a.f0, .int .i64 a.f1, .string a.f2, .slice A3a a.f3.length c3a, .slice A4a a.f4.length c4a, .slice A5a a.f5.length c5a])
    (Tb : ToGo w0 b [.int .i64 b.f0, .int .i64 b.f1, .string b.f2, .slice A3b b.f3.length c3b, .slice A4b b.f4.length c4b, .slice A5b b.f5.length c5b])
    (ha : WL a) (hb : WL b) (za : Sz a) (zb : Sz b) (e : a.f0 = b.f0) (h : a.f0 = 4 ∨ a.f0 = 5) (hn : a.f3.length + b.f3.length ≤ 1000000) (hs : a.f2.size + b.f2.size ≤ 9223372036854775807)
    {w w1 : World} {L : List (Nat × Array Value × TypeId)} {rs : List (V × Array Value)} (hS : SPR w L rs w1) (hbb : Below w0.heap.size w0 w1) :
    Calls Tryz.prog 30 #[.agg #[.int .i64 a.f0, .int .i64 a.f1, .string a.f2, .slice A3a a.f3.length c3a, .slice A4a a.f4.length c4a, .slice A5a a.f5.length c5a], .agg #[.int .i64 b.f0, .int .i64 b.f1, .string b.f2, .slice A3b b.f3.length c3b, .slice A4b b.f4.length c4b, .slice A5b b.f5.length c5b]] w1
      fun e w' => ∃ cs, e = .returned (.agg cs) ∧ SPR w L (rs ++ [(joinV a b, cs)]) w' :=
  hS.res (impl_opAdd w0 a b (joinV a b) _ _ _ _ _ _ _ _ _ _ _ _ _ _ _ _ _ _ _ _ _ _ _ _ Ta Tb (wl_joinV ha hb hn) (sz_joinV za zb hs) (fun g g' n m w Ga Gb => zz_join ha hb e h (by omega) (by omega) hs Ga Gb) w1 hbb)
theorem opAdd_joinE {j a b : V} (hj : j = joinV a b) (w0 : World) {A3a A4a A5a : Option Addr} {c3a c4a c5a : Nat} {A3b A4b A5b : Option Addr} {c3b c4b c5b : Nat}
    (Ta : ToGo w0 a [.int .i64 a.f0, .int .i64 a.f1, .string a.f2, .slice A3a a.f3.length c3a, .slice A4a a.f4.length c4a, .slice A5a a.f5.length c5a])
    (Tb : ToGo w0 b [.int .i64 b.f0, .int .i64 b.f1, .string b.f2, .slice A3b b.f3.length c3b, .slice A4b b.f4.length c4b, .slice A5b b.f5.length c5b])
    (ha : WL a) (hb : WL b) (za : Sz a) (zb : Sz b) (e : a.f0 = b.f0) (h : a.f0 = 4 ∨ a.f0 = 5) (hn : a.f3.length + b.f3.length ≤ 1000000) (hs : a.f2.size + b.f2.size ≤ 9223372036854775807)
    {w w1 : World} {L : List (Nat × Array Value × TypeId)} {rs : List (V × Array Value)} (hS : SPR w L rs w1) (hbb : Below w0.heap.size w0 w1) :
    Calls Tryz.prog 30 #[.agg #[.int .i64 a.f0, .int .i64 a.f1, .string a.f2, .slice A3a a.f3.length c3a, .slice A4a a.f4.length c4a, .slice A5a a.f5.length c5a], .agg #[.int .i64 b.f0, .int .i64 b.f1, .string b.f2, .slice A3b b.f3.length c3b, .slice A4b b.f4.length c4b, .slice A5b b.f5.length c5b]] w1
      fun e w' => ∃ cs, e = .returned (.agg cs) ∧ SPR w L (rs ++ [(j, cs)]) w' := by
  subst hj
  exact opAdd_join w0 Ta Tb ha hb za zb e h hn hs hS hbb
end Go.Proofs.YtcoahpcjhhnkkaaGreatDoor.ValA
