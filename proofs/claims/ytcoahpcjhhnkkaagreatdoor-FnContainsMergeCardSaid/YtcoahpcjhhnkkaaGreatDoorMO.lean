/-
Parts of the proof, one behind the other: MapV, ConT, ConB, ConL, ConM, ConC, ConD, HasB, FitB.
-/
import Derived.Test.YtcoahpcjhhnkkaaGreatDoorME
import Derived.Test.YtcoahpcjhhnkkaaGreatDoorMC
import Derived.Test.YtcoahpcjhhnkkaaGreatDoorMF
import Derived.WalkMore
import Derived.Test.YtcoahpcjhhnkkaaGreatDoorMD
import Derived.Test.YtcoahpcjhhnkkaaGreatDoorMK
import Derived.Test.YtcoahpcjhhnkkaaGreatDoorMB
/-
Maps with string keys and whatever elements: what a range meets, what a look-up finds.
-/
set_option linter.unusedSimpArgs false
set_option linter.unusedVariables false
namespace Go.Proofs.YtcoahpcjhhnkkaaGreatDoor.NumA
open Go.RowKit Go.Lib Go.Proofs.YtcoahpcjhhnkkaaGreatDoor.ValA Go.Proofs.YtcoahpcjhhnkkaaGreatDoor.FloH Go.Proofs.YtcoahpcjhhnkkaaGreatDoorW.PrintWords Go.Proofs.YtcoahpcjhhnkkaaGreatDoorW.PrintLast Go.Proofs.YtcoahpcjhhnkkaaGreatDoorW.PrintMore Go.Proofs.YtcoahpcjhhnkkaaGreatDoor.PzzFits1
/-- An element of a map, read as itself. -/
def Rm (v : Value) : Option (DataW Value × List MemPlace) := some (.held v, [])
/-- A map's entries as a datum. -/
def IsM (es : List MapEntry) (D : DataW Value) : Prop := D = .map ((es.map (WideElems.rg Tryz.prog 9 Rm)).foldr DataW.insert [])
theorem rgM {es : List MapEntry} {c : Nat} (F : WideElems.Fit Tryz.prog 9 Rm es.toArray c) {e : MapEntry} (he : e ∈ es) : ∃ kl, keyOf Tryz.prog 9 e.key = some kl ∧ WideElems.rg Tryz.prog 9 Rm e = (kl, .held e.val) := by
  obtain ⟨y, hy⟩ := F.reads e (by simpa using he)
  have h1 := WideElems.rd_key hy
  refine ⟨y.1, h1, ?_⟩
  rw [WideElems.rg_of hy]
  unfold WideElems.rd at hy
  rw [h1] at hy
  simp only [Option.bind_some, Rm, Option.map_some, Option.some.injEq] at hy
  exact hy.symm
theorem apartedM {l : List (Lit × DataW Value)} (h : l.Pairwise (fun p q => p.1 ≠ q.1)) : (l.foldr DataW.insert []).Pairwise (fun p q => p.1 ≠ q.1) :=
  ((WideShapes.sorted_perm l).pairwise_iff (fun {_ _} hne => Ne.symm hne)).2 h
theorem apartM {es : List MapEntry} {c : Nat} (F : WideElems.Fit Tryz.prog 9 Rm es.toArray c) : ((es.map (WideElems.rg Tryz.prog 9 Rm)).foldr DataW.insert []).Pairwise (fun p q => p.1 ≠ q.1) :=
  apartedM (by have h := Maps.fit_apart keyedS F; rw [List.toList_toArray] at h; exact h)
theorem atM {es : List MapEntry} {c : Nat} {D : DataW Value} (F : WideElems.Fit Tryz.prog 9 Rm es.toArray c) (hD : IsM es D) {s : ByteArray} (hs : s.size ≤ 9223372036854775807) {e : MapEntry} (he : e ∈ es) (hk : e.key = .string s) (z : DataW Value) : D.atKey (.string s.data.toList) z = .held e.val := by
  unfold IsM at hD
  subst hD
  obtain ⟨kl, h1, h2⟩ := rgM F he
  rw [hk, key_lit s hs] at h1
  obtain rfl := Option.some.inj h1
  exact WideAt.atKey_mem z trivial (apartM F) (mem_sorted.2 (by rw [← h2]; exact List.mem_map.2 ⟨e, he, rfl⟩))
theorem heldM {v u : Value} (h : (DataW.held v : DataW Value) = .held u) : v = u := by cases h; rfl
theorem sizeM {es : List MapEntry} {D : DataW Value} (hD : IsM es D) : Maps.size D = es.length := by
  unfold IsM at hD
  subst hD
  simp [Maps.size, length_sorted]
theorem fitM {es : List MapEntry} {c : Nat} {l : List ByteArray} (hst : MapKept.Stamped es.toArray c) (hn : es.length ≤ 2000000) (hk : KeysAre es l) : WideElems.Fit Tryz.prog 9 Rm es.toArray c := by
  refine ⟨by unfold maxLen; simp; omega, hst, fun x hx => ?_⟩
  obtain ⟨t, e1, e2⟩ := hk.all x (by simpa using hx)
  refine ⟨(.string t.data.toList, .held x.val), ?_⟩
  unfold WideElems.rd
  rw [e1, key_lit t e2]
  rfl
theorem hasM {es : List MapEntry} {c : Nat} {D : DataW Value} (F : WideElems.Fit Tryz.prog 9 Rm es.toArray c) (hD : IsM es D) {s : ByteArray} (hs : s.size ≤ 9223372036854775807) : Maps.has D (.string s.data.toList) = true ↔ ∃ e ∈ es, e.key = .string s := by
  unfold IsM at hD
  subst hD
  rw [Maps.has_eq, List.any_eq_true]
  constructor
  · rintro ⟨p, hp, hk⟩
    obtain ⟨e, he, rfl⟩ := List.mem_map.1 (mem_sorted.1 hp)
    obtain ⟨kl, h1, h2⟩ := rgM F he
    rw [h2] at hk
    obtain rfl : kl = .string s.data.toList := WideAt.sameKey_eq hk
    exact ⟨e, he, keyedS.inj h1 (key_lit s hs)⟩
  · rintro ⟨e, he, hk⟩
    obtain ⟨kl, h1, h2⟩ := rgM F he
    rw [hk, key_lit s hs] at h1
    obtain rfl := Option.some.inj h1
    exact ⟨_, mem_sorted.2 (List.mem_map.2 ⟨e, he, rfl⟩), by rw [h2]; exact WideAt.sameKey_self trivial⟩
theorem keys_nodup {es : List MapEntry} {c : Nat} {l : List ByteArray} (hst : MapKept.Stamped es.toArray c) (hk : KeysAre es l) : l.Nodup := by
  have hp := ((MapKept.stamped_iff es.toArray c).1 hst).2.2
  have h1 : (es.map (·.key)).Nodup := List.pairwise_map.2 (by simpa using hp)
  have h2 := (hk.2.1.nodup_iff).1 h1
  exact (List.pairwise_map.1 h2).imp (fun h e => h (by rw [e]))
theorem owns_m {w : World} {b c n : Nat} {es : List MapEntry} {l : List ByteArray} (hb : w.heap[b]? = some (.map es.toArray c)) (hst : MapKept.Stamped es.toArray c) (hn : es.length ≤ 1000000) (hnn : es.length = n) (hk : KeysAre es l) {D : DataW Value} (hD : IsM es D) : w.ownsMap Tryz.prog 9 Rm b n D :=
  ⟨_, _, hb, fitM hst (by omega) hk, by simp [hnn], hD⟩
/-- What a step of a range has met. -/
theorem met_m {w : World} {b c r n cnt : Nat} {es : List MapEntry} {l : List ByteArray} {D : DataW Value} {left : Lit → Bool} (hb : w.heap[b]? = some (.map es.toArray c)) (hst : MapKept.Stamped es.toArray c) (hn : es.length ≤ 1000000) (hk : KeysAre es l) (hD : IsM es D)
    (hrg : w.ranges Tryz.prog 9 Rm b r n D left cnt) {key v : Value} {kl : Lit} {y : DataW Value × List MemPlace} (hkey : keyOf Tryz.prog 9 key = some kl) (hlk : left kl = true) (hv : Rm v = some y) (hat : ∀ zd, D.atKey kl zd = y.1) :
    ∃ (s : ByteArray) (j : Nat) (e : MapEntry), key = .string s ∧ kl = .string s.data.toList ∧ l[j]? = some s ∧ e ∈ es ∧ e.key = .string s ∧ v = e.val ∧ s.size ≤ 9223372036854775807 := by
  have F := fitM hst (by omega) hk
  obtain ⟨es', clock, since, seen, c0, hb', _, _, _, _, _, _, _, hl2, _⟩ := hrg
  rw [hb] at hb'
  obtain ⟨rfl, rfl⟩ : es.toArray = es' ∧ c = clock := by simpa using hb'
  obtain ⟨e, he, hek⟩ := hl2 kl hlk
  have he' : e ∈ es := by simpa using he
  obtain ⟨kl', h1, h2⟩ := rgM F he'
  rw [h2] at hek
  obtain rfl : kl' = kl := hek
  obtain ⟨s, e1, e2⟩ := hk.all e he'
  have hks : key = .string s := by rw [← e1]; exact keyedS.inj hkey h1
  have hkl : kl' = .string s.data.toList := by
    rw [e1, key_lit s e2] at h1
    exact (Option.some.inj h1).symm
  have hm : s ∈ l := by
    have h := hk.2.1.subset (List.mem_map.2 ⟨e, he', e1⟩)
    obtain ⟨s', hs', e3⟩ := List.mem_map.1 h
    cases e3
    exact hs'
  obtain ⟨j, hj⟩ := List.getElem?_of_mem hm
  refine ⟨s, j, e, hks, hkl, hj, he', e1, ?_, e2⟩
  have h3 := hat .nil
  rw [hkl, atM F hD e2 he' e1] at h3
  obtain rfl : y = (.held v, []) := by simpa [Rm] using hv.symm
  exact (heldM h3).symm
theorem ranges_below {w w' : World} {b r n cnt : Nat} {D : DataW Value} {left : Lit → Bool} (h : w.ranges Tryz.prog 9 Rm b r n D left cnt) (hb : Below w.heap.size w w') : w'.ranges Tryz.prog 9 Rm b r n D left cnt := by
  have h1 := h.owns.lt
  have h2 := h.lt
  obtain ⟨es, clock, since, seen, c0, hb1, F, hs, hD, hr, rest⟩ := h
  exact ⟨es, clock, since, seen, c0, (hb.block _ h1).trans hb1, F, hs, hD, (hb.block _ h2).trans hr, rest⟩
theorem look_hit {w : World} {b c : Nat} {es : List MapEntry} {l : List ByteArray} (hb : w.heap[b]? = some (.map es.toArray c)) (hst : MapKept.Stamped es.toArray c) (hk : KeysAre es l) {s : ByteArray} (hs : s ∈ l) {e0 : MapEntry} (he0 : e0 ∈ es) (hk0 : e0.key = .string s) :
    (Instr.lookup 67 (.map (some b)) (.string s) true).run Tryz.prog w = .ok (.tuple #[e0.val, .bool true]) w := by
  have hkey := key_lit s (hk.2.2 _ hs)
  have hp := ((MapKept.stamped_iff es.toArray c).1 hst).2.2
  have K := keyedS
  rcases K.find w hkey es (fun e he => by obtain ⟨t, e1, e2⟩ := hk.all e he; exact ⟨_, by rw [e1]; exact key_lit t e2⟩) with ⟨_, h2⟩ | ⟨i, e, h1, h2, h3⟩
  · exact absurd hk0 (h2 _ he0)
  · have e1 : e = e0 := one_entry hp (by simpa using List.mem_of_getElem? h2) (by simpa using he0) (by rw [h3, hk0])
    rw [← e1]
    simp [Instr.lookup, run_underlying Tryz.underlying67, MapKept.run_getObj_map hb, K.check w _ hkey, h1, Result.andThen]
theorem zero_any (w : World) : (zeroValue 20).run Tryz.prog w = .ok .nilIface w := by kernel_rfl
theorem look_miss {w : World} {b c : Nat} {es : List MapEntry} {l : List ByteArray} (hb : w.heap[b]? = some (.map es.toArray c)) (hk : KeysAre es l) {s : ByteArray} (hz : s.size ≤ 9223372036854775807) (hs : s ∉ l) :
    (Instr.lookup 67 (.map (some b)) (.string s) true).run Tryz.prog w = .ok (.tuple #[.nilIface, .bool false]) w := by
  have hkey := key_lit s hz
  have K := keyedS
  rcases K.find w hkey es (fun e he => by obtain ⟨t, e1, e2⟩ := hk.all e he; exact ⟨_, by rw [e1]; exact key_lit t e2⟩) with ⟨h1, _⟩ | ⟨i, e, h1, h2, h3⟩
  · simp [Instr.lookup, run_underlying Tryz.underlying67, MapKept.run_getObj_map hb, K.check w _ hkey, h1, Result.andThen, zero_any]
  · have h := hk.2.1.subset (List.mem_map.2 ⟨e, List.mem_of_getElem? h2, h3⟩)
    obtain ⟨s', hs', e3⟩ := List.mem_map.1 h
    cases e3
    exact absurd hs' hs
end Go.Proofs.YtcoahpcjhhnkkaaGreatDoor.NumA
/-
contains, as a plain function.
-/
set_option linter.unusedSimpArgs false
set_option linter.unusedVariables false
namespace Go.Proofs.YtcoahpcjhhnkkaaGreatDoor.NumA
open Go.RowKit Go.Lib Go.Proofs.YtcoahpcjhhnkkaaGreatDoor.ValA Go.Proofs.YtcoahpcjhhnkkaaGreatDoor.FloH Go.Proofs.YtcoahpcjhhnkkaaGreatDoorW.PrintWords Go.Proofs.YtcoahpcjhhnkkaaGreatDoorW.PrintLast Go.Proofs.YtcoahpcjhhnkkaaGreatDoorW.PrintMore Go.Proofs.YtcoahpcjhhnkkaaGreatDoor.PzzFits1
/-- No text is longer than what a row lets in. -/
inductive Tz : V → Prop where
  | mk (x : V) (h2 : x.f2.size ≤ 140737488355328) (h3 : ∀ y ∈ x.f3, Tz y) (h5 : ∀ y ∈ x.f5, Tz y) : Tz x
mutual
/-- contains at two values; none: an error. -/
def con : V → V → Option Bool
  | ⟨k, h, s, l, ks, vs⟩, y =>
    if k ≠ y.f0 then none else if k = 3 then some (decide (h = y.f1)) else if k = 4 then some (conB s y.f2) else if k = 5 then some (y.f3.all fun r => conA l r)
    else if k = 6 then some (decide (y.f4.length ≤ ks.length) && (y.f4.zip y.f5).all fun p => conK ks vs p.1 p.2) else some true
/-- Does one of some values contain a value. -/
def conA : List V → V → Bool
  | [], _ => false
  | a :: l, r => con a r == some true || conA l r
/-- Does the value at a key contain a value. -/
def conK : List ByteArray → List V → ByteArray → V → Bool
  | [], _, _, _ => false
  | _ :: _, [], _, _ => false
  | k :: ks, v :: vs, s, r => if k = s then con v r == some true else conK ks vs s r
end
theorem conA_iff (r : V) : ∀ l : List V, conA l r = true ↔ ∃ a ∈ l, con a r = some true
  | [] => by simp [conA]
  | a :: l => by simp [conA, conA_iff r l]
theorem con_eq (x y : V) : con x y = if x.f0 ≠ y.f0 then none else if x.f0 = 3 then some (decide (x.f1 = y.f1)) else if x.f0 = 4 then some (conB x.f2 y.f2) else if x.f0 = 5 then some (y.f3.all fun r => conA x.f3 r)
    else if x.f0 = 6 then some (decide (y.f4.length ≤ x.f4.length) && (y.f4.zip y.f5).all fun p => conK x.f4 x.f5 p.1 p.2) else some true := by
  cases x; rw [con]
theorem conK_none (s : ByteArray) (r : V) : ∀ (ks : List ByteArray) (vs : List V), s ∉ ks → conK ks vs s r = false
  | [], _, _ => by rw [conK]
  | _ :: _, [], _ => by rw [conK]
  | k :: ks, v :: vs, h => by
    rw [conK, if_neg (fun (e : k = s) => h (by rw [e]; exact List.mem_cons_self)), conK_none s r ks vs (fun e => h (List.mem_cons_of_mem _ e))]
theorem conK_at (s : ByteArray) (r : V) : ∀ (ks : List ByteArray) (vs : List V), ks.Nodup → ∀ (i : Nat) (v : V), ks[i]? = some s → vs[i]? = some v → conK ks vs s r = (con v r == some true)
  | [], _, _, i, v, h, _ => by simp at h
  | _ :: _, [], _, i, v, _, h => by simp at h
  | k :: ks, u :: vs, hn, 0, v, h, h' => by
    rw [conK, if_pos (by simpa using h)]
    simp at h'
    rw [h']
  | k :: ks, u :: vs, hn, i + 1, v, h, h' => by
    rw [List.getElem?_cons_succ] at h h'
    have hm : s ∈ ks := List.mem_of_getElem? h
    rw [conK, if_neg (fun (e : k = s) => (List.nodup_cons.1 hn).1 (by rw [e]; exact hm)), conK_at s r ks vs (List.nodup_cons.1 hn).2 i v h h']
end Go.Proofs.YtcoahpcjhhnkkaaGreatDoor.NumA
/-
contains where two kinds differ; at two lists, at two maps, from what the callbacks give; impl.Contains.
-/
set_option linter.unusedSimpArgs false
set_option linter.unusedVariables false
namespace Go.Proofs.YtcoahpcjhhnkkaaGreatDoor.NumA
open Go.RowKit Go.Lib Go.Proofs.YtcoahpcjhhnkkaaGreatDoor.ValA Go.Proofs.YtcoahpcjhhnkkaaGreatDoor.FloH Go.Proofs.YtcoahpcjhhnkkaaGreatDoorW.PrintWords Go.Proofs.YtcoahpcjhhnkkaaGreatDoorW.PrintLast Go.Proofs.YtcoahpcjhhnkkaaGreatDoorW.PrintMore Go.Proofs.YtcoahpcjhhnkkaaGreatDoor.PzzFits1
/-- What contains gives. -/
def ConV (o : Option Bool) (v : Value) : Prop := (∀ b, o = some b → v = .iface 4 (.bool b)) ∧ (o = none → ∃ a, v = .iface 136 (.pointer a))
theorem ConV.of (b : Bool) : ConV (some b) (.iface 4 (.bool b)) := ⟨fun c h => by cases h; rfl, fun h => by cases h⟩
theorem eq_dif {l r : Value} {a b : Int} (hl : Cl a l) (hr : Cl b r) (hab : a ≠ b) (w : World) : (binOp .eql 20 l r).run Tryz.prog w = .ok (.bool false) w := by
  cases hl <;> cases hr <;> first | exact absurd rfl hab | kernel_rfl
theorem guard_dif {l r : Value} {a b : Int} (hl : Cl a l) (hr : Cl b r) (hab : a ≠ b) (w : World) : (eqGuard .eql 20 (.tmp 5) (.tmp 6) l r).run Tryz.prog w = .ok () w := by
  cases hl <;> cases hr <;> first | exact absurd rfl hab | kernel_rfl
theorem Cl.shape {a : Int} {g : Value} (h : Cl a g) : g = .nilIface ∨ ∃ t v, g = .iface t v := by cases h <;> first | exact Or.inl rfl | exact Or.inr ⟨_, _, rfl⟩
set_option maxRecDepth 100000 in
theorem con_fb {l r : Value} {a b : Int} (hl : Cl a l) (hr : Cl b r) (hab : a ≠ b) (w : World) : Calls Tryz.prog 114 #[l, r] w (Gives (ConV none) w) := by
  have he := fun w => eq_dif hl hr hab w
  have hg := fun w => guard_dif hl hr hab w
  have sl := hl.shape
  have sr := hr.shape
  clear hl hr hab
  rcases sl with rfl | ⟨t, v, rfl⟩ <;> rcases sr with rfl | ⟨t', v', rfl⟩
  all_goals
  go_enter Tryz.func114, Tryz.ntmps114
  go_wp2_with fail
  go_ret
  exact ⟨_, rfl, ⟨fun b h => (by cases h), fun _ => ⟨_, rfl⟩⟩, (Below.refl _ w).alloc (Nat.le_refl _) _⟩
set_option maxRecDepth 100000 in
set_option maxHeartbeats 4000000 in
theorem boc_nil (Q : Value → Prop)  (g : Value) (hJ : NoJ g) (w : World) (HC : Calls Tryz.prog 114 #[.nilIface, g] w (Gives Q w)) :
    Calls Tryz.prog 106 #[.nilIface, g, Value.func (Fn.func 107) #[] #[], Value.func (Fn.func 108) #[] #[], Value.func (Fn.func 109) #[] #[], Value.func (Fn.func 110) #[] #[], Value.func (Fn.func 112) #[] #[], Value.func (Fn.func 113) #[] #[], Value.func (Fn.func 114) #[] #[]] w (Gives Q w) := by
  have H := Lib.hid HC
  clear HC
  unfold NoJ at hJ
  have fJ := fun w => noNJ w
  have fI := fun w => noNI w
  have fF := fun w => noNF w
  have fB := fun w => noNB w
  have fS := fun w => noNS w
  have fL := fun w => noNL w
  have fM := fun w => noNM w
  go_enter Tryz.func106, Tryz.ntmps106
  go_wp2_with fail
  refine H.out.mono ?_
  rintro e w1 ⟨v, rfl, hv⟩
  have HB := Lib.hid hv; clear hv
  go_wp2_with fail
  go_ret
  exact ⟨_, rfl, HB.out⟩
set_option maxRecDepth 100000 in
set_option maxHeartbeats 4000000 in
theorem boc_bool (Q : Value → Prop) (b : Bool) (g : Value) (hJ : NoJ g) (w : World) (HC : Calls Tryz.prog 114 #[.iface 4 (.bool b), g] w (Gives Q w)) :
    Calls Tryz.prog 106 #[.iface 4 (.bool b), g, Value.func (Fn.func 107) #[] #[], Value.func (Fn.func 108) #[] #[], Value.func (Fn.func 109) #[] #[], Value.func (Fn.func 110) #[] #[], Value.func (Fn.func 112) #[] #[], Value.func (Fn.func 113) #[] #[], Value.func (Fn.func 114) #[] #[]] w (Gives Q w) := by
  have H := Lib.hid HC
  clear HC
  unfold NoJ at hJ
  have fJ := fun w => qTJ (.bool b) w
  have fI := fun w => qTI (.bool b) w
  have fF := fun w => qTF (.bool b) w
  have fB := fun w => qTB (.bool b) w
  have fS := fun w => qTS (.bool b) w
  have fL := fun w => qTL (.bool b) w
  have fM := fun w => qTM (.bool b) w
  go_enter Tryz.func106, Tryz.ntmps106
  go_wp2_with fail
  refine H.out.mono ?_
  rintro e w1 ⟨v, rfl, hv⟩
  have HB := Lib.hid hv; clear hv
  go_wp2_with fail
  go_ret
  exact ⟨_, rfl, HB.out⟩
set_option maxRecDepth 100000 in
set_option maxHeartbeats 4000000 in
theorem boc_int (Q : Value → Prop) (n : Int) (g : Value) (hJ : NoJ g) (hI : NoI g) (hF : NoF g) (hB : NoB g) (w : World) (HC : Calls Tryz.prog 114 #[.iface 3 (.int .i64 n), g] w (Gives Q w)) :
    Calls Tryz.prog 106 #[.iface 3 (.int .i64 n), g, Value.func (Fn.func 107) #[] #[], Value.func (Fn.func 108) #[] #[], Value.func (Fn.func 109) #[] #[], Value.func (Fn.func 110) #[] #[], Value.func (Fn.func 112) #[] #[], Value.func (Fn.func 113) #[] #[], Value.func (Fn.func 114) #[] #[]] w (Gives Q w) := by
  have H := Lib.hid HC
  clear HC
  unfold NoJ at hJ
  unfold NoI at hI
  unfold NoF at hF
  unfold NoB at hB
  have fJ := fun w => qIJ (.int .i64 n) w
  have gI := fun w => qI (.int .i64 n) w
  go_enter Tryz.func106, Tryz.ntmps106
  go_wp2_with fail
  refine H.out.mono ?_
  rintro e w1 ⟨v, rfl, hv⟩
  have HB := Lib.hid hv; clear hv
  go_wp2_with fail
  go_ret
  exact ⟨_, rfl, HB.out⟩
set_option maxRecDepth 100000 in
set_option maxHeartbeats 4000000 in
theorem boc_flt (Q : Value → Prop) (n : Nat) (g : Value) (hJ : NoJ g) (hI : NoI g) (hF : NoF g) (hB : NoB g) (w : World) (HC : Calls Tryz.prog 114 #[.iface 77 (.float .f64 n), g] w (Gives Q w)) :
    Calls Tryz.prog 106 #[.iface 77 (.float .f64 n), g, Value.func (Fn.func 107) #[] #[], Value.func (Fn.func 108) #[] #[], Value.func (Fn.func 109) #[] #[], Value.func (Fn.func 110) #[] #[], Value.func (Fn.func 112) #[] #[], Value.func (Fn.func 113) #[] #[], Value.func (Fn.func 114) #[] #[]] w (Gives Q w) := by
  have H := Lib.hid HC
  clear HC
  unfold NoJ at hJ
  unfold NoI at hI
  unfold NoF at hF
  unfold NoB at hB
  have fJ := fun w => qFJ (.float .f64 n) w
  have fI := fun w => qFI (.float .f64 n) w
  have gF := fun w => qF (.float .f64 n) w
  go_enter Tryz.func106, Tryz.ntmps106
  go_wp2_with fail
  refine H.out.mono ?_
  rintro e w1 ⟨v, rfl, hv⟩
  have HB := Lib.hid hv; clear hv
  go_wp2_with fail
  go_ret
  exact ⟨_, rfl, HB.out⟩
set_option maxRecDepth 100000 in
set_option maxHeartbeats 4000000 in
theorem boc_str (Q : Value → Prop) (s : ByteArray) (g : Value) (hJ : NoJ g) (hS : NoS g) (w : World) (HC : Calls Tryz.prog 114 #[.iface 9 (.string s), g] w (Gives Q w)) :
    Calls Tryz.prog 106 #[.iface 9 (.string s), g, Value.func (Fn.func 107) #[] #[], Value.func (Fn.func 108) #[] #[], Value.func (Fn.func 109) #[] #[], Value.func (Fn.func 110) #[] #[], Value.func (Fn.func 112) #[] #[], Value.func (Fn.func 113) #[] #[], Value.func (Fn.func 114) #[] #[]] w (Gives Q w) := by
  have H := Lib.hid HC
  clear HC
  unfold NoJ at hJ
  unfold NoS at hS
  have fJ := fun w => qSJ (.string s) w
  have fI := fun w => qSI (.string s) w
  have fF := fun w => qSF (.string s) w
  have fB := fun w => qSB (.string s) w
  have gS := fun w => qS (.string s) w
  go_enter Tryz.func106, Tryz.ntmps106
  go_wp2_with fail
  refine H.out.mono ?_
  rintro e w1 ⟨v, rfl, hv⟩
  have HB := Lib.hid hv; clear hv
  go_wp2_with fail
  go_ret
  exact ⟨_, rfl, HB.out⟩
set_option maxRecDepth 100000 in
set_option maxHeartbeats 4000000 in
theorem boc_list (Q : Value → Prop) (A : Option Addr) (n : Nat) (g : Value) (hJ : NoJ g) (hL : NoL g) (w : World) (HC : Calls Tryz.prog 114 #[.iface 78 (.slice A n n), g] w (Gives Q w)) :
    Calls Tryz.prog 106 #[.iface 78 (.slice A n n), g, Value.func (Fn.func 107) #[] #[], Value.func (Fn.func 108) #[] #[], Value.func (Fn.func 109) #[] #[], Value.func (Fn.func 110) #[] #[], Value.func (Fn.func 112) #[] #[], Value.func (Fn.func 113) #[] #[], Value.func (Fn.func 114) #[] #[]] w (Gives Q w) := by
  have H := Lib.hid HC
  clear HC
  unfold NoJ at hJ
  unfold NoL at hL
  have fJ := fun w => qLJ (.slice A n n) w
  have fI := fun w => qLI (.slice A n n) w
  have fF := fun w => qLF (.slice A n n) w
  have fB := fun w => qLB (.slice A n n) w
  have fS := fun w => qLS (.slice A n n) w
  have gL := fun w => qL (.slice A n n) w
  go_enter Tryz.func106, Tryz.ntmps106
  go_wp2_with fail
  refine H.out.mono ?_
  rintro e w1 ⟨v, rfl, hv⟩
  have HB := Lib.hid hv; clear hv
  go_wp2_with fail
  go_ret
  exact ⟨_, rfl, HB.out⟩
set_option maxRecDepth 100000 in
set_option maxHeartbeats 4000000 in
theorem boc_map (Q : Value → Prop) (b : Option Nat) (g : Value) (hJ : NoJ g) (hM : NoM g) (w : World) (HC : Calls Tryz.prog 114 #[.iface 67 (.map b), g] w (Gives Q w)) :
    Calls Tryz.prog 106 #[.iface 67 (.map b), g, Value.func (Fn.func 107) #[] #[], Value.func (Fn.func 108) #[] #[], Value.func (Fn.func 109) #[] #[], Value.func (Fn.func 110) #[] #[], Value.func (Fn.func 112) #[] #[], Value.func (Fn.func 113) #[] #[], Value.func (Fn.func 114) #[] #[]] w (Gives Q w) := by
  have H := Lib.hid HC
  clear HC
  unfold NoJ at hJ
  unfold NoM at hM
  have fJ := fun w => qMJ (.map b) w
  have fI := fun w => qMI (.map b) w
  have fF := fun w => qMF (.map b) w
  have fB := fun w => qMB (.map b) w
  have fS := fun w => qMS (.map b) w
  have fL := fun w => qML (.map b) w
  have gM := fun w => qM (.map b) w
  go_enter Tryz.func106, Tryz.ntmps106
  go_wp2_with fail
  refine H.out.mono ?_
  rintro e w1 ⟨v, rfl, hv⟩
  have HB := Lib.hid hv; clear hv
  go_wp2_with fail
  go_ret
  exact ⟨_, rfl, HB.out⟩
set_option maxRecDepth 100000 in
set_option maxHeartbeats 4000000 in
theorem bin_con_ll (Q : Value → Prop) (A B : Option Addr) (n m : Nat) (w : World) (HC : Calls Tryz.prog 112 #[.slice A n n, .slice B m m] w (Gives Q w)) :
    Calls Tryz.prog 106 #[.iface 78 (.slice A n n), .iface 78 (.slice B m m), Value.func (Fn.func 107) #[] #[], Value.func (Fn.func 108) #[] #[], Value.func (Fn.func 109) #[] #[], Value.func (Fn.func 110) #[] #[], Value.func (Fn.func 112) #[] #[], Value.func (Fn.func 113) #[] #[], Value.func (Fn.func 114) #[] #[]] w (Gives Q w) := by
  have H := Lib.hid HC
  clear HC
  have faJ := fun w => qLJ (.slice A n n) w
  have faI := fun w => qLI (.slice A n n) w
  have faF := fun w => qLF (.slice A n n) w
  have faB := fun w => qLB (.slice A n n) w
  have faS := fun w => qLS (.slice A n n) w
  have ga := fun w => qL (.slice A n n) w
  have fbJ := fun w => qLJ (.slice B m m) w
  have gb := fun w => qL (.slice B m m) w
  go_enter Tryz.func106, Tryz.ntmps106
  go_wp2_with fail
  refine H.out.mono ?_
  rintro e w1 ⟨v, rfl, hv⟩
  have HB := Lib.hid hv; clear hv
  go_wp2_with fail
  go_ret
  exact ⟨_, rfl, HB.out⟩
set_option maxRecDepth 100000 in
set_option maxHeartbeats 4000000 in
theorem bin_con_mm (Q : Value → Prop) (b c : Option Nat) (w : World) (HC : Calls Tryz.prog 113 #[.map b, .map c] w (Gives Q w)) :
    Calls Tryz.prog 106 #[.iface 67 (.map b), .iface 67 (.map c), Value.func (Fn.func 107) #[] #[], Value.func (Fn.func 108) #[] #[], Value.func (Fn.func 109) #[] #[], Value.func (Fn.func 110) #[] #[], Value.func (Fn.func 112) #[] #[], Value.func (Fn.func 113) #[] #[], Value.func (Fn.func 114) #[] #[]] w (Gives Q w) := by
  have H := Lib.hid HC
  clear HC
  have faJ := fun w => qMJ (.map b) w
  have faI := fun w => qMI (.map b) w
  have faF := fun w => qMF (.map b) w
  have faB := fun w => qMB (.map b) w
  have faS := fun w => qMS (.map b) w
  have faL := fun w => qML (.map b) w
  have ga := fun w => qM (.map b) w
  have fbJ := fun w => qMJ (.map c) w
  have gb := fun w => qM (.map c) w
  go_enter Tryz.func106, Tryz.ntmps106
  go_wp2_with fail
  refine H.out.mono ?_
  rintro e w1 ⟨v, rfl, hv⟩
  have HB := Lib.hid hv; clear hv
  go_wp2_with fail
  go_ret
  exact ⟨_, rfl, HB.out⟩
theorem con_of (Q : Value → Prop) (l r : Value) (w : World) (HB : Calls Tryz.prog 106 #[l, r, Value.func (Fn.func 107) #[] #[], Value.func (Fn.func 108) #[] #[], Value.func (Fn.func 109) #[] #[], Value.func (Fn.func 110) #[] #[], Value.func (Fn.func 112) #[] #[], Value.func (Fn.func 113) #[] #[], Value.func (Fn.func 114) #[] #[]] w (Gives Q w)) : Calls Tryz.prog 75 #[l, r] w (Gives Q w) := by
  have H := Lib.hid HB
  clear HB
  go_enter Tryz.func75, Tryz.ntmps75
  go_wp2_with fail
  refine H.out.mono ?_
  rintro e w1 ⟨v, rfl, hv⟩
  have HV := Lib.hid hv; clear hv
  go_wp2_with fail
  go_ret
  exact ⟨_, rfl, HV.out⟩
theorem con_dif {l r : Value} {a b : Int} (hl : Cl a l) (hr : Cl b r) (hab : a ≠ b) (w : World) : Calls Tryz.prog 75 #[l, r] w (Gives (ConV none) w) := by
  refine con_of _ _ _ w ?_
  have hf := con_fb hl hr hab w
  cases hl with
  | nil => exact boc_nil _ r hr.noJ w hf
  | no => exact boc_bool _ false r hr.noJ w hf
  | yes => exact boc_bool _ true r hr.noJ w hf
  | int n => exact boc_int _ n r hr.noJ (hr.noI (Ne.symm hab)) (hr.noF (Ne.symm hab)) hr.noB w hf
  | flt n => exact boc_flt _ n r hr.noJ (hr.noI (Ne.symm hab)) (hr.noF (Ne.symm hab)) hr.noB w hf
  | str s => exact boc_str _ s r hr.noJ (hr.noS (Ne.symm hab)) w hf
  | list A n => exact boc_list _ A n r hr.noJ (hr.noL (Ne.symm hab)) w hf
  | map b => exact boc_map _ b r hr.noJ (hr.noM (Ne.symm hab)) w hf
theorem con_low {l r : Value} {a : Int} (hl : Cl a l) (hr : Cl a r) (ha : a ≤ 2) (w : World) : Calls Tryz.prog 75 #[l, r] w (Gives (ConV (some true)) w) := by
  refine con_of _ _ _ w ?_
  have mono : ∀ {l r : Value} {w : World}, Calls Tryz.prog 114 #[l, r] w (Gives (fun v => v = .iface 4 (.bool true)) w) → Calls Tryz.prog 114 #[l, r] w (Gives (ConV (some true)) w) := fun h => h.mono fun e w' ⟨v, he, hv, hb⟩ => ⟨v, he, hv ▸ ConV.of true, hb⟩
  cases hl with
  | nil =>
    cases hr with
    | nil => exact boc_nil _ _ Cl.nil.noJ w (mono (con_null w))
  | no =>
    cases hr with
    | no => exact boc_bool _ false _ Cl.no.noJ w (mono (con_bool false w))
  | yes =>
    cases hr with
    | yes => exact boc_bool _ true _ Cl.yes.noJ w (mono (con_bool true w))
  | int n => omega
  | flt n => omega
  | str s => omega
  | list A n => omega
  | map b => omega
/-- A boolean as a result. -/
abbrev resB (b : Bool) : Value := .agg #[.int .i64 (kb b), .int .i64 0, .string ⟨#[]⟩, .slice none 0 0, .slice none 0 0, .slice none 0 0, .int .i64 0]
set_option maxHeartbeats 1000000 in
theorem impl_con (w0 : World) (x y : V) (Ka Ha : Int) (sa : ByteArray) (A3a A4a A5a : Option Addr) (n3a c3a n4a c4a n5a c5a : Nat) (Kb Hb : Int) (sb : ByteArray) (A3b A4b A5b : Option Addr) (n3b c3b n4b c4b n5b c5b : Nat) (Tx : ToGo w0 x [.int .i64 Ka, .int .i64 Ha, .string sa, .slice A3a n3a c3a, .slice A4a n4a c4a, .slice A5a n5a c5a]) (Ty : ToGo w0 y [.int .i64 Kb, .int .i64 Hb, .string sb, .slice A3b n3b c3b, .slice A4b n4b c4b, .slice A5b n5b c5b]) (b : Bool)
    (HC : ∀ g h n m w, G n w x g → G m w y h → Calls Tryz.prog 75 #[g, h] w (Gives (ConV (some b)) w)) (w : World) (hb : Below w0.heap.size w0 w) :
    Calls Tryz.prog 20 #[.agg #[.int .i64 Ka, .int .i64 Ha, .string sa, .slice A3a n3a c3a, .slice A4a n4a c4a, .slice A5a n5a c5a], .agg #[.int .i64 Kb, .int .i64 Hb, .string sb, .slice A3b n3b c3b, .slice A4b n4b c4b, .slice A5b n5b c5b]] w fun e w' => e = .returned (resB b) ∧ Below w.heap.size w w' := by
  have HZ : Hid (∀ g h n m w, G n w x g → G m w y h → Calls Tryz.prog 40 #[g, h] w fun e w' => e = .returned (.iface 4 (.bool b)) ∧ Below w.heap.size w w') := Lib.hid (by
    intro g h n m w hg hh
    have H := Lib.hid (HC g h n m w hg hh)
    clear HC hg hh
    go_enter Tryz.func40, Tryz.ntmps40
    go_wp2_with fail
    refine H.out.mono ?_
    rintro e w1 ⟨v, rfl, hv, hb⟩
    obtain rfl := hv.1 b rfl
    have HB := Lib.hid hb; clear hb hv
    go_wp2_with fail
    go_ret
    exact ⟨rfl, HB.out⟩)
  have HX := Lib.hid Tx
  have HY := Lib.hid Ty
  have HB := Lib.hid hb
  have HD := Lib.hid (fun w => result_bool b w)
  simp only [rv, r0] at HD
  clear Tx Ty HC hb
  go_enter Tryz.func20, Tryz.ntmps20
  go_wp2_with fail
  have h3 := three_boxes w #[.int .i64 Ka, .int .i64 Ha, .string sa, .slice A3a n3a c3a, .slice A4a n4a c4a, .slice A5a n5a c5a] #[.int .i64 Kb, .int .i64 Hb, .string sb, .slice A3b n3b c3b, .slice A4b n4b c4b, .slice A5b n5b c5b] #[.int .i64 0, .int .i64 0, .string ⟨#[]⟩, .slice none 0 0, .slice none 0 0, .slice none 0 0, .int .i64 0] 26 26 36
  obtain ⟨W0, hw0⟩ : ∃ W0, W0 = (((w.alloc (.cells #[.int .i64 Ka, .int .i64 Ha, .string sa, .slice A3a n3a c3a, .slice A4a n4a c4a, .slice A5a n5a c5a] 26)).alloc (.cells #[.int .i64 Kb, .int .i64 Hb, .string sb, .slice A3b n3b c3b, .slice A4b n4b c4b, .slice A5b n5b c5b] 26)).alloc (.cells #[.int .i64 0, .int .i64 0, .string ⟨#[]⟩, .slice none 0 0, .slice none 0 0, .slice none 0 0, .int .i64 0] 36)) := ⟨_, rfl⟩
  rw [← hw0] at h3 ⊢
  clear hw0
  have H0 := Lib.hid h3
  clear h3
  refine (HX.out W0 (HB.out.trans (H0.out.1.mono HB.out.size))).mono ?_
  rintro e w1 ⟨g, rfl, hG, hb⟩
  have hy := (hb.block _ (lt_of_heap H0.out.2.2)).trans H0.out.2.2
  have H1 := Lib.hid (And.intro (H0.out.1.trans (hb.mono H0.out.1.size)) (And.intro ((hb.block _ (lt_of_heap H0.out.2.1)).trans H0.out.2.1) hG))
  clear hb H0 hG
  have y := six_cells hy
  clear hy
  go_wp2_with fail
  refine (HY.out w1 (HB.out.trans (H1.out.1.mono HB.out.size))).mono ?_
  rintro e w2 ⟨h, rfl, hG, hb⟩
  clear y
  have H2 := Lib.hid (And.intro (H1.out.1.trans (hb.mono H1.out.1.size)) (And.intro ((hb.block _ (lt_of_heap H1.out.2.1)).trans H1.out.2.1) (And.intro (H1.out.2.2.keepB hb) hG)))
  clear hb H1 hG
  go_wp2_with fail
  refine (HZ.out g h _ _ w2 H2.out.2.2.1 H2.out.2.2.2).mono ?_
  rintro e w3 ⟨rfl, hb⟩
  have H3 := Lib.hid (And.intro (H2.out.1.trans (hb.mono H2.out.1.size)) ((hb.block _ (lt_of_heap H2.out.2.1)).trans H2.out.2.1))
  clear hb H2
  go_wp2_with fail
  refine (HD.out w3).mono ?_
  rintro e w4 ⟨rfl, hb⟩
  have hx := (hb.block _ (lt_of_heap H3.out.2)).trans H3.out.2
  have H4 := Lib.hid (H3.out.1.trans (hb.mono H3.out.1.size))
  clear hb H3
  have y := sev_cells hx
  go_wp2_with fail
  have hz := sev_set hx (.int .i64 (kb b)) (.int .i64 0) (.string ⟨#[]⟩) (.slice none 0 0) (.slice none 0 0) (.slice none 0 0) (.int .i64 0)
  have hg := sev_grown w4 (w.heap.size + 1 + 1) (.int .i64 (kb b)) (.int .i64 0) (.string ⟨#[]⟩) (.slice none 0 0) (.slice none 0 0) (.slice none 0 0) (.int .i64 0)
  obtain ⟨W2, hW⟩ : ∃ W2, W2 = (((((((w4.setCell ⟨w.heap.size + 1 + 1, 0, none⟩ (.int .i64 (kb b))).setCell ⟨w.heap.size + 1 + 1, 1, none⟩ (.int .i64 0)).setCell ⟨w.heap.size + 1 + 1, 2, none⟩ (.string ⟨#[]⟩)).setCell ⟨w.heap.size + 1 + 1, 3, none⟩ (.slice none 0 0)).setCell ⟨w.heap.size + 1 + 1, 4, none⟩ (.slice none 0 0)).setCell ⟨w.heap.size + 1 + 1, 5, none⟩ (.slice none 0 0)).setCell ⟨w.heap.size + 1 + 1, 6, none⟩ (.int .i64 0)) := ⟨_, rfl⟩
  rw [← hW] at hz hg ⊢
  clear hW y hx
  obtain ⟨q0, q1, q2, q3, q4, q5, q6, _⟩ := sev_cells hz
  refine bodyPost_ret (v := .agg #[.int .i64 (kb b), .int .i64 0, .string ⟨#[]⟩, .slice none 0 0, .slice none 0 0, .slice none 0 0, .int .i64 0]) (by simp [results, Tryz.results20, go_sem, q0, q1, q2, q3, q4, q5, q6]) rfl ?_
  exact ⟨rfl, H4.out.grown hg H4.out.size (fun k hk => by cases hk; omega)⟩
end Go.Proofs.YtcoahpcjhhnkkaaGreatDoor.NumA
/-
contains' callback at two lists.
-/
set_option linter.unusedSimpArgs false
set_option linter.unusedVariables false
namespace Go.Proofs.YtcoahpcjhhnkkaaGreatDoor.NumA
open Go.RowKit Go.Lib Go.Proofs.YtcoahpcjhhnkkaaGreatDoor.ValA Go.Proofs.YtcoahpcjhhnkkaaGreatDoor.FloH Go.Proofs.YtcoahpcjhhnkkaaGreatDoorW.PrintWords Go.Proofs.YtcoahpcjhhnkkaaGreatDoorW.PrintLast Go.Proofs.YtcoahpcjhhnkkaaGreatDoorW.PrintMore Go.Proofs.YtcoahpcjhhnkkaaGreatDoor.PzzFits1
theorem eqt_bool (b : Bool) (w : World) : (binOp .eql 20 (.iface 4 (.bool b)) (.iface 4 (.bool true))).run Tryz.prog w = .ok (.bool b) w := by cases b <;> kernel_rfl
theorem eqt_err (a : Option Addr) (w : World) : (binOp .eql 20 (.iface 136 (.pointer a)) (.iface 4 (.bool true))).run Tryz.prog w = .ok (.bool false) w := by kernel_rfl
theorem guardt_bool (b : Bool) (w : World) : (eqGuard .eql 20 (.tmp 23) (.tmp 24) (.iface 4 (.bool b)) (.iface 4 (.bool true))).run Tryz.prog w = .ok () w := by cases b <;> kernel_rfl
theorem guardt_err (a : Option Addr) (w : World) : (eqGuard .eql 20 (.tmp 23) (.tmp 24) (.iface 136 (.pointer a)) (.iface 4 (.bool true))).run Tryz.prog w = .ok () w := by kernel_rfl
/-- What '== true' says of an answer. -/
theorem con_is {o : Option Bool} {v : Value} (h : ConV o v) (w : World) : (binOp .eql 20 v (.iface 4 (.bool true))).run Tryz.prog w = .ok (.bool (o == some true)) w := by
  rcases o with _ | b
  · obtain ⟨a, rfl⟩ := h.2 rfl
    exact eqt_err a w
  · rw [h.1 b rfl]
    cases b
    · exact eqt_bool false w
    · exact eqt_bool true w
theorem con_isg {o : Option Bool} {v : Value} (h : ConV o v) (w : World) : (eqGuard .eql 20 (.tmp 23) (.tmp 24) v (.iface 4 (.bool true))).run Tryz.prog w = .ok () w := by
  rcases o with _ | b
  · obtain ⟨a, rfl⟩ := h.2 rfl
    exact guardt_err a w
  · rw [h.1 b rfl]
    exact guardt_bool b w
theorem all_take {l : List V} {f : V → Bool} {j : Nat} (hj : j < l.length) (h : ∀ r ∈ l.take j, f r = true) (h' : f (rd_T26 l j) = true) : ∀ r ∈ l.take (j + 1), f r = true := by
  intro r hr
  rw [List.take_add_one, rd_at l j hj, List.mem_append] at hr
  rcases hr with hr | hr
  · exact h r hr
  · obtain rfl : r = rd_T26 l j := by simpa using hr
    exact h'
set_option maxRecDepth 100000 in
set_option maxHeartbeats 4000000 in
theorem con_lists_at (w : World) (b c n m : Nat) (l l' : List V) (vs us : List Value) (hl : l.length = n) (hl' : l'.length = m) (hn : n ≤ 1000000) (hm : m ≤ 1000000) (hvs : vs.length = n) (hus : us.length = m)
    (hb : w.heap[b]? = some (.cells vs.toArray 20 (0, 0))) (hc : w.heap[c]? = some (.cells us.toArray 20 (0, 0)))
    (IH : ∀ (i j : Nat) (v u : Value), vs[i]? = some v → us[j]? = some u → ∀ w', Below w.heap.size w w' → Calls Tryz.prog 75 #[v, u] w' (Gives (ConV (con (rd_T26 l i) (rd_T26 l' j))) w')) :
    Calls Tryz.prog 112 #[.slice (some ⟨b, 0, none⟩) n n, .slice (some ⟨c, 0, none⟩) m m] w (Gives (ConV (some (l'.all fun r => conA l r))) w) := by
  have HI := Lib.hid (fun i j v u h h' w' hw => IH i j v u h h' w' hw)
  have HBC := Lib.hid (And.intro hb hc)
  have HN := Lib.hid (And.intro hl hl')
  have HM := Lib.hid (And.intro hn hm)
  have HV := Lib.hid (And.intro hvs hus)
  clear IH hb hc hl hl' hn hm hvs hus
  go_enter Tryz.func112, Tryz.ntmps112
  go_wp2_with fail
  refine wp_scope_straight (wp_seq (wp_label ?_))
  go_wp2_with fail
  go_loopg [11] m (fun k i wr => ∃ j : Nat, i = .int .i64 j ∧ k + j = m ∧ Below w.heap.size w wr ∧ ∀ r ∈ l'.take j, conA l r = true)
  case atStart => exact ⟨0, rfl, by omega, Below.refl _ _, fun r hr => by simp at hr⟩
  case round =>
    obtain ⟨j, rfl, hkj, hbr, hok⟩ := hrel
    have HR := Lib.hid (And.intro hbr (And.intro hok hkj))
    clear hkj hok
    by_cases hlt : j < m
    · obtain ⟨u, hu⟩ : ∃ u, us[j]? = some u := ⟨_, List.getElem?_eq_getElem (by have := HV.out.2; omega)⟩
      have x1 : wr.cell? ⟨c, j, none⟩ = some u := by
        have h := list_cell ((hbr.block _ (lt_of_heap HBC.out.2)).trans HBC.out.2) (by have := HV.out.2; omega : j < us.length)
        have hu2 := hu
        rw [List.getElem?_eq_getElem (by have := HV.out.2; omega)] at hu2
        rw [h.1, Option.some.inj hu2]
      have HL := Lib.hid (fun i v hv w' hw => HI.out i j v u hv hu w' hw)
      have e2 : (j : Int) < (m : Int) := by omega
      have HLT := Lib.hid hlt
      clear hbr hlt hu
      obtain ⟨wo, rfl⟩ : ∃ wo, wo = wr := ⟨_, rfl⟩
      obtain ⟨ko, rfl⟩ : ∃ ko, ko = gk := ⟨_, rfl⟩
      go_wp2_with fail
      clear x1
      go_loopg [17] n (fun k i w2 => ∃ q : Nat, i = .int .i64 q ∧ k + q = n ∧ Below wo.heap.size wo w2 ∧ ∀ a ∈ l.take q, con a (rd_T26 l' j) ≠ some true)
      case atStart => exact ⟨0, rfl, by omega, Below.refl _ _, fun r hr => by simp at hr⟩
      case round =>
        obtain ⟨q, rfl, hkq, hb2, hno⟩ := hrel
        have HR2 := Lib.hid (And.intro hb2 (And.intro hno hkq))
        clear hkq hno
        by_cases hlt : q < n
        · obtain ⟨v, hv⟩ : ∃ v, vs[q]? = some v := ⟨_, List.getElem?_eq_getElem (by have := HV.out.1; omega)⟩
          have hbw := HR.out.1.trans (hb2.mono HR.out.1.size)
          have x1 : wr.cell? ⟨b, q, none⟩ = some v := by
            have h := list_cell ((hbw.block _ (lt_of_heap HBC.out.1)).trans HBC.out.1) (by have := HV.out.1; omega : q < vs.length)
            have hv2 := hv
            rw [List.getElem?_eq_getElem (by have := HV.out.1; omega)] at hv2
            rw [h.1, Option.some.inj hv2]
          have HC := Lib.hid (HL.out q v hv wr hbw)
          have HBW := Lib.hid hbw
          have e3 : (q : Int) < (n : Int) := by omega
          have HLT2 := Lib.hid hlt
          clear hb2 hlt hv hbw
          go_wp2_with fail
          refine HC.out.mono ?_
          rintro e w3 ⟨v1, rfl, hv1, hb3⟩
          have hq := fun w => con_is hv1 w
          have hg := fun w => con_isg hv1 w
          have HB3 := Lib.hid (hb3.mono HR2.out.1.size)
          have HB4 := Lib.hid (HR2.out.1.trans HB3.out)
          clear hb3 hv1 x1 HC
          generalize ho : (con (rd_T26 l q) (rd_T26 l' j) == some true) = o at hq
          have HO := Lib.hid ho
          clear ho
          cases o with
          | true =>
            go_wp2_with fail
            go_roundg (ko - 1)
            case measure => have := HR.out.2.2; have := HLT.out; omega
            case rel =>
              have hw : wrap64 ((j : Int) + 1) = ((j + 1 : Nat) : Int) := by have := HM.out.2; have := HLT.out; unfold wrap64; omega
              rw [hw]
              exact ⟨j + 1, rfl, by have := HR.out.2.2; have := HLT.out; omega, HR.out.1.trans (HB4.out.mono HR.out.1.size), all_take (by have := HN.out.2; have := HLT.out; omega) HR.out.2.1 ((conA_iff _ _).2 ⟨_, rd_mem l q (by have := HN.out.1; have := HLT2.out; omega), beq_iff_eq.1 HO.out⟩)⟩
          | false =>
            go_wp2_with fail
            go_roundg (gk - 1)
            case measure => have := HR2.out.2.2; have := HLT2.out; omega
            case rel =>
              have hw : wrap64 ((q : Int) + 1) = ((q + 1 : Nat) : Int) := by have := HM.out.1; have := HLT2.out; unfold wrap64; omega
              rw [hw]
              refine ⟨q + 1, rfl, by have := HR2.out.2.2; have := HLT2.out; omega, HB4.out, fun a ha => ?_⟩
              rw [List.take_add_one, rd_at l q (by have := HN.out.1; have := HLT2.out; omega), List.mem_append] at ha
              rcases ha with ha | ha
              · exact HR2.out.2.1 a ha
              · obtain rfl : a = rd_T26 l q := by simpa using ha
                simpa using HO.out
        · have q2 : ¬ (q : Int) < (n : Int) := by omega
          have q4 : decide ((q : Int) < (n : Int)) = false := decide_eq_false q2
          have q5 : decide (q < n) = false := decide_eq_false hlt
          have HE := Lib.hid hlt
          clear hb2 hlt q2
          go_wp2_with fail
          go_ret
          refine ⟨_, rfl, ?_, HR.out.1.trans (HR2.out.1.mono HR.out.1.size)⟩
          have h : (l'.all fun r => conA l r) = false := by
            refine List.all_eq_false.2 ⟨_, rd_mem l' j (by have := HN.out.2; have := HLT.out; omega), ?_⟩
            rw [conA_iff]
            rintro ⟨a, ha, h⟩
            exact HR2.out.2.1 a (by rw [List.take_of_length_le (by have := HN.out.1; have := HE.out; have := HR2.out.2.2; omega)]; exact ha) h
          rw [h]
          exact ConV.of false
    · have q2 : ¬ (j : Int) < (m : Int) := by omega
      have q4 : decide ((j : Int) < (m : Int)) = false := decide_eq_false q2
      have q5 : decide (j < m) = false := decide_eq_false hlt
      have HE := Lib.hid hlt
      clear hbr hlt q2
      go_wp2_with fail
      go_ret
      refine ⟨_, rfl, ?_, HR.out.1⟩
      have h : (l'.all fun r => conA l r) = true := List.all_eq_true.2 (fun r hr => HR.out.2.1 r (by rw [List.take_of_length_le (by have := HN.out.2; have := HE.out; have := HR.out.2.2; omega)]; exact hr))
      rw [h]
      exact ConV.of true
end Go.Proofs.YtcoahpcjhhnkkaaGreatDoor.NumA
/-
contains' callback at two maps.
-/
set_option linter.unusedSimpArgs false
set_option linter.unusedVariables false
namespace Go.Proofs.YtcoahpcjhhnkkaaGreatDoor.NumA
open Go.RowKit Go.Lib Go.Proofs.YtcoahpcjhhnkkaaGreatDoor.ValA Go.Proofs.YtcoahpcjhhnkkaaGreatDoor.FloH Go.Proofs.YtcoahpcjhhnkkaaGreatDoorW.PrintWords Go.Proofs.YtcoahpcjhhnkkaaGreatDoorW.PrintLast Go.Proofs.YtcoahpcjhhnkkaaGreatDoorW.PrintMore Go.Proofs.YtcoahpcjhhnkkaaGreatDoor.PzzFits1
theorem net_bool (b : Bool) (w : World) : (binOp .neq 20 (.iface 4 (.bool b)) (.iface 4 (.bool true))).run Tryz.prog w = .ok (.bool (!b)) w := by cases b <;> kernel_rfl
theorem net_err (a : Option Addr) (w : World) : (binOp .neq 20 (.iface 136 (.pointer a)) (.iface 4 (.bool true))).run Tryz.prog w = .ok (.bool true) w := by kernel_rfl
theorem guardn_bool (b : Bool) (w : World) : (eqGuard .neq 20 (.tmp 33) (.tmp 34) (.iface 4 (.bool b)) (.iface 4 (.bool true))).run Tryz.prog w = .ok () w := by cases b <;> kernel_rfl
theorem guardn_err (a : Option Addr) (w : World) : (eqGuard .neq 20 (.tmp 33) (.tmp 34) (.iface 136 (.pointer a)) (.iface 4 (.bool true))).run Tryz.prog w = .ok () w := by kernel_rfl
/-- What '!= true' says of an answer. -/
theorem con_isn {o : Option Bool} {v : Value} (h : ConV o v) (w : World) : (binOp .neq 20 v (.iface 4 (.bool true))).run Tryz.prog w = .ok (.bool (!(o == some true))) w := by
  rcases o with _ | b
  · obtain ⟨a, rfl⟩ := h.2 rfl
    exact net_err a w
  · rw [h.1 b rfl]
    cases b
    · exact net_bool false w
    · exact net_bool true w
theorem con_isng {o : Option Bool} {v : Value} (h : ConV o v) (w : World) : (eqGuard .neq 20 (.tmp 33) (.tmp 34) v (.iface 4 (.bool true))).run Tryz.prog w = .ok () w := by
  rcases o with _ | b
  · obtain ⟨a, rfl⟩ := h.2 rfl
    exact guardn_err a w
  · rw [h.1 b rfl]
    exact guardn_bool b w
theorem zip_at {l : List ByteArray} {m : List V} (hl : m.length = l.length) {j : Nat} {s : ByteArray} (h : l[j]? = some s) : (s, rd_T26 m j) ∈ l.zip m := by
  have hj : j < m.length := by have := (List.getElem?_eq_some_iff.1 h).1; omega
  exact List.mem_of_getElem? (i := j) (List.getElem?_zip_eq_some.2 ⟨h, rd_at m j hj⟩)
theorem zip_all {l : List ByteArray} {m : List V} (hl : m.length = l.length) {f : ByteArray → V → Bool} (h : ∀ (j : Nat) (s : ByteArray), l[j]? = some s → f s (rd_T26 m j) = true) : ((l.zip m).all fun p => f p.1 p.2) = true := by
  refine List.all_eq_true.2 fun p hp => ?_
  obtain ⟨j, hj⟩ := List.getElem?_of_mem hp
  obtain ⟨h1, h2⟩ := List.getElem?_zip_eq_some.1 hj
  have h3 := rd_at m j (List.getElem?_eq_some_iff.1 h2).1
  rw [h2] at h3
  rw [Option.some.inj h3]
  exact h j p.1 h1
theorem zip_not {l : List ByteArray} {m : List V} (hl : m.length = l.length) {f : ByteArray → V → Bool} {j : Nat} {s : ByteArray} (h : l[j]? = some s) (hf : f s (rd_T26 m j) = false) : ((l.zip m).all fun p => f p.1 p.2) = false :=
  List.all_eq_false.2 ⟨_, zip_at hl h, by rw [hf]; simp⟩
/-- The head of a round over a map. -/
def RCm2 (w : World) (c n : Nat) (D : DataW Value) (l' : List ByteArray) (m5 : List V) (f : ByteArray → V → Bool) (k : Nat) (wr : World) : Prop :=
  ∃ left : Lit → Bool, wr.ranges Tryz.prog 9 Rm c w.heap.size n D left k ∧ Below w.heap.size w wr ∧ ∀ (j : Nat) (s : ByteArray), l'[j]? = some s → left (.string s.data.toList) = false → f s (rd_T26 m5 j) = true
theorem rcm_step {l' : List ByteArray} (hn : l'.Nodup) {m5 : List V} {f : ByteArray → V → Bool} {left : Lit → Bool} (h : ∀ (j : Nat) (s : ByteArray), l'[j]? = some s → left (.string s.data.toList) = false → f s (rd_T26 m5 j) = true) {j : Nat} {s : ByteArray} (hj : l'[j]? = some s) (hf : f s (rd_T26 m5 j) = true) :
    ∀ (i : Nat) (t : ByteArray), l'[i]? = some t → (left (.string t.data.toList) && !(Lit.string t.data.toList).sameKey (.string s.data.toList)) = false → f t (rd_T26 m5 i) = true := by
  intro i t hi hl
  cases e : left (.string t.data.toList) with
  | false => exact h i t hi e
  | true =>
    rw [e, Bool.true_and, Bool.not_eq_false'] at hl
    have e2 := WideAt.sameKey_eq hl
    simp only [Lit.string.injEq] at e2
    obtain rfl : t = s := Go.WideShapes.bytes_inj e2
    obtain rfl : i = j := (List.getElem?_inj (List.getElem?_eq_some_iff.1 hi).1 hn).1 (hi.trans hj.symm)
    exact hf
set_option maxRecDepth 100000 in
set_option maxHeartbeats 4000000 in
theorem con_maps_at (w : World) (b c cb cc : Nat) (es fs : List MapEntry) (l l' : List ByteArray) (l5 m5 : List V) (h5 : l5.length = l.length) (h5' : m5.length = l'.length) (hn : l.length ≤ 1000000) (hm : l'.length ≤ 1000000)
    (hb : w.heap[b]? = some (.map es.toArray cb)) (hst : MapKept.Stamped es.toArray cb) (hk : KeysAre es l) (hc : w.heap[c]? = some (.map fs.toArray cc)) (hst' : MapKept.Stamped fs.toArray cc) (hk' : KeysAre fs l')
    (IH : ∀ (i j : Nat) (s : ByteArray) (e1 e2 : MapEntry), l[i]? = some s → l'[j]? = some s → e1 ∈ es → e1.key = .string s → e2 ∈ fs → e2.key = .string s → ∀ w', Below w.heap.size w w' → Calls Tryz.prog 75 #[e1.val, e2.val] w' (Gives (ConV (con (rd_T26 l5 i) (rd_T26 m5 j))) w')) :
    Calls Tryz.prog 113 #[.map (some b), .map (some c)] w (Gives (ConV (some (decide (l'.length ≤ l.length) && (l'.zip m5).all fun p => conK l l5 p.1 p.2))) w) := by
  obtain ⟨n, hnn⟩ : ∃ n, es.length = n := ⟨_, rfl⟩
  obtain ⟨m, hmm⟩ : ∃ m, fs.length = m := ⟨_, rfl⟩
  have hln : l.length = n := by rw [← hk.1, hnn]
  have hlm : l'.length = m := by rw [← hk'.1, hmm]
  obtain ⟨D1, hD1⟩ : ∃ D, IsM es D := ⟨_, rfl⟩
  obtain ⟨D, hD⟩ : ∃ D, IsM fs D := ⟨_, rfl⟩
  have o1 := owns_m hb hst (by omega) hnn hk hD1
  have o2 := owns_m hc hst' (by omega) hmm hk' hD
  have z1 := sizeM hD1
  have z2 := sizeM hD
  have hl1 : ∀ ty, (Builtin.len_ #[67] ty #[.map (some b)]).run Tryz.prog w = .ok (.int .i64 (n : Int)) w := fun ty => by
    have := o1.len Tryz.underlying67 ty
    rwa [z1, hnn] at this
  have hl2 : ∀ ty, (Builtin.len_ #[67] ty #[.map (some c)]).run Tryz.prog w = .ok (.int .i64 (m : Int)) w := fun ty => by
    have := o2.len Tryz.underlying67 ty
    rwa [z2, hmm] at this
  obtain ⟨W2, hrun, hrg, hg2, hs2⟩ := o2.range keyedS Tryz.underlying67
  rw [z2, hmm] at hrg
  have hF := fitM hst' (by omega) hk'
  have H0 := Lib.hid (show RCm2 w c m D l' m5 (fun s r => conK l l5 s r) m W2 from
    ⟨_, hrg, (Below.refl _ w).grown hg2 (Nat.le_refl _) (fun k hk => by cases hk), fun j s hj hs => by
      have hm := List.mem_of_getElem? hj
      obtain ⟨e, he, e1⟩ := hk'.at_ hm
      rw [(hasM hF hD (hk'.2.2 _ hm)).2 ⟨e, he, e1⟩] at hs
      cases hs⟩)
  have HI := Lib.hid (fun i j s e1 e2 p1 p2 p3 p4 p5 p6 w' hw => IH i j s e1 e2 p1 p2 p3 p4 p5 p6 w' hw)
  have HB := Lib.hid (And.intro hb (And.intro hst hk))
  have HC := Lib.hid (And.intro hc (And.intro hst' hk'))
  have HD := Lib.hid hD
  have HN := Lib.hid (And.intro hln (And.intro hlm (And.intro h5 h5')))
  have HM := Lib.hid (And.intro hn (And.intro hm (And.intro hnn hmm)))
  have HND := Lib.hid (keys_nodup hst' hk')
  clear IH hb hst hk hc hst' hk' hnn hmm hln hlm hD1 hD o1 o2 z1 z2 hrg hg2 hs2 hF hn hm h5 h5'
  by_cases hlt : n < m
  · have d0 : decide ((n : Int) < (m : Int)) = true := decide_eq_true (by omega)
    have d1 : decide (n < m) = true := decide_eq_true hlt
    have HE := Lib.hid hlt
    clear hlt hrun H0
    go_enter Tryz.func113, Tryz.ntmps113
    go_wp2_with fail
    go_ret
    refine ⟨_, rfl, ?_, Below.refl _ _⟩
    rw [decide_eq_false (by have := HN.out; have := HE.out; omega), Bool.false_and]
    exact ConV.of false
  have d0 : decide ((n : Int) < (m : Int)) = false := decide_eq_false (by omega)
  have d1 : decide (n < m) = false := decide_eq_false hlt
  have HE := Lib.hid hlt
  clear hlt
  go_enter Tryz.func113, Tryz.ntmps113
  go_wp2_with fail
  clear hl1 hl2 hrun d0 d1
  go_loopg [5] m (fun k _ wr => RCm2 w c m D l' m5 (fun s r => conK l l5 s r) k wr)
  case atStart => exact H0.out
  case round =>
    clear H0
    obtain ⟨left, hrg, hbr, hok⟩ := hrel
    have HR := Lib.hid (And.intro hrg (And.intro hbr hok))
    rcases hrg.next keyedS 0 with ⟨hc0, hl0, hrun⟩ | ⟨key, v, kl, y, w', cnt', hkey, hlk, hv, hat, hrun, hrg2, hlt, hg2, hs2, hen⟩
    · have HC0 := Lib.hid hl0
      clear hrg hbr hok hc0 hl0
      go_wp2_with fail
      go_ret
      refine ⟨_, rfl, ?_, HR.out.2.1⟩
      rw [decide_eq_true (by have := HN.out; have := HE.out; omega), Bool.true_and, zip_all HN.out.2.2.2 (f := fun s r => conK l l5 s r) (fun j s hj => HR.out.2.2 j s hj (HC0.out _))]
      exact ConV.of true
    · have hcr := (hbr.block _ (lt_of_heap HC.out.1)).trans HC.out.1
      obtain ⟨s, j, e2, rfl, rfl, hj, he2, hk2, rfl, hsz⟩ := met_m hcr HC.out.2.1 (by have := HM.out; have := HN.out; omega) HC.out.2.2 HD.out hrg hkey hlk hv hat
      have hb2 : Below w.heap.size w w' := hbr.grown hg2 hbr.size (fun k hk => by cases hk; exact Nat.le_refl _)
      have hbb := (hb2.block _ (lt_of_heap HB.out.1)).trans HB.out.1
      have HR2 := Lib.hid (And.intro hrg2 (And.intro hb2 (And.intro hlt hj)))
      by_cases hs : s ∈ l
      · obtain ⟨i, hi⟩ := List.getElem?_of_mem hs
        obtain ⟨e1, he1, hk1⟩ := HB.out.2.2.at_ hs
        have hlook := look_hit hbb HB.out.2.1 HB.out.2.2 hs he1 hk1
        have HL := Lib.hid (HI.out i j s e1 e2 hi hj he1 hk1 he2 hk2 w' hb2)
        have HK := Lib.hid (conK_at s (rd_T26 m5 j) l l5 (keys_nodup HB.out.2.1 HB.out.2.2) i _ hi (rd_at l5 i (by have := (List.getElem?_eq_some_iff.1 hi).1; have := HN.out; omega)))
        obtain ⟨g1, hg1⟩ : ∃ g, g = e1.val := ⟨_, rfl⟩
        obtain ⟨g2, hg2v⟩ : ∃ g, g = e2.val := ⟨_, rfl⟩
        rw [← hg1] at hlook HL
        rw [← hg2v] at hen hrun HL
        clear hrg hbr hok hcr hkey hlk hv hat hrg2 hlt hg2 hs2 hj he2 hk2 hsz hb2 hbb hs hi he1 hk1 hg1 hg2v
        go_wp2_with fail
        refine HL.out.mono ?_
        rintro e w3 ⟨v1, rfl, hv1, hb3⟩
        have hq := fun w => con_isn hv1 w
        have hg := fun w => con_isng hv1 w
        have HB3 := Lib.hid hb3
        clear hb3 hv1 HL hlook hen hrun
        generalize ho : (con (rd_T26 l5 i) (rd_T26 m5 j) == some true) = o at hq
        have HO := Lib.hid ho
        clear ho
        cases o with
        | true =>
          go_wp2_with fail
          go_roundg cnt'
          case measure => exact HR2.out.2.2.1
          case rel => exact ⟨_, ranges_below HR2.out.1 HB3.out, HR2.out.2.1.trans (HB3.out.mono HR2.out.2.1.size), rcm_step HND.out HR.out.2.2 HR2.out.2.2.2 (by show conK _ _ _ _ = _; rw [HK.out, HO.out])⟩
        | false =>
          go_wp2_with fail
          go_ret
          refine ⟨_, rfl, ?_, HR2.out.2.1.trans (HB3.out.mono HR2.out.2.1.size)⟩
          rw [zip_not HN.out.2.2.2 (f := fun s r => conK l l5 s r) HR2.out.2.2.2 (by show conK _ _ _ _ = _; rw [HK.out, HO.out]), Bool.and_false]
          exact ConV.of false
      · have hlook := look_miss hbb HB.out.2.2 hsz hs
        have HS := Lib.hid hs
        obtain ⟨g2, hg2v⟩ : ∃ g, g = e2.val := ⟨_, rfl⟩
        rw [← hg2v] at hen hrun
        clear hrg hbr hok hcr hkey hlk hv hat hrg2 hlt hg2 hs2 hj he2 hk2 hsz hb2 hbb hs hg2v
        go_wp2_with fail
        go_ret
        refine ⟨_, rfl, ?_, HR2.out.2.1⟩
        rw [zip_not HN.out.2.2.2 (f := fun s r => conK l l5 s r) HR2.out.2.2.2 (conK_none s _ l l5 HS.out), Bool.and_false]
        exact ConV.of false
end Go.Proofs.YtcoahpcjhhnkkaaGreatDoor.NumA
/-
gojq's contains at any two values of JSON.
-/
set_option linter.unusedSimpArgs false
set_option linter.unusedVariables false
namespace Go.Proofs.YtcoahpcjhhnkkaaGreatDoor.NumA
open Go.RowKit Go.Lib Go.Proofs.YtcoahpcjhhnkkaaGreatDoor.ValA Go.Proofs.YtcoahpcjhhnkkaaGreatDoor.FloH Go.Proofs.YtcoahpcjhhnkkaaGreatDoorW.PrintWords Go.Proofs.YtcoahpcjhhnkkaaGreatDoorW.PrintLast Go.Proofs.YtcoahpcjhhnkkaaGreatDoorW.PrintMore Go.Proofs.YtcoahpcjhhnkkaaGreatDoor.PzzFits1
theorem size3c (x : V) : SizeOf.sizeOf x.f3 < SizeOf.sizeOf x := by cases x; simp; omega
theorem size5c (x : V) : SizeOf.sizeOf x.f5 < SizeOf.sizeOf x := by cases x; simp; omega
theorem gives_con {o : Option Bool} {b : Bool} {l r : Value} {w : World} (ho : o = some b) (h : Calls Tryz.prog 75 #[l, r] w (Gives (fun v => v = .iface 4 (.bool b)) w)) : Calls Tryz.prog 75 #[l, r] w (Gives (ConV o) w) :=
  h.mono fun e w' ⟨v, he, hv, hb⟩ => ⟨v, he, by rw [hv, ho]; exact ConV.of b, hb⟩
theorem con_any : ∀ (N : Nat) (x : V), SizeOf.sizeOf x < N → WL x → Sz x → Tz x → ∀ (y : V), WL y → Sz y → Tz y → ∀ (g h : Value) (n m : Nat) (w : World), G n w x g → G m w y h → Calls Tryz.prog 75 #[g, h] w (Gives (ConV (con x y)) w)
  | 0, _, h, _, _, _, _, _, _, _, _, _, _, _, _, _, _ => absurd h (Nat.not_lt_zero _)
  | N + 1, x, hN, hx, zx, tx, y, hy, zy, ty, g, h, n, m, w, hg, hh => by
    obtain ⟨f0, f6, fj, f45⟩ := wf_facts hx
    obtain ⟨h0, h6, hj, h45⟩ := wf_facts hy
    obtain ⟨_, _, _, n3, n4, hk, w3, w5⟩ := hx
    obtain ⟨_, _, _, p3, p4, hk', v3, v5⟩ := hy
    obtain ⟨_, _, z4, z3, z5⟩ := zx
    obtain ⟨_, _, y4, y3, y5⟩ := zy
    obtain ⟨_, t2, t3, t5⟩ := tx
    obtain ⟨_, u2, u3, u5⟩ := ty
    have ih3 : ∀ a ∈ x.f3, ∀ b ∈ y.f3, ∀ g h n m w, G n w a g → G m w b h → Calls Tryz.prog 75 #[g, h] w (Gives (ConV (con a b)) w) := fun a ha b hb => con_any N a (by
      have h1 := List.sizeOf_lt_of_mem ha
      have h2 := size3c x
      omega) (w3 a ha) (z3 a ha) (t3 a ha) b (v3 b hb) (y3 b hb) (u3 b hb)
    have ih5 : ∀ a ∈ x.f5, ∀ b ∈ y.f5, ∀ g h n m w, G n w a g → G m w b h → Calls Tryz.prog 75 #[g, h] w (Gives (ConV (con a b)) w) := fun a ha b hb => con_any N a (by
      have h1 := List.sizeOf_lt_of_mem ha
      have h2 := size5c x
      omega) (w5 a ha) (z5 a ha) (t5 a ha) b (v5 b hb) (y5 b hb) (u5 b hb)
    by_cases e : x.f0 = y.f0
    · have hc : x.f0 ≤ 2 ∨ x.f0 = 3 ∨ x.f0 = 4 ∨ x.f0 = 5 ∨ x.f0 = 6 := by omega
      rcases hc with c | c | c | c | c
      · rw [con_eq, if_neg (by simpa using e), if_neg (by omega), if_neg (by omega), if_neg (by omega), if_neg (by omega)]
        exact con_low (hg.cl f0) (e ▸ hh.cl h0) c w
      · rw [con_eq, if_neg (by simpa using e), if_pos c, hg.flat_inv (by omega), hh.flat_inv (by omega), ← e, c]
        exact gives_con rfl (con_of _ _ _ w (contains_num _ _ fj hj w))
      · rw [con_eq, if_neg (by simpa using e), if_neg (by omega), if_pos c, hg.flat_inv (by omega), hh.flat_inv (by omega), ← e, c]
        exact gives_con rfl (con_of _ _ _ w (bin_con_ss _ _ _ (fun w => con_text2 _ _ t2 u2 w) w))
      · rw [con_eq, if_neg (by simpa using e), if_neg (by omega), if_neg (by omega), if_pos c]
        obtain ⟨b, l, rfl, _, hl, hw, he⟩ := hg.list_inv c
        obtain ⟨b', l', rfl, _, hl', hw', he'⟩ := hh.list_inv (e ▸ c)
        refine con_of _ _ _ w (bin_con_ll _ _ _ _ _ w (con_lists_at w b b' _ _ x.f3 y.f3 l l' rfl rfl n3 p3 hl hl' hw hw' fun i j v u hv hu w' hb => ?_))
        have hj1 : i < x.f3.length := by have := (List.getElem?_eq_some_iff.1 hv).1; omega
        have hj2 : j < y.f3.length := by have := (List.getElem?_eq_some_iff.1 hu).1; omega
        exact ih3 _ (rd_mem x.f3 i hj1) _ (rd_mem y.f3 j hj2) v u n m w' ((he i _ v (rd_at x.f3 i hj1) hv).keepB hb) ((he' j _ u (rd_at y.f3 j hj2) hu).keepB hb)
      · rw [con_eq, if_neg (by simpa using e), if_neg (by omega), if_neg (by omega), if_neg (by omega), if_pos c]
        obtain ⟨b, es, cb, rfl, _, hl, hw, hst, hkey, he⟩ := hg.map_inv c
        obtain ⟨b', es', cb', rfl, _, hl', hw', hst', hkey', he'⟩ := hh.map_inv (e ▸ c)
        refine con_of _ _ _ w (bin_con_mm _ _ _ w (con_maps_at w b b' cb cb' es es' x.f4 y.f4 x.f5 y.f5 f45.symm h45.symm n4 p4 hw hst ⟨hl, hkey, z4⟩ hw' hst' ⟨hl', hkey', y4⟩ fun i j s e1 e2 hi hj he1 hk1 he2 hk2 w' hb => ?_))
        have hi5 : i < x.f5.length := by have := (List.getElem?_eq_some_iff.1 hi).1; omega
        have hj5 : j < y.f5.length := by have := (List.getElem?_eq_some_iff.1 hj).1; omega
        exact ih5 _ (rd_mem x.f5 i hi5) _ (rd_mem y.f5 j hj5) _ _ n m w' ((he i s _ e1 hi (rd_at x.f5 i hi5) he1 hk1).keepB hb) ((he' j s _ e2 hj (rd_at y.f5 j hj5) he2 hk2).keepB hb)
    · rw [con_eq, if_pos e]
      exact con_dif (hg.cl f0) (hh.cl h0) e w
end Go.Proofs.YtcoahpcjhhnkkaaGreatDoor.NumA
/-
What the laws on contains use: arrays and booleans as arguments, results that say yes; contains at arrays.
-/
set_option linter.unusedSimpArgs false
set_option linter.unusedVariables false
namespace Go.Proofs.YtcoahpcjhhnkkaaGreatDoor.NumA
open Go.RowKit Go.Lib Go.Proofs.YtcoahpcjhhnkkaaGreatDoor.ValA Go.Proofs.YtcoahpcjhhnkkaaGreatDoor.FloH Go.Proofs.YtcoahpcjhhnkkaaGreatDoorW.PrintWords Go.Proofs.YtcoahpcjhhnkkaaGreatDoorW.PrintLast Go.Proofs.YtcoahpcjhhnkkaaGreatDoorW.PrintMore Go.Proofs.YtcoahpcjhhnkkaaGreatDoor.PzzFits1
theorem lc_K {w0 : World} {A : Option Addr} {l : List V} {c : Nat} (hlc : l.length ≤ c) (hC : Kd.C k26 w0 A l.length l) :
    k26.K w0 (lV l) [.int .i64 5, .int .i64 0, .string ⟨#[]⟩, .slice A l.length c, .slice none 0 0, .slice none 0 0] :=
  k26_mk w0 (lV l) hlc hC (Nat.le_refl _) (Kd.C_nil _ _) (Nat.le_refl _) (Kd.C_nil _ _)
theorem lc_sz {l : List V} (h : ∀ y ∈ l, Sz y) : Sz (lV l) :=
  .mk _ (show (0 : Nat) ≤ 9223372036854775807 by omega) (fun s hs => by cases hs) h (fun y hy => by cases hy)
theorem lc_tz {l : List V} (h : ∀ y ∈ l, Tz y) : Tz (lV l) := .mk _ (show (0 : Nat) ≤ 140737488355328 by omega) h (fun y hy => by cases hy)
theorem lc_wl {l : List V} (hn : l.length ≤ 1000000) (h : ∀ y ∈ l, WL y) : WL (lV l) :=
  .mk _ (by simp [lV, c1B]) (show c2B 0 = true by decide) (by simpa [lV] using hn) (by simp [lV]) (fun i _ h => by simp [lV] at h) h (fun y hy => by cases hy)
theorem lc_h3 {l : List V} (h : WL (lV l)) : ∀ y ∈ l, WL y := by
  obtain ⟨_, _, _, _, _, _, h3, _⟩ := h
  exact h3
theorem lc_one {w : World} {g : Nat} {x : V} {c0 c1 c2 c3 c4 c5 : Value} (hK : k26.K w x [c0, c1, c2, c3, c4, c5]) (hg : w.heap[g]? = some (.cells #[c0, c1, c2, c3, c4, c5] 26 (0, 0))) : Kd.C k26 w (some ⟨g, 0, none⟩) 1 [x] := by
  refine ⟨rfl, by simp, fun _ => ⟨_, rfl, fun j p hj => ?_⟩⟩
  match j, hj with
  | 0, hj =>
    obtain rfl : x = p := by simpa using hj
    refine ⟨_, rfl, hK, fun i u hi => ?_⟩
    have hi6 : i < 6 := by have := (List.getElem?_eq_some_iff.1 hi).1; simpa using this
    have e : (⟨g, 0, none⟩ : Addr).add (0 * k26.sz + i) = ⟨g, i, none⟩ := by
      show (⟨g, 0, none⟩ : Addr).add (0 * 6 + i) = _
      simp [Addr.add]
      intro h
      exact h.symm
    rw [e]
    simp only [World.cell?, hg]
    simpa using hi
  | j + 1, hj => simp at hj
theorem ToGo.later {w0 w1 : World} {x : V} {cs : List Value} (h : ToGo w0 x cs) (hb : Below w0.heap.size w0 w1) : ToGo w1 x cs := fun w hw => h w (hb.trans (hw.mono hb.size))
theorem con_lists (l m : List V) : con (lV l) (lV m) = some (m.all fun r => conA l r) := by
  rw [con_eq, if_neg (by simp [lV]), if_neg (by simp [lV]), if_neg (by simp [lV]), if_pos (show (lV l).f0 = 5 from rfl)]
  rfl
theorem con_single (l : List V) (x : V) : con (lV l) (lV [x]) = some (conA l x) := by rw [con_lists]; simp
theorem spn_of {w wr : World} (hb : Below w.heap.size w wr) : SPN w [] wr := ⟨⟨hb, fun p h => by cases h⟩, by simp, fun p h => by cases h⟩
theorem SPN.bel {w w1 : World} {L : List (Nat × Array Value × TypeId)} (h : SPN w L w1) : Below w.heap.size w w1 := h.1.1
theorem SPN.gt {w w1 : World} {L : List (Nat × Array Value × TypeId)} (h : SPN w L w1) (i : Nat) {p : Nat × Array Value × TypeId} (hp : L[i]? = some p) : w1.heap[p.1]? = some (.cells p.2.1 p.2.2 (0, 0)) := h.1.get i hp
section
variable {P : Program} {ops : Array Oper} {Q : Exit → Act → World → Prop}
theorem boxN_ {oi : Oper} {N : Option Tmp} {a : Act} {w w0 : World} {K : Act → World → Prop} {L : List (Nat × Array Value × TypeId)} {c : Array Value} {t : TypeId} (hL : SPN w0 L w) (hw : Region.wanted oi (yielded ops a.tmps) = true) (hN : oi.dst = N)
    (hrun : (execOp a.eval oi).run P w = .ok (.value (.slice (some ⟨w.heap.size, 0, none⟩) 1 1)) (w.alloc (.cells c t))) (h : ∀ R w1, SPN w0 (L ++ [(R, c, t)]) w1 → K (a.put N (.slice (some ⟨R, 0, none⟩) 1 1)) w1) :
    if Region.wanted oi (yielded ops a.tmps) = true then Oper.wp P oi a w K Q else K (a.put N undef) w := value_ hw hN hrun (h _ _ (hL.more c t))
end
theorem lc_array (A : Option Addr) (n c : Nat) (w : World) : Calls Tryz.prog 18 #[.slice A n c] w fun e w' => e = .returned (.agg #[.int .i64 5, .int .i64 0, .string ⟨#[]⟩, .slice A n c, .slice none 0 0, .slice none 0 0]) ∧ Below w.heap.size w w' := by
  go_enter Tryz.func18, Tryz.ntmps18
  go_wp2_with fail
  refine bodyPost_ret (v := .agg #[.int .i64 5, .int .i64 0, .string ⟨#[]⟩, .slice A n c, .slice none 0 0, .slice none 0 0]) (by simp [results, Tryz.results18, go_sem]) rfl ⟨rfl, ?_⟩
  exact (Below.refl _ w).alloc (Nat.le_refl _) _
theorem lc_bool (b : Bool) (w : World) : Calls Tryz.prog 22 #[.bool b] w fun e w' => e = .returned (.agg #[.int .i64 (kb b), .int .i64 0, .string ⟨#[]⟩, .slice none 0 0, .slice none 0 0, .slice none 0 0]) ∧ Below w.heap.size w w' := by
  cases b with
  | true => have h := spec_true w; simp only [vl, r0] at h; exact h
  | false => have h := spec_false w; simp only [vl, r0] at h; exact h
theorem lc_yes (b : Bool) (w : World) : Calls Tryz.prog 19 #[resB b] w fun e w' => e = .returned (.bool b) ∧ Below w.heap.size w w' := by
  have h := yes_bool b w
  simp only [rv, r0] at h
  exact h
theorem lc_given (b : Bool) (w : World) : Calls Tryz.prog 21 #[resB b, .agg #[.int .i64 (kb b), .int .i64 0, .string ⟨#[]⟩, .slice none 0 0, .slice none 0 0, .slice none 0 0]] w fun e w' => e = .returned (.bool true) ∧ Below w.heap.size w w' := by
  cases b with
  | true => have h := given_of 2 2 0 0 r0 r0 true (same_of 2 2 0 0 r0 r0 0 (cmp_k2 0 0 r0 r0)) w; simp only [vl, rv, r0] at h; exact h
  | false => have h := given_of 1 1 0 0 r0 r0 true (same_of 1 1 0 0 r0 r0 0 (cmp_k1 0 0 r0 r0)) w; simp only [vl, rv, r0] at h; exact h
/-- impl.Contains at two values. -/
theorem con_vals (w0 : World) (x y : V) (Ka Ha : Int) (sa : ByteArray) (A3a A4a A5a : Option Addr) (n3a c3a n4a c4a n5a c5a : Nat) (Kb Hb : Int) (sb : ByteArray) (A3b A4b A5b : Option Addr) (n3b c3b n4b c4b n5b c5b : Nat)
    (Tx : ToGo w0 x [.int .i64 Ka, .int .i64 Ha, .string sa, .slice A3a n3a c3a, .slice A4a n4a c4a, .slice A5a n5a c5a]) (Ty : ToGo w0 y [.int .i64 Kb, .int .i64 Hb, .string sb, .slice A3b n3b c3b, .slice A4b n4b c4b, .slice A5b n5b c5b])
    (hx : WL x) (zx : Sz x) (tx : Tz x) (hy : WL y) (zy : Sz y) (ty : Tz y) (b : Bool) (hb : con x y = some b) (w : World) (hw : Below w0.heap.size w0 w) :
    Calls Tryz.prog 20 #[.agg #[.int .i64 Ka, .int .i64 Ha, .string sa, .slice A3a n3a c3a, .slice A4a n4a c4a, .slice A5a n5a c5a], .agg #[.int .i64 Kb, .int .i64 Hb, .string sb, .slice A3b n3b c3b, .slice A4b n4b c4b, .slice A5b n5b c5b]] w fun e w' => e = .returned (resB b) ∧ Below w.heap.size w w' :=
  impl_con w0 x y _ _ _ _ _ _ _ _ _ _ _ _ _ _ _ _ _ _ _ _ _ _ _ _ Tx Ty b (fun g h n m w hg hh => hb ▸ con_any _ x (Nat.lt_succ_self _) hx zx tx y hy zy ty g h n m w hg hh) w hw
end Go.Proofs.YtcoahpcjhhnkkaaGreatDoor.NumA
/-
has at an object and a text.
-/
set_option linter.unusedSimpArgs false
set_option linter.unusedVariables false
namespace Go.Proofs.YtcoahpcjhhnkkaaGreatDoor.NumA
open Go.RowKit Go.Lib Go.Proofs.YtcoahpcjhhnkkaaGreatDoor.ValA Go.Proofs.YtcoahpcjhhnkkaaGreatDoor.FloH Go.Proofs.YtcoahpcjhhnkkaaGreatDoorW.PrintWords Go.Proofs.YtcoahpcjhhnkkaaGreatDoorW.PrintLast Go.Proofs.YtcoahpcjhhnkkaaGreatDoorW.PrintMore Go.Proofs.YtcoahpcjhhnkkaaGreatDoor.PzzFits1
/-- Is a key among some. -/
def inK (l : List ByteArray) (s : ByteArray) : Bool := l.any fun t => decide (t = s)
theorem inK_pos {l : List ByteArray} {s : ByteArray} (h : s ∈ l) : inK l s = true := List.any_eq_true.2 ⟨s, h, by simp⟩
theorem inK_neg {l : List ByteArray} {s : ByteArray} (h : s ∉ l) : inK l s = false := List.any_eq_false.2 fun t ht e => h (by rw [← of_decide_eq_true e]; exact ht)
theorem inK_mem {l : List ByteArray} {s : ByteArray} (h : inK l s = true) : s ∈ l := by
  obtain ⟨t, ht, e⟩ := List.any_eq_true.1 h
  rw [← of_decide_eq_true e]
  exact ht
set_option maxRecDepth 100000 in
set_option maxHeartbeats 4000000 in
theorem has_map (w : World) (b c : Nat) (es : List MapEntry) (l : List ByteArray) (hb : w.heap[b]? = some (.map es.toArray c)) (hst : MapKept.Stamped es.toArray c) (hk : KeysAre es l) (s : ByteArray) (hz : s.size ≤ 9223372036854775807) :
    Calls Tryz.prog 76 #[.iface 67 (.map (some b)), .iface 9 (.string s)] w (Gives (ConV (some (inK l s))) w) := by
  have f1 := fun w => qML (.map (some b)) w
  have g1 := fun w => qM (.map (some b)) w
  have g2 := fun w => qS (.string s) w
  by_cases hs : s ∈ l
  · obtain ⟨e1, he1, hk1⟩ := hk.at_ hs
    have hlook := look_hit hb hst hk hs he1 hk1
    rw [inK_pos hs]
    clear hb hst hk hz hs he1 hk1
    go_enter Tryz.func76, Tryz.ntmps76
    go_wp2_with fail
    go_ret
    exact ⟨_, rfl, ConV.of true, Below.refl _ _⟩
  · have hlook := look_miss hb hk hz hs
    rw [inK_neg hs]
    clear hb hst hk hz hs
    go_enter Tryz.func76, Tryz.ntmps76
    go_wp2_with fail
    go_ret
    exact ⟨_, rfl, ConV.of false, Below.refl _ _⟩
/-- A text as a value. -/
def txV2 (s : ByteArray) : V := ⟨4, 0, s, [], [], []⟩
theorem tx_wl (s : ByteArray) : WL (txV2 s) :=
  .mk _ (by simp [txV2, c1B]) (show c2B 0 = true by decide) (by simp [txV2]) (by simp [txV2]) (fun i _ h => by simp [txV2] at h) (fun y hy => by cases hy) (fun y hy => by cases hy)
theorem tx_sz {s : ByteArray} (h : s.size ≤ 9223372036854775807) : Sz (txV2 s) := .mk _ h (fun s hs => by cases hs) (fun y hy => by cases hy) (fun y hy => by cases hy)
theorem tx_K (w0 : World) (s : ByteArray) : k26.K w0 (txV2 s) [.int .i64 4, .int .i64 0, .string s, .slice none 0 0, .slice none 0 0, .slice none 0 0] :=
  k26_mk w0 (txV2 s) (Nat.le_refl _) (Kd.C_nil _ _) (Nat.le_refl _) (Kd.C_nil _ _) (Nat.le_refl _) (Kd.C_nil _ _)
theorem has_G {x : V} (hx : WL x) (zx : Sz x) (hk : x.f0 = 6) (s : ByteArray) (hz : s.size ≤ 9223372036854775807) {n m : Nat} {w : World} {g h : Value} (hg : G n w x g) (hh : G m w (txV2 s) h) : Calls Tryz.prog 76 #[g, h] w (Gives (ConV (some (inK x.f4 s))) w) := by
  obtain ⟨b, es, cb, rfl, _, hl, hw, hst, hkey, he⟩ := hg.map_inv hk
  rw [hh.flat_inv (show (4 : Int) ≤ 4 by omega)]
  obtain ⟨_, _, z4, _, _⟩ := zx
  exact has_map w b cb es x.f4 hw hst ⟨hl, hkey, z4⟩ s hz
set_option maxHeartbeats 1000000 in
theorem impl_has (w0 : World) (x y : V) (Ka Ha : Int) (sa : ByteArray) (A3a A4a A5a : Option Addr) (n3a c3a n4a c4a n5a c5a : Nat) (Kb Hb : Int) (sb : ByteArray) (A3b A4b A5b : Option Addr) (n3b c3b n4b c4b n5b c5b : Nat) (Tx : ToGo w0 x [.int .i64 Ka, .int .i64 Ha, .string sa, .slice A3a n3a c3a, .slice A4a n4a c4a, .slice A5a n5a c5a]) (Ty : ToGo w0 y [.int .i64 Kb, .int .i64 Hb, .string sb, .slice A3b n3b c3b, .slice A4b n4b c4b, .slice A5b n5b c5b]) (b : Bool)
    (HC : ∀ g h n m w, G n w x g → G m w y h → Calls Tryz.prog 76 #[g, h] w (Gives (ConV (some b)) w)) (w : World) (hb : Below w0.heap.size w0 w) :
    Calls Tryz.prog 24 #[.agg #[.int .i64 Ka, .int .i64 Ha, .string sa, .slice A3a n3a c3a, .slice A4a n4a c4a, .slice A5a n5a c5a], .agg #[.int .i64 Kb, .int .i64 Hb, .string sb, .slice A3b n3b c3b, .slice A4b n4b c4b, .slice A5b n5b c5b]] w fun e w' => e = .returned (resB b) ∧ Below w.heap.size w w' := by
  have HZ : Hid (∀ g h n m w, G n w x g → G m w y h → Calls Tryz.prog 42 #[g, h] w fun e w' => e = .returned (.iface 4 (.bool b)) ∧ Below w.heap.size w w') := Lib.hid (by
    intro g h n m w hg hh
    have H := Lib.hid (HC g h n m w hg hh)
    clear HC hg hh
    go_enter Tryz.func42, Tryz.ntmps42
    go_wp2_with fail
    refine H.out.mono ?_
    rintro e w1 ⟨v, rfl, hv, hb⟩
    obtain rfl := hv.1 b rfl
    have HB := Lib.hid hb; clear hb hv
    go_wp2_with fail
    go_ret
    exact ⟨rfl, HB.out⟩)
  have HX := Lib.hid Tx
  have HY := Lib.hid Ty
  have HB := Lib.hid hb
  have HD := Lib.hid (fun w => result_bool b w)
  simp only [rv, r0] at HD
  clear Tx Ty HC hb
  go_enter Tryz.func24, Tryz.ntmps24
  go_wp2_with fail
  have h3 := three_boxes w #[.int .i64 Ka, .int .i64 Ha, .string sa, .slice A3a n3a c3a, .slice A4a n4a c4a, .slice A5a n5a c5a] #[.int .i64 Kb, .int .i64 Hb, .string sb, .slice A3b n3b c3b, .slice A4b n4b c4b, .slice A5b n5b c5b] #[.int .i64 0, .int .i64 0, .string ⟨#[]⟩, .slice none 0 0, .slice none 0 0, .slice none 0 0, .int .i64 0] 26 26 36
  obtain ⟨W0, hw0⟩ : ∃ W0, W0 = (((w.alloc (.cells #[.int .i64 Ka, .int .i64 Ha, .string sa, .slice A3a n3a c3a, .slice A4a n4a c4a, .slice A5a n5a c5a] 26)).alloc (.cells #[.int .i64 Kb, .int .i64 Hb, .string sb, .slice A3b n3b c3b, .slice A4b n4b c4b, .slice A5b n5b c5b] 26)).alloc (.cells #[.int .i64 0, .int .i64 0, .string ⟨#[]⟩, .slice none 0 0, .slice none 0 0, .slice none 0 0, .int .i64 0] 36)) := ⟨_, rfl⟩
  rw [← hw0] at h3 ⊢
  clear hw0
  have H0 := Lib.hid h3
  clear h3
  refine (HX.out W0 (HB.out.trans (H0.out.1.mono HB.out.size))).mono ?_
  rintro e w1 ⟨g, rfl, hG, hb⟩
  have hy := (hb.block _ (lt_of_heap H0.out.2.2)).trans H0.out.2.2
  have H1 := Lib.hid (And.intro (H0.out.1.trans (hb.mono H0.out.1.size)) (And.intro ((hb.block _ (lt_of_heap H0.out.2.1)).trans H0.out.2.1) hG))
  clear hb H0 hG
  have y := six_cells hy
  clear hy
  go_wp2_with fail
  refine (HY.out w1 (HB.out.trans (H1.out.1.mono HB.out.size))).mono ?_
  rintro e w2 ⟨h, rfl, hG, hb⟩
  clear y
  have H2 := Lib.hid (And.intro (H1.out.1.trans (hb.mono H1.out.1.size)) (And.intro ((hb.block _ (lt_of_heap H1.out.2.1)).trans H1.out.2.1) (And.intro (H1.out.2.2.keepB hb) hG)))
  clear hb H1 hG
  go_wp2_with fail
  refine (HZ.out g h _ _ w2 H2.out.2.2.1 H2.out.2.2.2).mono ?_
  rintro e w3 ⟨rfl, hb⟩
  have H3 := Lib.hid (And.intro (H2.out.1.trans (hb.mono H2.out.1.size)) ((hb.block _ (lt_of_heap H2.out.2.1)).trans H2.out.2.1))
  clear hb H2
  go_wp2_with fail
  refine (HD.out w3).mono ?_
  rintro e w4 ⟨rfl, hb⟩
  have hx := (hb.block _ (lt_of_heap H3.out.2)).trans H3.out.2
  have H4 := Lib.hid (H3.out.1.trans (hb.mono H3.out.1.size))
  clear hb H3
  have y := sev_cells hx
  go_wp2_with fail
  have hz := sev_set hx (.int .i64 (kb b)) (.int .i64 0) (.string ⟨#[]⟩) (.slice none 0 0) (.slice none 0 0) (.slice none 0 0) (.int .i64 0)
  have hg := sev_grown w4 (w.heap.size + 1 + 1) (.int .i64 (kb b)) (.int .i64 0) (.string ⟨#[]⟩) (.slice none 0 0) (.slice none 0 0) (.slice none 0 0) (.int .i64 0)
  obtain ⟨W2, hW⟩ : ∃ W2, W2 = (((((((w4.setCell ⟨w.heap.size + 1 + 1, 0, none⟩ (.int .i64 (kb b))).setCell ⟨w.heap.size + 1 + 1, 1, none⟩ (.int .i64 0)).setCell ⟨w.heap.size + 1 + 1, 2, none⟩ (.string ⟨#[]⟩)).setCell ⟨w.heap.size + 1 + 1, 3, none⟩ (.slice none 0 0)).setCell ⟨w.heap.size + 1 + 1, 4, none⟩ (.slice none 0 0)).setCell ⟨w.heap.size + 1 + 1, 5, none⟩ (.slice none 0 0)).setCell ⟨w.heap.size + 1 + 1, 6, none⟩ (.int .i64 0)) := ⟨_, rfl⟩
  rw [← hW] at hz hg ⊢
  clear hW y hx
  obtain ⟨q0, q1, q2, q3, q4, q5, q6, _⟩ := sev_cells hz
  refine bodyPost_ret (v := .agg #[.int .i64 (kb b), .int .i64 0, .string ⟨#[]⟩, .slice none 0 0, .slice none 0 0, .slice none 0 0, .int .i64 0]) (by simp [results, Tryz.results24, go_sem, q0, q1, q2, q3, q4, q5, q6]) rfl ?_
  exact ⟨rfl, H4.out.grown hg H4.out.size (fun k hk => by cases hk; omega)⟩
/-- impl.Has at an object and a text. -/
theorem has_vals (w0 : World) {x : V} (hx : WL x) (zx : Sz x) (hk : x.f0 = 6) (s : ByteArray) (hz : s.size ≤ 9223372036854775807) {A3 A4 A5 : Option Addr} {c3 c4 c5 : Nat} (T : ToGo w0 x [.int .i64 x.f0, .int .i64 x.f1, .string x.f2, .slice A3 x.f3.length c3, .slice A4 x.f4.length c4, .slice A5 x.f5.length c5]) (w : World) (hw : Below w0.heap.size w0 w) :
    Calls Tryz.prog 24 #[.agg #[.int .i64 x.f0, .int .i64 x.f1, .string x.f2, .slice A3 x.f3.length c3, .slice A4 x.f4.length c4, .slice A5 x.f5.length c5], .agg #[.int .i64 4, .int .i64 0, .string s, .slice none 0 0, .slice none 0 0, .slice none 0 0]] w fun e w' => e = .returned (resB (inK x.f4 s)) ∧ Below w.heap.size w w' :=
  impl_has w0 x (txV2 s) _ _ _ _ _ _ _ _ _ _ _ _ _ _ _ _ _ _ _ _ _ _ _ _ T (toGo_any w0 _ (txV2 s) (Nat.lt_succ_self _) (tx_sz hz) (tx_wl s) _ (tx_K w0 s)) _ (fun g h n m w hg hh => has_G hx zx hk s hz hg hh) w hw
end Go.Proofs.YtcoahpcjhhnkkaaGreatDoor.NumA
/-
laws.fits at two values in one block.
-/
set_option linter.unusedSimpArgs false
set_option linter.unusedVariables false
namespace Go.Proofs.YtcoahpcjhhnkkaaGreatDoor.NumA
open Go.RowKit Go.Lib Go.Proofs.YtcoahpcjhhnkkaaGreatDoor.ValA Go.Proofs.YtcoahpcjhhnkkaaGreatDoor.FloH Go.Proofs.YtcoahpcjhhnkkaaGreatDoorW.PrintWords Go.Proofs.YtcoahpcjhhnkkaaGreatDoorW.PrintLast Go.Proofs.YtcoahpcjhhnkkaaGreatDoorW.PrintMore Go.Proofs.YtcoahpcjhhnkkaaGreatDoor.PzzFits1
theorem twelve_cells {w : World} {g : Nat} {c0 c1 c2 c3 c4 c5 d0 d1 d2 d3 d4 d5 : Value} {t : TypeId} (h : w.heap[g]? = some (.cells #[c0, c1, c2, c3, c4, c5, d0, d1, d2, d3, d4, d5] t (0, 0))) :
    (w.cell? ⟨g, 0, none⟩ = some c0 ∧ w.cell? ⟨g, 1, none⟩ = some c1 ∧ w.cell? ⟨g, 2, none⟩ = some c2 ∧ w.cell? ⟨g, 3, none⟩ = some c3 ∧ w.cell? ⟨g, 4, none⟩ = some c4 ∧ w.cell? ⟨g, 5, none⟩ = some c5) ∧ w.cell? ⟨g, 6, none⟩ = some d0 ∧ w.cell? ⟨g, 7, none⟩ = some d1 ∧ w.cell? ⟨g, 8, none⟩ = some d2 ∧ w.cell? ⟨g, 9, none⟩ = some d3 ∧ w.cell? ⟨g, 10, none⟩ = some d4 ∧ w.cell? ⟨g, 11, none⟩ = some d5 := by
  simp [World.cell?, h]
set_option maxHeartbeats 4000000 in
theorem fits_two (w0 : World) (hE : Env w0) (xa : V) (hza : Sz xa) (Ka Ha : Int) (sa : ByteArray) (A3a A4a A5a : Option Addr) (n3a c3a n4a c4a n5a c5a : Nat) (hKa : k26.K w0 xa [.int .i64 Ka, .int .i64 Ha, .string sa, .slice A3a n3a c3a, .slice A4a n4a c4a, .slice A5a n5a c5a]) (xb : V) (hzb : Sz xb) (Kb Hb : Int) (sb : ByteArray) (A3b A4b A5b : Option Addr) (n3b c3b n4b c4b n5b c5b : Nat) (hKb : k26.K w0 xb [.int .i64 Kb, .int .i64 Hb, .string sb, .slice A3b n3b c3b, .slice A4b n4b c4b, .slice A5b n5b c5b]) (w : World) (hb : Below w0.heap.size w0 w) (g : Nat) (hg : w.heap[g]? = some (.cells #[.int .i64 Ka, .int .i64 Ha, .string sa, .slice A3a n3a c3a, .slice A4a n4a c4a, .slice A5a n5a c5a, .int .i64 Kb, .int .i64 Hb, .string sb, .slice A3b n3b c3b, .slice A4b n4b c4b, .slice A5b n5b c5b] 26 (0, 0))) :
    Calls Tryz.prog 17 #[.slice (some ⟨g, 0, none⟩) 2 2] w (Says (WF xa ∧ WF xb) w) := by
  have HFa := Lib.hid (fun w1 hb => fit_any w0 hE xa hza Ka Ha sa A3a A4a A5a n3a c3a n4a c4a n5a c5a hKa w1 hb)
  have HFb := Lib.hid (fun w1 hb => fit_any w0 hE xb hzb Kb Hb sb A3b A4b A5b n3b c3b n4b c4b n5b c5b hKb w1 hb)
  have HG := Lib.hid (And.intro hb hg)
  clear hE hza hKa hzb hKb hb hg
  go_enter Tryz.func17, Tryz.ntmps17
  go_wp2_with fail
  go_loopg [7] 2 (fun k i wr => ∃ j : Nat, i = .int .i64 j ∧ k + j = 2 ∧ Below w.heap.size w wr ∧ (1 ≤ j → WF xa) ∧ (2 ≤ j → WF xb))
  case atStart => exact ⟨0, rfl, rfl, Below.refl _ _, by omega, by omega⟩
  case round =>
    obtain ⟨j, rfl, hkj, hbr, h1, h2⟩ := hrel
    have hgr := (hbr.block g (lt_of_heap HG.out.2)).trans HG.out.2
    have HR := Lib.hid (And.intro hbr (And.intro h1 h2))
    clear hbr h1 h2
    have hj : j = 0 ∨ j = 1 ∨ j = 2 := by omega
    rcases hj with rfl | rfl | rfl
    · skip
      obtain ⟨y, z⟩ := twelve_cells hgr
      obtain ⟨y0, y1, y2, y3, y4, y5⟩ := y
      clear hgr
      go_wp2_with fail
      refine (HFa.out _ ?_).mono ?_
      · exact (HG.out.1.trans (HR.out.1.mono HG.out.1.size)).alloc (Nat.le_trans HG.out.1.size HR.out.1.size) _
      rintro e w2 ⟨r, rfl, hr, hb2⟩
      have HB2 := Lib.hid ((HR.out.1.alloc HR.out.1.size _).trans (hb2.mono (Nat.le_trans HR.out.1.size (by rw [World.size_alloc]; omega))))
      have HX := Lib.hid hr
      clear hb2 hr z y0 y1 y2 y3 y4 y5
      cases r with
      | false =>
        go_wp2_with fail
        go_ret
        exact ⟨false, rfl, fun e => (by cases e), HB2.out⟩
      | true =>
        go_wp2_with fail
        go_roundg (gk - 1)
        case measure => omega
        case rel => exact ⟨1, by go_num, by omega, HB2.out, fun _ => HX.out (by trivial), fun h => absurd h (by omega)⟩
    · skip
      obtain ⟨y, z⟩ := twelve_cells hgr
      obtain ⟨y0, y1, y2, y3, y4, y5⟩ := z
      clear hgr
      go_wp2_with fail
      refine (HFb.out _ ?_).mono ?_
      · exact (HG.out.1.trans (HR.out.1.mono HG.out.1.size)).alloc (Nat.le_trans HG.out.1.size HR.out.1.size) _
      rintro e w2 ⟨r, rfl, hr, hb2⟩
      have HB2 := Lib.hid ((HR.out.1.alloc HR.out.1.size _).trans (hb2.mono (Nat.le_trans HR.out.1.size (by rw [World.size_alloc]; omega))))
      have HX := Lib.hid hr
      clear hb2 hr y y0 y1 y2 y3 y4 y5
      cases r with
      | false =>
        go_wp2_with fail
        go_ret
        exact ⟨false, rfl, fun e => (by cases e), HB2.out⟩
      | true =>
        go_wp2_with fail
        go_roundg (gk - 1)
        case measure => omega
        case rel => exact ⟨2, by go_num, by omega, HB2.out, fun _ => HR.out.2.1 (by omega), fun _ => HX.out (by trivial)⟩
    · clear hgr
      go_wp2_with fail
      go_ret
      exact ⟨true, rfl, fun _ => ⟨HR.out.2.1 (by omega), HR.out.2.2 (by omega)⟩, HR.out.1⟩
end Go.Proofs.YtcoahpcjhhnkkaaGreatDoor.NumA
