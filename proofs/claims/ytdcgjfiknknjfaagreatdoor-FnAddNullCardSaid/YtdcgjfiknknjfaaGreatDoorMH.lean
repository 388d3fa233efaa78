/-
Parts of the proof, one behind the other: KeyA, ShelfS, KeyB, CmpE, KeyC, CmpF, CmpG, CmpH.
-/
import Derived.Test.YtdcgjfiknknjfaaGreatDoorME
import Derived.Sort.KeysCollected
import Derived.Sort.OwnSorted
import Derived.Maps.RangeWalk
import Derived.Test.YtdcgjfiknknjfaaGreatDoorProg
import Derived.Shelf.Sort.Plain
import Derived.Test.YtdcgjfiknknjfaaGreatDoorMF
import Derived.Test.YtdcgjfiknknjfaaGreatDoorMG
/-
Maps whose keys are strings: what a range collects, what a lookup finds.
-/
set_option linter.unusedSimpArgs false
set_option linter.unusedVariables false
namespace Go.Proofs.YtdcgjfiknknjfaaGreatDoor.NumA
open Go.RowKit Go.Lib Go.Proofs.YtdcgjfiknknjfaaGreatDoor.ValA Go.Proofs.YtdcgjfiknknjfaaGreatDoor.FloH Go.Proofs.YtdcgjfiknknjfaaGreatDoorW.PrintWords Go.Proofs.YtdcgjfiknknjfaaGreatDoorW.PrintLast Go.Proofs.YtdcgjfiknknjfaaGreatDoorW.PrintMore Go.Proofs.YtdcgjfiknknjfaaGreatDoor.PzzFits1
/-- An element of a map, read as nothing. -/
def R0 (_ : Value) : Option (DataW Unit × List MemPlace) := some (.nil, [])
/-- A map's keys as a datum. -/
def IsD (es : List MapEntry) (D : DataW Unit) : Prop := D = .map ((es.map (WideElems.rg Tryz.prog 9 R0)).foldr DataW.insert [])
theorem keyedS : Maps.Keyed Tryz.prog 9 := Maps.string_keyed Tryz.underlying9
/-- The keys of es are l. -/
def KeysAre (es : List MapEntry) (l : List ByteArray) : Prop := es.length = l.length ∧ (∀ (i : Nat) (s : ByteArray) (e : MapEntry), l[i]? = some s → es[i]? = some e → e.key = .string s) ∧ ∀ s ∈ l, s.size ≤ 9223372036854775807
theorem KeysAre.all {es : List MapEntry} {l : List ByteArray} (h : KeysAre es l) : ∀ e ∈ es, ∃ t : ByteArray, e.key = .string t ∧ t.size ≤ 9223372036854775807 := by
  intro e he
  obtain ⟨i, hi⟩ := List.getElem?_of_mem he
  have h1 := (List.getElem?_eq_some_iff.1 hi).1
  have h2 : i < l.length := by have := h.1; omega
  exact ⟨l[i], h.2.1 i _ e (List.getElem?_eq_getElem h2) hi, h.2.2 _ (List.getElem_mem h2)⟩
theorem owns_of {w : World} {b c : Nat} {es : List MapEntry} {l : List ByteArray} (hb : w.heap[b]? = some (.map es.toArray c)) (hst : MapKept.Stamped es.toArray c) (hn : es.length ≤ 400) (hk : KeysAre es l) {D : DataW Unit} (hD : IsD es D) : w.ownsMap Tryz.prog 9 R0 b es.length D := by
  unfold IsD at hD
  subst hD
  refine ⟨es.toArray, c, hb, ⟨by unfold maxLen; simp; omega, hst, fun x hx => ?_⟩, by simp, by simp⟩
  obtain ⟨t, e1, e2⟩ := hk.all x (by simpa using hx)
  refine ⟨(.string t.data.toList, .nil), ?_⟩
  unfold WideElems.rd
  rw [e1, key_lit t e2]
  rfl
theorem keys_perm {es : List MapEntry} {l : List ByteArray} (hk : KeysAre es l) {D : DataW Unit} (hD : IsD es D) : (strKeys D).Perm (l.map fun s => s.data.toList) := by
  unfold IsD at hD
  subst hD
  have e : (es.map (WideElems.rg Tryz.prog 9 R0)).map (fun p => strOf p.1) = l.map (fun s => s.data.toList) := by
    apply List.ext_getElem (by simp [hk.1])
    intro i h1 h2
    have hi : i < es.length := by simpa using h1
    have hi' : i < l.length := by simpa using h2
    have k := hk.2.1 i l[i] es[i] (List.getElem?_eq_getElem hi') (List.getElem?_eq_getElem hi)
    have r : WideElems.rg Tryz.prog 9 R0 es[i] = (.string l[i].data.toList, .nil) := by
      apply WideElems.rg_of
      unfold WideElems.rd
      rw [k, key_lit _ (hk.2.2 _ (List.getElem_mem hi'))]
      rfl
    simp only [List.getElem_map, r]
    rfl
  rw [← e]
  exact (WideShapes.sorted_perm _).map _
theorem sort_keys {l : List ByteArray} (h : ∀ i : Nat, 0 < i → i < l.length → Op.bytesLess (rdOf ByteArray.empty l (i - 1 : Nat)).toList (rdOf ByteArray.empty l i).toList = true) {ss : List (List UInt8)} (hp : ss.Perm (l.map fun s => s.data.toList)) : ss.mergeSort (fun x y => decide (x ≤ y)) = l.map fun s => s.data.toList := by
  have tr : ∀ a b c : List UInt8, leB a b = true → leB b c = true → leB a c = true := fun a b c h1 h2 => by simp only [leB, decide_eq_true_eq] at *; exact List.le_trans h1 h2
  have tot : ∀ a b : List UInt8, (leB a b || leB b a) = true := fun a b => by simp only [leB, Bool.or_eq_true, decide_eq_true_eq]; exact List.le_total a b
  refine List.Perm.eq_of_pairwise (le := fun a b => leB a b = true) (fun a b _ _ h1 h2 => ?_) (List.pairwise_mergeSort tr tot ss) ?_ ((List.mergeSort_perm ss leB).trans hp)
  · simp only [leB, decide_eq_true_eq] at h1 h2
    exact List.le_antisymm h1 h2
  · rw [List.pairwise_iff_getElem]
    intro i j hi hj hij
    have hi' : i < l.length := by simpa using hi
    have hj' : j < l.length := by simpa using hj
    have h2 := keys_rise h (j - i - 1) i (by omega)
    rw [show i + (j - i - 1) + 1 = j by omega, bytesLess_eq, decide_eq_true_eq] at h2
    have e1 := key_rd l i hi'
    have e2 := key_rd l j hj'
    rw [List.getElem?_eq_getElem hi'] at e1
    rw [List.getElem?_eq_getElem hj'] at e2
    rw [← Option.some.inj e1, ← Option.some.inj e2, Lib.toList_data, Lib.toList_data] at h2
    simp only [List.getElem_map, leB, decide_eq_true_eq]
    exact List.le_of_lt h2
theorem run_look {w : World} {b c : Nat} {es : List MapEntry} {l : List ByteArray} (hb : w.heap[b]? = some (.map es.toArray c)) (hst : MapKept.Stamped es.toArray c) (hk : KeysAre es l) (j : Nat) (hj : j < l.length) :
    ∃ e, es[j]? = some e ∧ (Instr.lookup 65 (.map (some b)) (.string (rdOf ByteArray.empty l j)) false).run Tryz.prog w = .ok e.val w := by
  have hj' : j < es.length := by have := hk.1; omega
  have he := List.getElem?_eq_getElem hj'
  have k := hk.2.1 j _ _ (key_rd l j hj) he
  refine ⟨es[j], he, ?_⟩
  have hkey := key_lit (rdOf ByteArray.empty l j) (hk.2.2 _ (List.mem_of_getElem? (key_rd l j hj)))
  have hp := ((MapKept.stamped_iff es.toArray c).1 hst).2.2
  have K := keyedS
  rcases K.find w hkey es (fun e he => by obtain ⟨t, e1, e2⟩ := hk.all e he; exact ⟨_, by rw [e1]; exact key_lit t e2⟩) with ⟨_, h2⟩ | ⟨i, e, h1, h2, h3⟩
  · exact absurd k (h2 _ (List.getElem_mem hj'))
  · have e1 : e = es[j] := entry_eq_of_key hp (by simpa using List.mem_of_getElem? h2) (by simp) (by rw [h3, k])
    rw [← e1]
    simp [Instr.lookup, run_underlying Tryz.underlying65, MapKept.run_getObj_map hb, K.check w _ hkey, h1, Result.andThen]
end Go.Proofs.YtdcgjfiknknjfaaGreatDoor.NumA
/-
The contract of sort.Strings at this program (printed by the kit's lay-plain).
-/
namespace Go.Proofs
open Go.Shelf
def Tryz.laysSort_ren : Go.Shelf.Ren := ⟨fun | 192 => 147 | 190 => 152 | 125 => 178 | 258 => 177 | 128 => 201 | 129 => 202 | 302 => 192 | 303 => 193 | 304 => 194 | 305 => 195 | 306 => 196 | 307 => 197 | 308 => 198 | 309 => 199 | 310 => 200 | 333 => 213 | 329 => 214 | 330 => 215 | 334 => 216 | 335 => 217 | 336 => 127 | 344 => 225 | n => n, fun | 31 => 24 | 0 => 0 | 9 => 9 | 3 => 3 | 46 => 151 | 51 => 144 | 53 => 152 | 4 => 4 | 183 => 193 | 182 => 192 | 131 => 197 | 5 => 5 | 218 => 213 | 222 => 216 | 228 => 225 | 229 => 226 | n => n, fun | n => n⟩
theorem Tryz.laysSort : Go.Proofs.Lays.n192 Tryz.prog Tryz.laysSort_ren := {
  mixed := by kernel_rfl
  f125 := Tryz.func178.trans (congrArg some (by kernel_rfl))
  f128 := Tryz.func201.trans (congrArg some (by kernel_rfl))
  f129 := Tryz.func202.trans (congrArg some (by kernel_rfl))
  f190 := Tryz.func152.trans (congrArg some (by kernel_rfl))
  f192 := Tryz.func147.trans (congrArg some (by kernel_rfl))
  f258 := Tryz.func177.trans (congrArg some (by kernel_rfl))
  f302 := Tryz.func192.trans (congrArg some (by kernel_rfl))
  f303 := Tryz.func193.trans (congrArg some (by kernel_rfl))
  f304 := Tryz.func194.trans (congrArg some (by kernel_rfl))
  f305 := Tryz.func195.trans (congrArg some (by kernel_rfl))
  f306 := Tryz.func196.trans (congrArg some (by kernel_rfl))
  f307 := Tryz.func197.trans (congrArg some (by kernel_rfl))
  f308 := Tryz.func198.trans (congrArg some (by kernel_rfl))
  f309 := Tryz.func199.trans (congrArg some (by kernel_rfl))
  f310 := Tryz.func200.trans (congrArg some (by kernel_rfl))
  f329 := Tryz.func214.trans (congrArg some (by kernel_rfl))
  f330 := Tryz.func215.trans (congrArg some (by kernel_rfl))
  f333 := Tryz.func213.trans (congrArg some (by kernel_rfl))
  f334 := Tryz.func216.trans (congrArg some (by kernel_rfl))
  f335 := Tryz.func217.trans (congrArg some (by kernel_rfl))
  f336 := Tryz.func127.trans (congrArg some (by kernel_rfl))
  f344 := Tryz.func225.trans (congrArg some (by kernel_rfl))
  t0 := Tryz.underlying0
  a0 := Tryz.isAgg0
  z0 := Tryz.sizeOf0
  v0 := Tryz.zeroValue0
  t3 := Tryz.underlying3
  a3 := Tryz.isAgg3
  z3 := Tryz.sizeOf3
  v3 := Tryz.zeroValue3
  t4 := Tryz.underlying4
  a4 := Tryz.isAgg4
  z4 := Tryz.sizeOf4
  v4 := Tryz.zeroValue4
  t5 := Tryz.underlying5
  a5 := Tryz.isAgg5
  z5 := Tryz.sizeOf5
  v5 := Tryz.zeroValue5
  t9 := Tryz.underlying9
  a9 := Tryz.isAgg9
  z9 := Tryz.sizeOf9
  v9 := Tryz.zeroValue9
  t31 := Tryz.underlying24
  a31 := Tryz.isAgg24
  z31 := Tryz.sizeOf24
  v31 := Tryz.zeroValue24
  t46 := Tryz.underlying151
  a46 := Tryz.isAgg151
  z46 := Tryz.sizeOf151
  v46 := Tryz.zeroValue151
  t51 := Tryz.underlying144
  a51 := Tryz.isAgg144
  z51 := Tryz.sizeOf144
  v51 := Tryz.zeroValue144
  t53 := Tryz.underlying152
  a53 := Tryz.isAgg152
  z53 := Tryz.sizeOf152
  v53 := Tryz.zeroValue152
  t131 := Tryz.underlying197
  a131 := Tryz.isAgg197
  z131 := Tryz.sizeOf197
  v131 := Tryz.zeroValue197
  t182 := Tryz.underlying192
  a182 := Tryz.isAgg192
  z182 := Tryz.sizeOf192
  v182 := Tryz.zeroValue192
  t183 := Tryz.underlying193
  a183 := Tryz.isAgg193
  z183 := Tryz.sizeOf193
  v183 := Tryz.zeroValue193
  t218 := Tryz.underlying213
  a218 := Tryz.isAgg213
  z218 := Tryz.sizeOf213
  v218 := Tryz.zeroValue213
  t222 := Tryz.underlying216
  a222 := Tryz.isAgg216
  z222 := Tryz.sizeOf216
  v222 := Tryz.zeroValue216
  t228 := Tryz.underlying225
  a228 := Tryz.isAgg225
  z228 := Tryz.sizeOf225
  v228 := Tryz.zeroValue225
  t229 := Tryz.underlying226
  a229 := Tryz.isAgg226
  z229 := Tryz.sizeOf226
  v229 := Tryz.zeroValue226 }
end Go.Proofs
/-
gojq.keys: the keys of a map, in their order.
-/
set_option linter.unusedSimpArgs false
set_option linter.unusedVariables false
namespace Go.Proofs.YtdcgjfiknknjfaaGreatDoor.NumA
open Go.RowKit Go.Lib Go.Proofs.YtdcgjfiknknjfaaGreatDoor.ValA Go.Proofs.YtdcgjfiknknjfaaGreatDoor.FloH Go.Proofs.YtdcgjfiknknjfaaGreatDoorW.PrintWords Go.Proofs.YtdcgjfiknknjfaaGreatDoorW.PrintLast Go.Proofs.YtdcgjfiknknjfaaGreatDoorW.PrintMore Go.Proofs.YtdcgjfiknknjfaaGreatDoor.PzzFits1
theorem sort_strs (blk cap : Nat) (ss : List (List UInt8)) (w : World) (hH : Go.Sort.Holds encStr w blk 0 ss.toArray) (hblk : blk < w.heap.size) (hsz : ss.length < 4611686018427387904) :
    Calls Tryz.prog 147 #[.slice (some ⟨blk, 0, none⟩) ss.length cap] w fun e w' =>
      e = .returned (.tuple #[]) ∧ ∃ n os, w' = Go.Sort.grow (Go.Sort.putRow encStr (Go.Sort.ahead w n) blk 0 (ss.mergeSort fun x y => decide (x ≤ y)).toArray) os := Any.sort_Strings Tryz.laysSort blk 0 cap ss w hH hblk hsz
theorem info_str : (Tryz.prog.info? 9).map (fun i => (i.zero, i.size, i.bytes)) = some (some (.string ⟨#[]⟩), 1, 16) := by kernel_rfl
theorem made_str (n : Nat) : madeCells (Value.cells (.string ⟨#[]⟩)) (n * 1) = (List.replicate n (Value.string ⟨#[]⟩)).toArray := by
  have e : Value.cells (.string ⟨#[]⟩) = #[Value.string ⟨#[]⟩] := rfl
  rw [e, Nat.mul_one]
  unfold madeCells
  apply Array.ext
  · simp
  · intro i h1 h2
    simp [Nat.mod_one]
theorem runMakeS (n : Nat) (hn : n ≤ 400) (w : World) : (Instr.makeSlice 24 (.int .i64 n) (.int .i64 n)).run Tryz.prog w = .ok (.slice (some ⟨w.heap.size, 0, none⟩) n n) (w.alloc (.cells (List.replicate n (Value.string ⟨#[]⟩)).toArray 9)) := by
  have hi := info_str
  cases h : Tryz.prog.info? 9 with
  | none => rw [h] at hi; cases hi
  | some i =>
    rw [h] at hi
    have hi := Option.some.inj hi
    simp only [Prod.mk.injEq] at hi
    obtain ⟨h1, h2, h3⟩ := hi
    have := run_makeSlice (P := Tryz.prog) w 24 9 i (.string ⟨#[]⟩) Tryz.underlying24 h h1 .i64 .i64 (n : Int) (n : Int) (by omega) (by omega) (by rw [h2]; omega) (by rw [h3]; omega) (by omega)
    rw [this, Int.toNat_natCast, h2, made_str]
theorem size_D {es : List MapEntry} {D : DataW Unit} (hD : IsD es D) : Maps.size D = es.length := by
  unfold IsD at hD
  subst hD
  simp [Maps.size, length_sorted]
/-- The head of keys' round. -/
def RKs (w : World) (n b : Nat) (D : DataW Unit) (k : Nat) (i : Value) (wr : World) : Prop :=
  ∃ (left : Lit → Bool) (ss : List (List UInt8)) (vs : List Value), wr.ranges Tryz.prog 9 R0 b (w.heap.size + 1) n D left k ∧ i = .int .i64 ss.length ∧ ss.length + k ≤ n ∧ wr.heap[w.heap.size]? = some (.cells vs.toArray 9 (0, 0)) ∧ vs.length = n ∧
    (∀ (j : Nat) (x : List UInt8), ss[j]? = some x → vs[j]? = some (Go.Proofs.encStr x)) ∧ Collected D left ss ∧ Below w.heap.size w wr
/-- What keys gives. -/
def KeysGo (w : World) (l : List ByteArray) (e : Ending) (w' : World) : Prop :=
  e = .returned (.slice (some ⟨w.heap.size, 0, none⟩) l.length l.length) ∧ w'.heap[w.heap.size]? = some (.cells (l.map Value.string).toArray 9 (0, 0)) ∧ Below w.heap.size w w'
theorem keys_fin {w wr w1 : World} {n nn : Nat} {os : Array Obj} {es : List MapEntry} {l : List ByteArray} {ss : List (List UInt8)} {vs : List Value} (hbl : wr.heap[w.heap.size]? = some (.cells vs.toArray 9 (0, 0))) (hvs : vs.length = n) (hn : n = es.length) (hk : KeysAre es l)
    (hrise : ∀ i : Nat, 0 < i → i < l.length → Op.bytesLess (rdOf ByteArray.empty l (i - 1 : Nat)).toList (rdOf ByteArray.empty l i).toList = true) (hp : ss.Perm (l.map fun s => s.data.toList)) (hbr : Below w.heap.size w wr)
    (hw1 : w1 = Go.Sort.grow (Go.Sort.putRow Go.Proofs.encStr (Go.Sort.ahead wr nn) w.heap.size 0 (ss.mergeSort fun x y => decide (x ≤ y)).toArray) os) :
    w1.heap[w.heap.size]? = some (.cells (l.map Value.string).toArray 9 (0, 0)) ∧ Below w.heap.size w w1 := by
  rw [sort_keys hrise hp] at hw1
  have h1 := heap_sorted (n := nn) (os := os) (l.map fun s => s.data.toList).toArray hbl
  have h2 : wr.grownBy w1 (some w.heap.size) := by rw [hw1]; exact grownBy_sorted _
  rw [← hw1] at h1
  refine ⟨?_, hbr.grown h2 hbr.size (fun k hk => by cases hk; exact Nat.le_refl _)⟩
  rw [h1]
  have hlen : (l.map fun s => s.data.toList).length = vs.length := by rw [List.length_map]; have := hk.1; omega
  have e := take_putCells vs.toArray (l.map fun s => s.data.toList) (by simp [hlen])
  rw [List.take_of_length_le (by simp [Go.Sort.putCells, hlen])] at e
  have e2 : (l.map fun s => s.data.toList).map Go.Proofs.encStr = l.map Value.string := by
    rw [List.map_map]
    apply List.map_congr_left
    intro s _
    simp [Go.Proofs.encStr]
  rw [e2] at e
  have e3 : Go.Sort.putCells Go.Proofs.encStr 0 (l.map fun s => s.data.toList).toArray vs.toArray = (l.map Value.string).toArray := by
    apply Array.ext'
    rw [e]
  rw [e3]
theorem rks_step {w wr w' : World} {n b cnt cnt' : Nat} {D : DataW Unit} {left : Lit → Bool} {ss : List (List UInt8)} {vs : List Value} {x : List UInt8} {y : DataW Unit × List MemPlace}
    (HR : ss.length + cnt ≤ n ∧ wr.heap[w.heap.size]? = some (.cells vs.toArray 9 (0, 0)) ∧ vs.length = n ∧ (∀ (j : Nat) (x : List UInt8), ss[j]? = some x → vs[j]? = some (Go.Proofs.encStr x)) ∧ Collected D left ss ∧ Below w.heap.size w wr)
    (hlen : ss.length < n) (hlk : left (.string x) = true) (hat : ∀ zd, D.atKey (.string x) zd = y.1) (hrg2 : w'.ranges Tryz.prog 9 R0 b (w.heap.size + 1) n D (fun z => left z && !z.sameKey (.string x)) cnt') (hlt : cnt' < cnt) (hg2 : wr.grownBy w' (some (w.heap.size + 1))) :
    RKs w n b D cnt' (.int .i64 ((ss.length + 1 : Nat) : Int)) (w'.setCell ⟨w.heap.size, ss.length, none⟩ (Go.Proofs.encStr x)) := by
  obtain ⟨hcs, hbl, hvs, hss, hC, hbr⟩ := HR
  have hbl2 := (hg2.block _ (lt_of_heap hbl) (by simp)).trans hbl
  have hgr : w'.grownBy (w'.setCell ⟨w.heap.size, ss.length, none⟩ (Go.Proofs.encStr x)) (some w.heap.size) := grown_set (World.grownBy.refl w' _) _ _
  have hb2 : Below w.heap.size w w' := hbr.grown hg2 hbr.size (fun k hk => by cases hk; omega)
  refine ⟨_, ss ++ [x], vs.set ss.length (Go.Proofs.encStr x), ?_, by simp, by simp; omega, ?_, by simp [hvs], ?_, hC.step hlk hat, hb2.grown hgr hb2.size (fun k hk => by cases hk; exact Nat.le_refl _)⟩
  · refine hrg2.kept hgr ?_ (by simp)
    intro e
    have hbb := hrg2.owns
    obtain ⟨es, clock, hb, _⟩ := hbb
    cases e
    rw [hbl2] at hb
    cases hb
  · rw [heap_set hbl2 _ _]
    simp
  · intro j z hz
    by_cases e : j = ss.length
    · subst e
      rw [List.getElem?_append_right (Nat.le_refl _), Nat.sub_self] at hz
      obtain rfl := Option.some.inj hz
      rw [List.getElem?_set]
      simp [hvs, hlen]
    · have hj : j < (ss ++ [x]).length := (List.getElem?_eq_some_iff.1 hz).1
      rw [List.length_append, List.length_singleton] at hj
      rw [List.getElem?_append_left (by omega)] at hz
      rw [List.getElem?_set_ne (Ne.symm e)]
      exact hss j z hz
set_option maxRecDepth 100000 in
set_option maxHeartbeats 4000000 in
theorem gojq_keys (w : World) (b c : Nat) (es : List MapEntry) (l : List ByteArray) (hb : w.heap[b]? = some (.map es.toArray c)) (hst : MapKept.Stamped es.toArray c) (hn : es.length ≤ 400) (hk : KeysAre es l)
    (hrise : ∀ i : Nat, 0 < i → i < l.length → Op.bytesLess (rdOf ByteArray.empty l (i - 1 : Nat)).toList (rdOf ByteArray.empty l i).toList = true) :
    Calls Tryz.prog 128 #[.map (some b)] w (KeysGo w l) := by
  obtain ⟨n, hnn⟩ : ∃ n, n = es.length := ⟨_, rfl⟩
  obtain ⟨D, hD⟩ : ∃ D, IsD es D := ⟨_, rfl⟩
  have hown := owns_of hb hst hn hk hD
  have hlen : ∀ ty, (Builtin.len_ #[65] ty #[.map (some b)]).run Tryz.prog w = .ok (.int .i64 (n : Int)) w := fun ty => by
    have := hown.len Tryz.underlying65 ty
    rwa [size_D hD, ← hnn] at this
  have hmk := fun w => runMakeS n (by omega) w
  obtain ⟨W2, hrun, hrg, hg2, hs2⟩ := (hown.alloc (.cells (List.replicate n (Value.string ⟨#[]⟩)).toArray 9)).range keyedS Tryz.underlying65
  rw [World.size_alloc] at hrun hrg hs2
  rw [List.toArray_replicate] at hrun
  have H0 := Lib.hid (show RKs w n b D n (.int .i64 ((0 : Nat) : Int)) W2 by
    refine ⟨_, [], List.replicate n (Value.string ⟨#[]⟩), by rw [hnn]; rw [size_D hD] at hrg; exact hrg, rfl, by simp, ?_, by simp, fun j x h => by simp at h, Collected.start _, ?_⟩
    · exact (hg2.block _ (by rw [World.size_alloc]; omega) (by simp)).trans (heap_alloc_new w _)
    · exact ((Below.refl _ w).alloc (Nat.le_refl _) _).grown hg2 (by rw [World.size_alloc]; omega) (fun k hk => by cases hk))
  have HK := Lib.hid (And.intro hk (And.intro hrise hD))
  have HN := Lib.hid (And.intro hn hnn)
  have hblt := lt_of_heap hb
  have HB := Lib.hid (And.intro hb hblt)
  clear hb hst hn hk hrise hown hrg hg2 hs2 hnn hblt hD
  go_enter Tryz.func128, Tryz.ntmps128
  go_wp2_with fail
  clear hlen hmk hrun
  go_loopg [4] n (fun k i wr => RKs w n b D k i wr)
  case atStart => exact H0.out
  case round =>
    clear H0
    obtain ⟨left, ss, vs, hrg, rfl, hcs, hbl, hvs, hss, hC, hbr⟩ := hrel
    have HR := Lib.hid (And.intro hcs (And.intro hbl (And.intro hvs (And.intro hss (And.intro hC hbr)))))
    have HG := Lib.hid hrg
    rcases hrg.next keyedS 0 with ⟨hc0, hl0, hrun⟩ | ⟨key, v, kl, y, w', cnt', hkey, hlk, hv, hat, hrun, hrg2, hlt, hg2, hs2, hen⟩
    · have HC0 := Lib.hid (And.intro hc0 hl0)
      have hp := (hC.perm hrg.owns keyedS Tryz.underlying9 hl0).trans (keys_perm HK.out.1 HK.out.2.2)
      have hsl : ss.length = n := by have := hp.length_eq; rw [List.length_map] at this; have := HK.out.1.1; have := HN.out.2; omega
      have hH : Go.Sort.Holds Go.Proofs.encStr wr w.heap.size 0 ss.toArray := by
        intro j hj
        have hj' : j < ss.length := by simpa using hj
        have h := list_cell hbl (by omega : j < vs.length)
        have e := hss j ss[j] (List.getElem?_eq_getElem hj')
        rw [List.getElem?_eq_getElem (by omega)] at e
        rw [Nat.zero_add, h.1, h.2, Option.some.inj e]
        simp [hj']
      have HS := Lib.hid (sort_strs w.heap.size n ss wr hH (lt_of_heap hbl) (by have := HN.out; omega))
      rw [hsl] at HS
      have HP := Lib.hid (And.intro hp hsl)
      clear hcs hbl hvs hss hC hbr hrg hl0 hc0 hp hsl hH
      go_wp2_with fail
      refine HS.out.mono ?_
      rintro e w1 ⟨rfl, nn, os, hw1⟩
      have hfin := keys_fin HR.out.2.1 HR.out.2.2.1 HN.out.2 HK.out.1 HK.out.2.1 HP.out.1 HR.out.2.2.2.2.2 hw1
      have HF := Lib.hid hfin
      clear hfin hw1
      go_wp2_with fail
      go_ret
      have e : l.length = n := by have := HK.out.1.1; have := HN.out.2; omega
      exact ⟨by rw [e]; rfl, HF.out⟩
    · obtain ⟨x, rfl, rfl, hx⟩ := Maps.keyOf_str Tryz.underlying9 hkey
      have hlen : ss.length < n := by omega
      have HX := Lib.hid hlen
      obtain ⟨q0, q1⟩ := list_cell ((hg2.block _ (lt_of_heap hbl) (by simp)).trans hbl) (Nat.lt_of_lt_of_eq HX.out HR.out.2.2.1.symm)
      have hbl2 := (hg2.block _ (lt_of_heap hbl) (by simp)).trans hbl
      have H4 := Lib.hid (rks_step (x := x) HR.out hlen hlk hat hrg2 hlt hg2)
      have H2 := Lib.hid (And.intro hlk (And.intro hat (And.intro hrg2 (And.intro hlt (And.intro hg2 hs2)))))
      clear hcs hbl hvs hss hC hbr hrg hlk hv hat hrg2 hlt hg2 hs2 hkey hbl2
      clear hlen
      have hlt2 : (ss.length : Int) < (n : Int) := by have := HX.out; omega
      have hwr : wrap64 ((ss.length : Int) + 1) = ((ss.length + 1 : Nat) : Int) := by have := HN.out; have := HX.out; unfold wrap64; omega
      have HWR := Lib.hid hwr
      clear hwr
      go_wp2_with fail
      go_roundg cnt'
      case measure => exact H2.out.2.2.2.1
      case rel =>
        rw [HWR.out]
        exact H4.out
end Go.Proofs.YtdcgjfiknknjfaaGreatDoor.NumA
/-
gojq.Compare out of its callbacks: numbers, strings, lists, maps.
-/
set_option linter.unusedSimpArgs false
set_option linter.unusedVariables false
namespace Go.Proofs.YtdcgjfiknknjfaaGreatDoor.NumA
open Go.RowKit Go.Lib Go.Proofs.YtdcgjfiknknjfaaGreatDoor.ValA Go.Proofs.YtdcgjfiknknjfaaGreatDoor.FloH Go.Proofs.YtdcgjfiknknjfaaGreatDoorW.PrintWords Go.Proofs.YtdcgjfiknknjfaaGreatDoorW.PrintLast Go.Proofs.YtdcgjfiknknjfaaGreatDoorW.PrintMore Go.Proofs.YtdcgjfiknknjfaaGreatDoor.PzzFits1
/-- The call gives z. -/
def Gz (z : Int) (w : World) (e : Ending) (w' : World) : Prop := e = .returned (.int .i64 z) ∧ Below w.heap.size w w'
theorem Gz.of {z : Int} {w : World} {e : Ending} {w' : World} (h : Gives (fun v => v = .int .i64 z) w e w') : Gz z w e w' := by
  obtain ⟨v, rfl, rfl, hb⟩ := h
  exact ⟨rfl, hb⟩
theorem compare_of (l r : Value) (z : Int) (w : World) (HB : Calls Tryz.prog 68 #[l, r, Value.func (Fn.func 69) #[] #[], Value.func (Fn.func 70) #[] #[], Value.func (Fn.func 72) #[] #[], Value.func (Fn.func 73) #[] #[], Value.func (Fn.func 74) #[] #[], Value.func (Fn.func 75) #[] #[], Value.func (Fn.func 77) #[] #[]] w (Gz z w)) : Calls Tryz.prog 49 #[l, r] w (Gz z w) := by
  have H := Lib.hid HB
  clear HB
  go_enter Tryz.func49, Tryz.ntmps49
  go_wp2_with fail
  refine H.out.mono ?_
  rintro e w1 ⟨rfl, hb⟩
  have H1 := Lib.hid hb; clear hb
  go_wp2_with fail
  go_ret
  exact ⟨rfl, H1.out⟩
set_option maxRecDepth 100000 in
set_option maxHeartbeats 4000000 in
theorem bin_cmp_ss (z : Int) (s t : ByteArray) (w : World) (HC : Calls Tryz.prog 73 #[.string s, .string t] w (Gz z w)) :
    Calls Tryz.prog 68 #[.iface 9 (.string s), .iface 9 (.string t), Value.func (Fn.func 69) #[] #[], Value.func (Fn.func 70) #[] #[], Value.func (Fn.func 72) #[] #[], Value.func (Fn.func 73) #[] #[], Value.func (Fn.func 74) #[] #[], Value.func (Fn.func 75) #[] #[], Value.func (Fn.func 77) #[] #[]] w (Gz z w) := by
  have H := Lib.hid HC
  clear HC
  have faJ := fun w => qSJ (.string s) w
  have faI := fun w => qSI (.string s) w
  have faF := fun w => qSF (.string s) w
  have faB := fun w => qSB (.string s) w
  have gaS := fun w => qS (.string s) w
  have fbJ := fun w => qSJ (.string t) w
  have gbS := fun w => qS (.string t) w
  go_enter Tryz.func68, Tryz.ntmps68
  go_wp2_with fail
  refine H.out.mono ?_
  rintro e w1 ⟨rfl, hb⟩
  have HB := Lib.hid hb; clear hb
  go_wp2_with fail
  go_ret
  exact ⟨rfl, HB.out⟩
set_option maxRecDepth 100000 in
set_option maxHeartbeats 4000000 in
theorem bin_cmp_ll (z : Int) (A B : Option Addr) (n m : Nat) (w : World) (HC : Calls Tryz.prog 74 #[.slice A n n, .slice B m m] w (Gz z w)) :
    Calls Tryz.prog 68 #[.iface 62 (.slice A n n), .iface 62 (.slice B m m), Value.func (Fn.func 69) #[] #[], Value.func (Fn.func 70) #[] #[], Value.func (Fn.func 72) #[] #[], Value.func (Fn.func 73) #[] #[], Value.func (Fn.func 74) #[] #[], Value.func (Fn.func 75) #[] #[], Value.func (Fn.func 77) #[] #[]] w (Gz z w) := by
  have H := Lib.hid HC
  clear HC
  have faJ := fun w => qLJ (.slice A n n) w
  have faI := fun w => qLI (.slice A n n) w
  have faF := fun w => qLF (.slice A n n) w
  have faB := fun w => qLB (.slice A n n) w
  have faS := fun w => qLS (.slice A n n) w
  have gaL := fun w => qL (.slice A n n) w
  have fbJ := fun w => qLJ (.slice B m m) w
  have gbL := fun w => qL (.slice B m m) w
  go_enter Tryz.func68, Tryz.ntmps68
  go_wp2_with fail
  refine H.out.mono ?_
  rintro e w1 ⟨rfl, hb⟩
  have HB := Lib.hid hb; clear hb
  go_wp2_with fail
  go_ret
  exact ⟨rfl, HB.out⟩
set_option maxRecDepth 100000 in
set_option maxHeartbeats 4000000 in
theorem bin_cmp_mm (z : Int) (b c : Option Nat) (w : World) (HC : Calls Tryz.prog 75 #[.map b, .map c] w (Gz z w)) :
    Calls Tryz.prog 68 #[.iface 65 (.map b), .iface 65 (.map c), Value.func (Fn.func 69) #[] #[], Value.func (Fn.func 70) #[] #[], Value.func (Fn.func 72) #[] #[], Value.func (Fn.func 73) #[] #[], Value.func (Fn.func 74) #[] #[], Value.func (Fn.func 75) #[] #[], Value.func (Fn.func 77) #[] #[]] w (Gz z w) := by
  have H := Lib.hid HC
  clear HC
  have faJ := fun w => qMJ (.map b) w
  have faI := fun w => qMI (.map b) w
  have faF := fun w => qMF (.map b) w
  have faB := fun w => qMB (.map b) w
  have faS := fun w => qMS (.map b) w
  have faL := fun w => qML (.map b) w
  have gaM := fun w => qM (.map b) w
  have fbJ := fun w => qMJ (.map c) w
  have gbM := fun w => qM (.map c) w
  go_enter Tryz.func68, Tryz.ntmps68
  go_wp2_with fail
  refine H.out.mono ?_
  rintro e w1 ⟨rfl, hb⟩
  have HB := Lib.hid hb; clear hb
  go_wp2_with fail
  go_ret
  exact ⟨rfl, HB.out⟩
theorem cmp_nums (h k : Int) (jh : JN h) (jk : JN k) (w : World) : Calls Tryz.prog 49 #[gv h, gv k] w (Gz (h - k).sign w) := by
  refine compare_of _ _ _ w ?_
  have eh : HE h := by
    rcases jh.2 with e | e
    · have := he_even (h / 2) (by have := jh.1; omega) (by have := jh.1; omega)
      rwa [show 2 * (h / 2) = h by omega] at this
    · exact he_small h (by omega) (by omega)
  have ek : HE k := by
    rcases jk.2 with e | e
    · have := he_even (k / 2) (by have := jk.1; omega) (by have := jk.1; omega)
      rwa [show 2 * (k / 2) = k by omega] at this
    · exact he_small k (by omega) (by omega)
  have HF := fun w => cmp_flts h k eh ek w
  unfold gv
  by_cases a : h % 2 = 0
  · rw [if_pos a]
    by_cases b : k % 2 = 0
    · rw [if_pos b]
      refine (bin_cmp_ii (fun v => v = .int .i64 (h - k).sign) (h / 2) (k / 2) (fun w => (cmp_ints _ _ w).mono ?_) w).mono fun e w' h => Gz.of h
      rintro e w' ⟨rfl, hb⟩
      refine ⟨_, rfl, ?_, hb⟩
      have := sg (h - k)
      have := sg (h / 2 - k / 2)
      congr 1
      omega
    · rw [if_neg b]
      refine (bin_cmp_if (fun v => v = .int .i64 (h - k).sign) (h / 2) (fw h) (fw k) HF ?_ w).mono fun e w' h => Gz.of h
      rw [ofInt_fw (h / 2) (by rwa [show 2 * (h / 2) = h by omega]), show 2 * (h / 2) = h by omega]
  · rw [if_neg a]
    by_cases b : k % 2 = 0
    · rw [if_pos b]
      refine (bin_cmp_fi (fun v => v = .int .i64 (h - k).sign) (fw h) (k / 2) (fw k) HF ?_ w).mono fun e w' h => Gz.of h
      rw [ofInt_fw (k / 2) (by rwa [show 2 * (k / 2) = k by omega]), show 2 * (k / 2) = k by omega]
    · rw [if_neg b]
      exact (bin_cmp_ff (fun v => v = .int .i64 (h - k).sign) (fw h) (fw k) HF w).mono fun e w' h => Gz.of h
theorem compare_strs (s t : ByteArray) (w : World) : Calls Tryz.prog 49 #[.iface 9 (.string s), .iface 9 (.string t)] w (Gz (tx s t) w) :=
  compare_of _ _ _ w (bin_cmp_ss _ s t w ((cmp_strs s t w).mono fun e w' h => Gz.of h))
end Go.Proofs.YtdcgjfiknknjfaaGreatDoor.NumA
/-
gojq.funcKeys at a map: the list of its keys.
-/
set_option linter.unusedSimpArgs false
set_option linter.unusedVariables false
namespace Go.Proofs.YtdcgjfiknknjfaaGreatDoor.NumA
open Go.RowKit Go.Lib Go.Proofs.YtdcgjfiknknjfaaGreatDoor.ValA Go.Proofs.YtdcgjfiknknjfaaGreatDoor.FloH Go.Proofs.YtdcgjfiknknjfaaGreatDoorW.PrintWords Go.Proofs.YtdcgjfiknknjfaaGreatDoorW.PrintLast Go.Proofs.YtdcgjfiknknjfaaGreatDoorW.PrintMore Go.Proofs.YtdcgjfiknknjfaaGreatDoor.PzzFits1
/-- A key as an any. -/
def skey (s : ByteArray) : Value := .iface 9 (.string s)
/-- What funcKeys gives. -/
def KeysAny (w : World) (l : List ByteArray) (e : Ending) (w' : World) : Prop :=
  e = .returned (.iface 62 (.slice (some ⟨w.heap.size, 0, none⟩) l.length l.length)) ∧ w'.heap[w.heap.size]? = some (.cells (l.map skey).toArray 20 (0, 0)) ∧ Below w.heap.size w w'
/-- The head of funcKeys' round. -/
def RKf (w : World) (n : Nat) (l : List ByteArray) (k : Nat) (i : Value) (wr : World) : Prop :=
  ∃ (j : Nat) (vs : List Value), i = .int .i64 j ∧ k + j = n ∧ Below w.heap.size w wr ∧ wr.heap[w.heap.size]? = some (.cells vs.toArray 20 (0, 0)) ∧ vs.length = n ∧
    (∀ (i : Nat) (s : ByteArray), i < j → l[i]? = some s → vs[i]? = some (skey s)) ∧ wr.heap[w.heap.size + 1]? = some (.cells (l.map Value.string).toArray 9 (0, 0))
theorem rkf_step {w wr : World} {n : Nat} {l : List ByteArray} {j : Nat} {vs : List Value} (hl : l.length = n) (hlt : j < n) (hb : Below w.heap.size w wr) (hbl : wr.heap[w.heap.size]? = some (.cells vs.toArray 20 (0, 0))) (hvs : vs.length = n)
    (hG : ∀ (i : Nat) (s : ByteArray), i < j → l[i]? = some s → vs[i]? = some (skey s)) (hbk : wr.heap[w.heap.size + 1]? = some (.cells (l.map Value.string).toArray 9 (0, 0))) (k : Nat) (hk : k + j = n) :
    RKf w n l (k - 1) (.int .i64 ((j + 1 : Nat) : Int)) (wr.setCell ⟨w.heap.size, j, none⟩ (skey (rdOf ByteArray.empty l j))) := by
  have hgr : wr.grownBy (wr.setCell ⟨w.heap.size, j, none⟩ (skey (rdOf ByteArray.empty l j))) (some w.heap.size) := grown_set (World.grownBy.refl wr _) j _
  refine ⟨j + 1, vs.set j (skey (rdOf ByteArray.empty l j)), rfl, by omega, hb.grown hgr hb.size (fun k hk => by cases hk; exact Nat.le_refl _), ?_, by simp [hvs], ?_, (hgr.block _ (lt_of_heap hbk) (by simp)).trans hbk⟩
  · rw [heap_set hbl j _]
    simp
  · intro i s hi hs
    by_cases e : i = j
    · subst e
      rw [key_rd l i (by omega)] at hs
      obtain rfl := Option.some.inj hs
      rw [List.getElem?_set]
      simp [hvs, hlt]
    · rw [List.getElem?_set_ne (Ne.symm e)]
      exact hG i s (by omega) hs
set_option maxRecDepth 100000 in
set_option maxHeartbeats 4000000 in
theorem funcKeys_map (w : World) (b c n : Nat) (es : List MapEntry) (l : List ByteArray) (hln : l.length = n) (hb : w.heap[b]? = some (.map es.toArray c)) (hst : MapKept.Stamped es.toArray c) (hn : n ≤ 400) (hk : KeysAre es l)
    (hrise : ∀ i : Nat, 0 < i → i < l.length → Op.bytesLess (rdOf ByteArray.empty l (i - 1 : Nat)).toList (rdOf ByteArray.empty l i).toList = true) :
    Calls Tryz.prog 76 #[.iface 65 (.map (some b))] w (KeysAny w l) := by
  obtain ⟨D, hD⟩ : ∃ D, IsD es D := ⟨_, rfl⟩
  have hown := owns_of hb hst (by have := hk.1; omega) hk hD
  have hlen : ∀ ty, (Builtin.len_ #[65] ty #[.map (some b)]).run Tryz.prog w = .ok (.int .i64 (n : Int)) w := fun ty => by
    have := hown.len Tryz.underlying65 ty
    rwa [size_D hD, hk.1, hln] at this
  have hmk := fun w => runMake n hn w
  have fL := fun w => qML (.map (some b)) w
  have gM := fun w => qM (.map (some b)) w
  obtain ⟨W1, hW1⟩ : ∃ W1, W1 = w.alloc (.cells (Array.replicate n Value.nilIface) 20) := ⟨_, rfl⟩
  have hw1 : W1 = w.alloc (.cells (List.replicate n Value.nilIface).toArray 20) := by rw [hW1, List.toArray_replicate]
  have H1 := Lib.hid (show Below w.heap.size w W1 ∧ W1.heap[w.heap.size]? = some (.cells (List.replicate n Value.nilIface).toArray 20 (0, 0)) ∧ W1.heap.size = w.heap.size + 1 by rw [hw1]; exact ⟨(Below.refl _ w).alloc (Nat.le_refl _) _, heap_alloc_new w _, by rw [World.size_alloc]⟩)
  have HKS := Lib.hid (gojq_keys W1 b c es l ((H1.out.1.block _ (lt_of_heap hb)).trans hb) hst (by have := hk.1; omega) hk hrise)
  have HN := Lib.hid (And.intro hn hln)
  clear hb hst hn hk hrise hown hln hw1 hD
  go_enter Tryz.func76, Tryz.ntmps76
  go_wp2_with fail
  rw [← hW1]
  clear hW1 hmk hlen fL gM
  refine HKS.out.mono ?_
  rintro e w1 ⟨rfl, hbl, hbb⟩
  rw [H1.out.2.2, HN.out.2]
  have H2 := Lib.hid (show RKf w n l n (.int .i64 ((0 : Nat) : Int)) w1 from
    ⟨0, List.replicate n Value.nilIface, rfl, by omega, H1.out.1.trans (hbb.mono (by have := H1.out.2.2; omega)), (hbb.block _ (lt_of_heap H1.out.2.1)).trans H1.out.2.1, by simp, fun i s hi => by omega, by rw [H1.out.2.2] at hbl; exact hbl⟩)
  clear hbl hbb H1 HKS
  go_wp2_with fail
  go_loopg [44] n (fun k i wr => RKf w n l k i wr)
  case atStart => exact H2.out
  case round =>
    clear H2
    obtain ⟨j, vs, rfl, hkj, hbr, hbl, hvs, hG, hbk⟩ := hrel
    have HR := Lib.hid (And.intro hbr (And.intro hbl (And.intro hvs (And.intro hG hbk))))
    have HK := Lib.hid hkj
    by_cases hlt : j < n
    · have x0 : wr.cell? ⟨w.heap.size + 1, j, none⟩ = some (.string (rdOf ByteArray.empty l j)) := by
        have h := list_cell hbk (by simp; have := HN.out.2; omega : j < (l.map Value.string).length)
        rw [h.1]
        have e := key_rd l j (by have := HN.out.2; omega)
        rw [List.getElem?_eq_getElem (by have := HN.out.2; omega)] at e
        rw [List.getElem_map, Option.some.inj e]
      have HLT := Lib.hid hlt
      obtain ⟨q0, q1⟩ := list_cell hbl (Nat.lt_of_lt_of_eq HLT.out HR.out.2.2.1.symm)
      have H4 := Lib.hid (rkf_step HN.out.2 hlt hbr hbl hvs hG hbk)
      have hlt2 : (j : Int) < (n : Int) := by omega
      clear hbr hbl hvs hG hbk hkj
      go_wp2_with fail
      go_roundg (gk - 1)
      case measure => have := HK.out; omega
      case rel =>
        have hw : wrap64 ((j : Int) + 1) = ((j + 1 : Nat) : Int) := by have := HN.out.1; have := HK.out; unfold wrap64; omega
        rw [hw]
        exact H4.out gk HK.out
    · have hlt2 : ¬ (j : Int) < (n : Int) := by omega
      have hlt3 : decide ((j : Int) < (n : Int)) = false := decide_eq_false hlt2
      have hlt4 : decide (j < n) = false := decide_eq_false hlt
      have HNL := Lib.hid hlt
      clear hbr hbl hvs hG hbk hkj hlt hlt2
      go_wp2_with fail
      go_ret
      refine ⟨by rw [HN.out.2]; rfl, ?_, HR.out.1⟩
      rw [HR.out.2.1]
      congr 2
      congr 1
      apply List.ext_getElem? 
      intro i
      by_cases hi : i < l.length
      · rw [HR.out.2.2.2.1 i l[i] (by have := HK.out; have := HNL.out; have := HN.out.2; omega) (List.getElem?_eq_getElem hi)]
        simp [hi]
      · rw [List.getElem?_eq_none (by have := HR.out.2.2.1; have := HN.out.2; omega), List.getElem?_eq_none (by simp; omega)]
end Go.Proofs.YtdcgjfiknknjfaaGreatDoor.NumA
/-
gojq.Compare's callback at two lists.
-/
set_option linter.unusedSimpArgs false
set_option linter.unusedVariables false
namespace Go.Proofs.YtdcgjfiknknjfaaGreatDoor.NumA
open Go.RowKit Go.Lib Go.Proofs.YtdcgjfiknknjfaaGreatDoor.ValA Go.Proofs.YtdcgjfiknknjfaaGreatDoor.FloH Go.Proofs.YtdcgjfiknknjfaaGreatDoorW.PrintWords Go.Proofs.YtdcgjfiknknjfaaGreatDoorW.PrintLast Go.Proofs.YtdcgjfiknknjfaaGreatDoorW.PrintMore Go.Proofs.YtdcgjfiknknjfaaGreatDoor.PzzFits1
/-- The head of a round over two lists. -/
def RCl (w : World) (l l' : List V) (p k : Nat) (i : Value) (wr : World) : Prop :=
  ∃ j : Nat, i = .int .i64 j ∧ k + j = p ∧ Below w.heap.size w wr ∧ cmpL (l.drop j) (l'.drop j) = cmpL l l'
set_option maxRecDepth 100000 in
set_option maxHeartbeats 4000000 in
theorem cmp_lists_at (w : World) (b c n m p : Nat) (hp : min n m = p) (hpi : min (n : Int) (m : Int) = (p : Int)) (l l' : List V) (vs us : List Value) (hl : l.length = n) (hl' : l'.length = m) (hn : n ≤ 400) (hm : m ≤ 400) (hvs : vs.length = n) (hus : us.length = m)
    (hb : w.heap[b]? = some (.cells vs.toArray 20 (0, 0))) (hc : w.heap[c]? = some (.cells us.toArray 20 (0, 0)))
    (IH : ∀ (j : Nat) (v u : Value), vs[j]? = some v → us[j]? = some u → ∀ w', Below w.heap.size w w' → Calls Tryz.prog 49 #[v, u] w' (Gz (cmpV (rd_T26 l j) (rd_T26 l' j)) w')) :
    Calls Tryz.prog 74 #[.slice (some ⟨b, 0, none⟩) n n, .slice (some ⟨c, 0, none⟩) m m] w (Gz (cmpL l l').sign w) := by
  have HI := Lib.hid (fun j v u h h' w' hw => IH j v u h h' w' hw)
  have HBC := Lib.hid (And.intro hb hc)
  have HN := Lib.hid (And.intro hl hl')
  have HM := Lib.hid (And.intro hn hm)
  have HV := Lib.hid (And.intro hvs hus)
  have HP := Lib.hid hp
  clear IH hb hc hl hl' hn hm hvs hus hp
  go_enter Tryz.func74, Tryz.ntmps74
  go_wp2_with fail
  go_loopg [12] p (fun k i wr => RCl w l l' p k i wr)
  case atStart => exact ⟨0, rfl, by omega, Below.refl _ _, rfl⟩
  case round =>
    obtain ⟨j, rfl, hkj, hbr, hcm⟩ := hrel
    have HR := Lib.hid (And.intro hbr (And.intro hcm hkj))
    clear hkj hcm
    by_cases hlt : j < p
    · have hjn : j < n ∧ j < m := by have := HP.out; omega
      obtain ⟨v, hv⟩ : ∃ v, vs[j]? = some v := ⟨_, List.getElem?_eq_getElem (by have := HV.out.1; omega)⟩
      obtain ⟨u, hu⟩ : ∃ u, us[j]? = some u := ⟨_, List.getElem?_eq_getElem (by have := HV.out.2; omega)⟩
      have HL := Lib.hid (fun w' hw => HI.out j v u hv hu w' hw)
      have x0 : wr.cell? ⟨b, j, none⟩ = some v := by
        have h := list_cell ((hbr.block _ (lt_of_heap HBC.out.1)).trans HBC.out.1) (by have := HV.out.1; omega : j < vs.length)
        rw [List.getElem?_eq_getElem (by have := HV.out.1; omega)] at hv
        rw [h.1, Option.some.inj hv]
      have x1 : wr.cell? ⟨c, j, none⟩ = some u := by
        have h := list_cell ((hbr.block _ (lt_of_heap HBC.out.2)).trans HBC.out.2) (by have := HV.out.2; omega : j < us.length)
        rw [List.getElem?_eq_getElem (by have := HV.out.2; omega)] at hu
        rw [h.1, Option.some.inj hu]
      clear hv hu
      have e0 : (j : Int) < (p : Int) := by omega
      have e1 : (j : Int) < (n : Int) := by omega
      have e2 : (j : Int) < (m : Int) := by omega
      have HLT := Lib.hid (And.intro hlt hjn)
      clear hbr hlt hjn hpi
      go_wp2_with fail
      refine start_ (n := 10) (S := fun w' => w'.cell? ⟨b, j, none⟩ = some v ∧ w'.cell? ⟨c, j, none⟩ = some u ∧ Below w.heap.size w w') (ds := []) #[false, false, false, false, false, false, false, false, false, false] (by kernel_rfl) rfl rfl ⟨(pw_cell_below ((Below.refl _ wr).drew) x0), (pw_cell_below ((Below.refl _ wr).drew) x1), (HR.out.1.drew)⟩ (fun hHeld => ?_)
      refine pure_ (i := 0) (N := some 15) (v := ?_) (a' := ?_) #[true, false, false, false, false, false, false, false, false, false] rfl rfl (by kernel_rfl) (fun _ _ _ h => h) (Or.inl ⟨by rfl, ?_⟩) ?_ ?_
      rotate_left
      · intro w'
        go_simp
        with_reducible rfl
      rotate_left
      · simp only [Act.put, List.setIfInBounds_toArray, List.set_cons_zero, List.set_cons_succ, i64_w, i32_w]
        rfl
      refine pure_ (i := 1) (N := some 16) (v := ?_) (a' := ?_) #[true, true, false, false, false, false, false, false, false, false] rfl rfl (by kernel_rfl) (fun _ _ _ h => h) (Or.inl ⟨by rfl, ?_⟩) ?_ ?_
      rotate_left
      · intro w'
        go_simp
        with_reducible rfl
      rotate_left
      · simp only [Act.put, List.setIfInBounds_toArray, List.set_cons_zero, List.set_cons_succ, i64_w, i32_w]
        rfl
      refine pure_ (i := 2) (N := some 17) (v := ?_) (a' := ?_) #[true, true, true, false, false, false, false, false, false, false] rfl rfl (by kernel_rfl) (fun _ _ _ h => h) (Or.inl ⟨by rfl, ?_⟩) ?_ ?_
      rotate_left
      · intro w'
        go_simp
        with_reducible rfl
      rotate_left
      · simp only [Act.put, List.setIfInBounds_toArray, List.set_cons_zero, List.set_cons_succ, i64_w, i32_w]
        rfl
      refine pure_ (i := 4) (N := some 19) (v := ?_) (a' := ?_) #[true, true, true, false, true, false, false, false, false, false] rfl rfl (by kernel_rfl) (fun _ _ _ h => h) (Or.inl ⟨by rfl, ?_⟩) ?_ ?_
      rotate_left
      · intro w'
        go_simp
        with_reducible rfl
      rotate_left
      · simp only [Act.put, List.setIfInBounds_toArray, List.set_cons_zero, List.set_cons_succ, i64_w, i32_w]
        rfl
      refine pure_ (i := 5) (N := some 20) (v := ?_) (a' := ?_) #[true, true, true, false, true, true, false, false, false, false] rfl rfl (by kernel_rfl) (fun _ _ _ h => h) (Or.inl ⟨by rfl, ?_⟩) ?_ ?_
      rotate_left
      · intro w'
        go_simp
        with_reducible rfl
      rotate_left
      · simp only [Act.put, List.setIfInBounds_toArray, List.set_cons_zero, List.set_cons_succ, i64_w, i32_w]
        rfl
      refine pure_ (i := 6) (N := some 21) (v := ?_) (a' := ?_) #[true, true, true, false, true, true, true, false, false, false] rfl rfl (by kernel_rfl) (fun _ _ _ h => h) (Or.inl ⟨by rfl, ?_⟩) ?_ ?_
      rotate_left
      · intro w'
        go_simp
        with_reducible rfl
      rotate_left
      · simp only [Act.put, List.setIfInBounds_toArray, List.set_cons_zero, List.set_cons_succ, i64_w, i32_w]
        rfl
      refine take_ (i := 3) (N := some 18) (v := ?_) (a' := ?_) #[true, true, true, true, true, true, true, false, false, false] rfl rfl (by kernel_rfl) (fun _ _ _ h => h) (Or.inl ⟨by rfl, ?_⟩) hHeld ?_ ?_
      rotate_left
      · rintro w' ⟨s0, s1, s2⟩
        go_simp
        with_reducible rfl
      rotate_left
      · simp only [Act.put, List.setIfInBounds_toArray, List.set_cons_zero, List.set_cons_succ, i64_w, i32_w]
        rfl
      refine take_ (i := 7) (N := some 22) (v := ?_) (a' := ?_) #[true, true, true, true, true, true, true, true, false, false] rfl rfl (by kernel_rfl) (fun _ _ _ h => h) (Or.inl ⟨by rfl, ?_⟩) hHeld ?_ ?_
      rotate_left
      · rintro w' ⟨s0, s1, s2⟩
        go_simp
        with_reducible rfl
      rotate_left
      · simp only [Act.put, List.setIfInBounds_toArray, List.set_cons_zero, List.set_cons_succ, i64_w, i32_w]
        rfl
      refine one_ (i := 8) (N := some 23) #[true, true, true, true, true, true, true, true, true, false] rfl rfl (by kernel_rfl) (by decide) (fun K hK => ?_)
      refine goes_ Tryz.func49 (by kernel_rfl) rfl #[v, u] (by rfl) rfl rfl (by simp only [List.map_toArray, List.map_cons, List.map_nil]; rfl) ?_
      with_reducible refine ((HL.out _ hHeld.2.2)).mono ?_
      rintro e w3 ⟨rfl, hb⟩
      refine ⟨_, rfl, ?_⟩
      have hbz := hHeld.2.2.trans (hb.mono hHeld.2.2.size)
      refine hK.out _ _ ⟨(pw_cell_below hb hHeld.1), (pw_cell_below hb hHeld.2.1), hbz⟩ (fun hHeld => ?_)
      clear hK K
      refine norm_ (a' := ?_) ?_ ?_
      rotate_left
      · show Act.put _ (some 23) _ = _
        simp only [Act.put, List.setIfInBounds_toArray, List.set_cons_zero, List.set_cons_succ, i64_w, i32_w]
        rfl
      refine pure_ (i := 9) (N := some 6) (v := ?_) (a' := ?_) #[true, true, true, true, true, true, true, true, true, true] rfl rfl (by kernel_rfl) (fun _ _ _ h => h) (Or.inl ⟨by rfl, ?_⟩) ?_ ?_
      rotate_left
      · intro w'
        go_simp
        with_reducible rfl
      rotate_left
      · simp only [Act.put, List.setIfInBounds_toArray, List.set_cons_zero, List.set_cons_succ, i64_w, i32_w]
        rfl
      refine done_ (by kernel_rfl) ?_
      cases hz : (cmpV (rd_T26 l j) (rd_T26 l' j) != 0) with
      | true =>
        go_wp2_with fail
        go_ret
        refine ⟨?_, hbz⟩
        have h := cmpL_first l l' j (by have := HN.out.1; have := HLT.out; omega) (by have := HN.out.2; have := HLT.out; omega) (by simpa using hz)
        rw [← HR.out.2.1, h, cmpV_sign]
        rfl
      | false =>
        have HZ := Lib.hid (show cmpV (rd_T26 l j) (rd_T26 l' j) = 0 by simpa using hz)
        go_wp2_with fail
        go_roundg (gk - 1)
        case measure => have := HR.out.2.2; have := HLT.out.1; omega
        case rel =>
          have hw : wrap64 ((j : Int) + 1) = ((j + 1 : Nat) : Int) := by have := HM.out.1; have := HLT.out; unfold wrap64; omega
          try rw [hw]
          exact ⟨j + 1, rfl, by have := HR.out.2.2; have := HLT.out.1; omega, hbz, by rw [← HR.out.2.1, cmpL_zero l l' j (by have := HN.out.1; have := HLT.out; omega) (by have := HN.out.2; have := HLT.out; omega) HZ.out]⟩
    · have q2 : ¬ (j : Int) < (p : Int) := by omega
      have q4 : decide ((j : Int) < (p : Int)) = false := decide_eq_false q2
      have q5 : decide (j < p) = false := decide_eq_false hlt
      have HE := Lib.hid hlt
      clear hbr hlt q2 hpi
      go_wp2_with fail
      refine (cmp_ints _ _ _).mono ?_
      rintro e w1 ⟨rfl, hb⟩
      have H1 := Lib.hid (HR.out.1.trans (hb.mono HR.out.1.size))
      clear hb
      go_wp2_with fail
      go_ret
      refine ⟨?_, H1.out⟩
      have h := cmpL_end l l' j (by have := HN.out.1; have := HP.out; have := HE.out; have := HR.out.2.2; omega) (by have := HN.out.2; have := HP.out; have := HE.out; have := HR.out.2.2; omega) (by have := HN.out; have := HP.out; have := HE.out; have := HR.out.2.2; omega)
      rw [← HR.out.2.1, h, HN.out.1, HN.out.2]
      rfl
theorem cmp_lists_any (w : World) (b c n m : Nat) (l l' : List V) (vs us : List Value) (hl : l.length = n) (hl' : l'.length = m) (hn : n ≤ 400) (hm : m ≤ 400) (hvs : vs.length = n) (hus : us.length = m)
    (hb : w.heap[b]? = some (.cells vs.toArray 20 (0, 0))) (hc : w.heap[c]? = some (.cells us.toArray 20 (0, 0)))
    (IH : ∀ (j : Nat) (v u : Value), vs[j]? = some v → us[j]? = some u → ∀ w', Below w.heap.size w w' → Calls Tryz.prog 49 #[v, u] w' (Gz (cmpV (rd_T26 l j) (rd_T26 l' j)) w')) :
    Calls Tryz.prog 49 #[.iface 62 (.slice (some ⟨b, 0, none⟩) n n), .iface 62 (.slice (some ⟨c, 0, none⟩) m m)] w (Gz (cmpL l l').sign w) :=
  compare_of _ _ _ w (bin_cmp_ll _ _ _ n m w (cmp_lists_at w b c n m _ rfl (by omega) l l' vs us hl hl' hn hm hvs hus hb hc IH))
end Go.Proofs.YtdcgjfiknknjfaaGreatDoor.NumA
/-
gojq.Compare at any two values of JSON.
-/
set_option linter.unusedSimpArgs false
set_option linter.unusedVariables false
namespace Go.Proofs.YtdcgjfiknknjfaaGreatDoor.NumA
open Go.RowKit Go.Lib Go.Proofs.YtdcgjfiknknjfaaGreatDoor.ValA Go.Proofs.YtdcgjfiknknjfaaGreatDoor.FloH Go.Proofs.YtdcgjfiknknjfaaGreatDoorW.PrintWords Go.Proofs.YtdcgjfiknknjfaaGreatDoorW.PrintLast Go.Proofs.YtdcgjfiknknjfaaGreatDoorW.PrintMore Go.Proofs.YtdcgjfiknknjfaaGreatDoor.PzzFits1
theorem qSs (v : Value) (w : World) : (Instr.typeAssert (.iface 9 v) 20 9 false).run Tryz.prog w = .ok v w := by kernel_rfl
theorem qLs (v : Value) (w : World) : (Instr.typeAssert (.iface 62 v) 20 62 false).run Tryz.prog w = .ok v w := by kernel_rfl
/-- A key as a value. -/
def txV (s : ByteArray) : V := ⟨4, 0, s, [], [], []⟩
theorem cmpV_tx (s t : ByteArray) : cmpV (txV s) (txV t) = tx s t := by
  rw [cmpV_eq]
  rfl
theorem cmpL_tx : ∀ l l' : List ByteArray, cmpL (l.map txV) (l'.map txV) = cmpK l l'
  | [], l => by simp only [List.map_nil]; rw [cmpK, cmpL, List.length_map]
  | x :: l, [] => by simp only [List.map_nil, List.map_cons]; rw [cmpK, cmpL]; simp
  | x :: l, y :: l' => by simp only [List.map_cons]; rw [cmpK, cmpL, cmpV_tx, cmpL_tx l l']
theorem cmpK_zero_eq : ∀ l l' : List ByteArray, cmpK l l' = 0 → l = l'
  | [], l, h => by
    rw [cmpK] at h
    cases l with
    | nil => rfl
    | cons x t => simp at h; omega
  | x :: l, [], h => by rw [cmpK] at h; simp at h; omega
  | x :: l, y :: l', h => by
    rw [cmpK] at h
    by_cases c : tx x y = 0
    · rw [if_pos c] at h
      have e : (tx x y == 0) = true := by simpa using c
      rw [tx_zero, decide_eq_true_eq] at e
      rw [e, cmpK_zero_eq l l' h]
    · rw [if_neg c] at h
      exact absurd h c
/-- Two maps' lists of keys. -/
theorem compare_keys (w : World) (b c n m : Nat) (l l' : List ByteArray) (hl : l.length = n) (hl' : l'.length = m) (hn : n ≤ 400) (hm : m ≤ 400)
    (hb : w.heap[b]? = some (.cells (l.map skey).toArray 20 (0, 0))) (hc : w.heap[c]? = some (.cells (l'.map skey).toArray 20 (0, 0))) :
    Calls Tryz.prog 49 #[.iface 62 (.slice (some ⟨b, 0, none⟩) n n), .iface 62 (.slice (some ⟨c, 0, none⟩) m m)] w (Gz (cmpK l l').sign w) := by
  have h := cmp_lists_any w b c n m (l.map txV) (l'.map txV) (l.map skey) (l'.map skey) (by simpa using hl) (by simpa using hl') hn hm (by simpa using hl) (by simpa using hl') hb hc ?_
  · rwa [cmpL_tx] at h
  · intro j v u hv hu w' _
    have h1 : j < l.length := by have := (List.getElem?_eq_some_iff.1 hv).1; simpa using this
    have h2 : j < l'.length := by have := (List.getElem?_eq_some_iff.1 hu).1; simpa using this
    have e1 := rd_at (l.map txV) j (by simpa using h1)
    have e2 := rd_at (l'.map txV) j (by simpa using h2)
    rw [List.getElem?_map, List.getElem?_eq_getElem h1, Option.map_some] at e1 hv
    rw [List.getElem?_map, List.getElem?_eq_getElem h2, Option.map_some] at e2 hu
    rw [← Option.some.inj e1, ← Option.some.inj e2, ← Option.some.inj hv, ← Option.some.inj hu, cmpV_tx]
    exact compare_strs _ _ w'
/-- The head of a round over two maps' keys. -/
def RCm (w : World) (g : Nat) (l : List ByteArray) (l5 m5 : List V) (n k : Nat) (i : Value) (wr : World) : Prop :=
  ∃ j : Nat, i = .int .i64 j ∧ k + j = n ∧ Below w.heap.size w wr ∧ wr.heap[g]? = some (.cells (l.map skey).toArray 20 (0, 0)) ∧ cmpL (l5.drop j) (m5.drop j) = cmpL l5 m5
set_option maxRecDepth 100000 in
set_option maxHeartbeats 4000000 in
theorem cmp_maps_at (w : World) (b c cb cc n m : Nat) (es fs : List MapEntry) (l l' : List ByteArray) (l5 m5 : List V) (hl : l.length = n) (hl' : l'.length = m) (hn : n ≤ 400) (hm : m ≤ 400) (h5 : l5.length = n) (h5' : m5.length = m)
    (hb : w.heap[b]? = some (.map es.toArray cb)) (hst : MapKept.Stamped es.toArray cb) (hk : KeysAre es l)
    (hrise : ∀ i : Nat, 0 < i → i < l.length → Op.bytesLess (rdOf ByteArray.empty l (i - 1 : Nat)).toList (rdOf ByteArray.empty l i).toList = true)
    (hc : w.heap[c]? = some (.map fs.toArray cc)) (hst' : MapKept.Stamped fs.toArray cc) (hk' : KeysAre fs l')
    (hrise' : ∀ i : Nat, 0 < i → i < l'.length → Op.bytesLess (rdOf ByteArray.empty l' (i - 1 : Nat)).toList (rdOf ByteArray.empty l' i).toList = true)
    (IH : ∀ (j : Nat) (e f : MapEntry), es[j]? = some e → fs[j]? = some f → j < l5.length → j < m5.length → ∀ w', Below w.heap.size w w' → Calls Tryz.prog 49 #[e.val, f.val] w' (Gz (cmpV (rd_T26 l5 j) (rd_T26 m5 j)) w')) :
    Calls Tryz.prog 75 #[.map (some b), .map (some c)] w (Gz (if cmpK l l' = 0 then (cmpL l5 m5).sign else (cmpK l l').sign) w) := by
  have HI := Lib.hid (fun j e f h h' g g' w' hw => IH j e f h h' g g' w' hw)
  have HA := Lib.hid (fun (w' : World) (hw : Below w.heap.size w w') => funcKeys_map w' b cb n es l hl ((hw.block _ (lt_of_heap hb)).trans hb) hst hn hk hrise)
  have HB := Lib.hid (fun (w' : World) (hw : Below w.heap.size w w') => funcKeys_map w' c cc m fs l' hl' ((hw.block _ (lt_of_heap hc)).trans hc) hst' hm hk' hrise')
  have HKA := Lib.hid (And.intro hb (And.intro hst hk))
  have HKB := Lib.hid (And.intro hc (And.intro hst' hk'))
  have HL := Lib.hid (And.intro hl hl')
  have HN := Lib.hid (And.intro hn hm)
  have H5 := Lib.hid (And.intro h5 h5')
  obtain ⟨rr, hrr⟩ : ∃ rr, rr = (if cmpK l l' = 0 then (cmpL l5 m5).sign else (cmpK l l').sign) := ⟨_, rfl⟩
  rw [← hrr]
  have HRR := Lib.hid hrr
  clear hrr
  clear IH hb hst hk hrise hc hst' hk' hrise' hl hl' hn hm h5 h5'
  go_enter Tryz.func75, Tryz.ntmps75
  go_wp2_with fail
  refine (HA.out _ (Below.refl _ _)).mono ?_
  rintro e w1 ⟨rfl, hbl, hbb⟩
  have H1 := Lib.hid (And.intro hbb hbl)
  rw [HL.out.1]
  clear hbl hbb
  go_wp2_with fail
  refine (HB.out _ H1.out.1).mono ?_
  rintro e w2 ⟨rfl, hbl, hbb⟩
  have H2 := Lib.hid (And.intro (H1.out.1.trans (hbb.mono H1.out.1.size)) (And.intro ((hbb.block _ (lt_of_heap H1.out.2)).trans H1.out.2) hbl))
  rw [HL.out.2]
  clear hbl hbb H1
  have HC := Lib.hid (compare_keys w2 _ _ n m l l' HL.out.1 HL.out.2 HN.out.1 HN.out.2 H2.out.2.1 H2.out.2.2)
  go_wp2_with fail
  refine HC.out.mono ?_
  rintro e w3 ⟨rfl, hbb⟩
  have H3 := Lib.hid (And.intro (H2.out.1.trans (hbb.mono H2.out.1.size)) ((hbb.block _ (lt_of_heap H2.out.2.1)).trans H2.out.2.1))
  clear hbb H2 HC
  cases hz : ((cmpK l l').sign != 0) with
  | true =>
    have HZ := Lib.hid (show cmpK l l' ≠ 0 by intro h; rw [h] at hz; simp at hz)
    go_wp2_with fail
    go_ret
    exact ⟨by rw [HRR.out, if_neg HZ.out]; rfl, H3.out.1⟩
  | false =>
    have hz0 : cmpK l l' = 0 := by
      have : (cmpK l l').sign = 0 := by simpa using hz
      have := sg (cmpK l l')
      omega
    have HZ := Lib.hid hz0
    obtain rfl := cmpK_zero_eq l l' hz0
    have hmn : m = n := by rw [← HL.out.2, HL.out.1]
    subst hmn
    clear hz0
    have hLs := qLs (.slice (some ⟨w.heap.size, 0, none⟩) m m)
    go_wp2_with fail
    clear hz hLs
    go_loopg [26] m (fun k i wr => RCm w w.heap.size l l5 m5 m k i wr)
    case atStart => exact ⟨0, rfl, by omega, H3.out.1, H3.out.2, rfl⟩
    case round =>
      clear H3
      obtain ⟨j, rfl, hkj, hbr, hbl, hcm⟩ := hrel
      have HR := Lib.hid (And.intro hbr (And.intro hcm (And.intro hkj hbl)))
      clear hkj hcm
      by_cases hlt : j < m
      · have x0 : wr.cell? ⟨w.heap.size, j, none⟩ = some (skey (rdOf ByteArray.empty l j)) := by
          have h := list_cell hbl (by simp; have := HL.out.1; omega : j < (l.map skey).length)
          rw [h.1]
          have e := key_rd l j (by have := HL.out.1; omega)
          rw [List.getElem?_eq_getElem (by have := HL.out.1; omega)] at e
          rw [List.getElem_map, Option.some.inj e]
        unfold skey at x0
        have hA : ∃ e, es[j]? = some e ∧ ∀ w', Below w.heap.size w w' → (Instr.lookup 65 (.map (some b)) (.string (rdOf ByteArray.empty l j)) false).run Tryz.prog w' = .ok e.val w' := by
          have hj : j < l.length := by have := HL.out.1; omega
          refine ⟨es[j]'(by have := HKA.out.2.2.1; omega), List.getElem?_eq_getElem _, fun w' hw => ?_⟩
          obtain ⟨e, h1, h2⟩ := run_look ((hw.block _ (lt_of_heap HKA.out.1)).trans HKA.out.1) HKA.out.2.1 HKA.out.2.2 j hj
          rw [List.getElem?_eq_getElem (by have := HKA.out.2.2.1; omega)] at h1
          rw [h2, Option.some.inj h1]
        have hB : ∃ e, fs[j]? = some e ∧ ∀ w', Below w.heap.size w w' → (Instr.lookup 65 (.map (some c)) (.string (rdOf ByteArray.empty l j)) false).run Tryz.prog w' = .ok e.val w' := by
          have hj : j < l.length := by have := HL.out.1; omega
          refine ⟨fs[j]'(by have := HKB.out.2.2.1; omega), List.getElem?_eq_getElem _, fun w' hw => ?_⟩
          obtain ⟨e, h1, h2⟩ := run_look ((hw.block _ (lt_of_heap HKB.out.1)).trans HKB.out.1) HKB.out.2.1 HKB.out.2.2 j hj
          rw [List.getElem?_eq_getElem (by have := HKB.out.2.2.1; omega)] at h1
          rw [h2, Option.some.inj h1]
        obtain ⟨ea, a1, a2⟩ := hA
        obtain ⟨eb, b1, b2⟩ := hB
        have HLO := Lib.hid (fun w' hw => HI.out j ea eb a1 b1 (by have := H5.out.1; omega) (by have := H5.out.2; omega) w' hw)
        have HQ := Lib.hid (And.intro a2 b2)
        have gS := fun w => qS (.string (rdOf ByteArray.empty l j)) w
        have hS := qSs (.string (rdOf ByteArray.empty l j))
        have e0 : (j : Int) < (m : Int) := by omega
        have HLT := Lib.hid hlt
        clear hbr hbl hlt a1 b1 a2 b2
        go_wp2_with fail
        refine start_ (n := 10) (S := fun w' => (Instr.lookup 65 (.map (some b)) (.string (rdOf ByteArray.empty l j)) false).run Tryz.prog w' = .ok ea.val w' ∧ (Instr.lookup 65 (.map (some c)) (.string (rdOf ByteArray.empty l j)) false).run Tryz.prog w' = .ok eb.val w' ∧ Below w.heap.size w w' ∧ w'.heap[w.heap.size]? = some (.cells (l.map skey).toArray 20 (0, 0))) (ds := []) #[false, false, false, false, false, false, false, false, false, false] (by kernel_rfl) rfl rfl ⟨(HQ.out.1 _ (HR.out.1.drew)), (HQ.out.2 _ (HR.out.1.drew)), (HR.out.1.drew), HR.out.2.2.2⟩ (fun hHeld => ?_)
        refine pure_ (i := 0) (N := some 30) (v := ?_) (a' := ?_) #[true, false, false, false, false, false, false, false, false, false] rfl rfl (by kernel_rfl) (fun _ _ _ h => h) (Or.inl ⟨by rfl, ?_⟩) ?_ ?_
        rotate_left
        · intro w'
          go_simp
          with_reducible rfl
        rotate_left
        · simp only [Act.put, List.setIfInBounds_toArray, List.set_cons_zero, List.set_cons_succ, i64_w, i32_w]
          rfl
        refine pure_ (i := 1) (N := some 31) (v := ?_) (a' := ?_) #[true, true, false, false, false, false, false, false, false, false] rfl rfl (by kernel_rfl) (fun _ _ _ h => h) (Or.inl ⟨by rfl, ?_⟩) ?_ ?_
        rotate_left
        · intro w'
          go_simp
          with_reducible rfl
        rotate_left
        · simp only [Act.put, List.setIfInBounds_toArray, List.set_cons_zero, List.set_cons_succ, i64_w, i32_w]
          rfl
        refine pure_ (i := 2) (N := some 32) (v := ?_) (a' := ?_) #[true, true, true, false, false, false, false, false, false, false] rfl rfl (by kernel_rfl) (fun _ _ _ h => h) (Or.inl ⟨by rfl, ?_⟩) ?_ ?_
        rotate_left
        · intro w'
          go_simp
          with_reducible rfl
        rotate_left
        · simp only [Act.put, List.setIfInBounds_toArray, List.set_cons_zero, List.set_cons_succ, i64_w, i32_w]
          rfl
        refine pure_ (i := 4) (N := some 34) (v := ?_) (a' := ?_) #[true, true, true, false, true, false, false, false, false, false] rfl rfl (by kernel_rfl) (fun _ _ _ h => h) (Or.inl ⟨by rfl, ?_⟩) ?_ ?_
        rotate_left
        · intro w'
          go_simp
          with_reducible rfl
        rotate_left
        · simp only [Act.put, List.setIfInBounds_toArray, List.set_cons_zero, List.set_cons_succ, i64_w, i32_w]
          rfl
        refine pure_ (i := 5) (N := some 35) (v := ?_) (a' := ?_) #[true, true, true, false, true, true, false, false, false, false] rfl rfl (by kernel_rfl) (fun _ _ _ h => h) (Or.inl ⟨by rfl, ?_⟩) ?_ ?_
        rotate_left
        · intro w'
          go_simp
          with_reducible rfl
        rotate_left
        · simp only [Act.put, List.setIfInBounds_toArray, List.set_cons_zero, List.set_cons_succ, i64_w, i32_w]
          rfl
        refine pure_ (i := 6) (N := some 36) (v := ?_) (a' := ?_) #[true, true, true, false, true, true, true, false, false, false] rfl rfl (by kernel_rfl) (fun _ _ _ h => h) (Or.inl ⟨by rfl, ?_⟩) ?_ ?_
        rotate_left
        · intro w'
          go_simp
          with_reducible rfl
        rotate_left
        · simp only [Act.put, List.setIfInBounds_toArray, List.set_cons_zero, List.set_cons_succ, i64_w, i32_w]
          rfl
        refine take_ (i := 3) (N := some 33) (v := ?_) (a' := ?_) #[true, true, true, true, true, true, true, false, false, false] rfl rfl (by kernel_rfl) (fun _ _ _ h => h) (Or.inl ⟨by rfl, ?_⟩) hHeld ?_ ?_
        rotate_left
        · rintro w' ⟨s0, s1, s2, s3⟩
          go_simp
          with_reducible rfl
        rotate_left
        · simp only [Act.put, List.setIfInBounds_toArray, List.set_cons_zero, List.set_cons_succ, i64_w, i32_w]
          rfl
        refine take_ (i := 7) (N := some 37) (v := ?_) (a' := ?_) #[true, true, true, true, true, true, true, true, false, false] rfl rfl (by kernel_rfl) (fun _ _ _ h => h) (Or.inl ⟨by rfl, ?_⟩) hHeld ?_ ?_
        rotate_left
        · rintro w' ⟨s0, s1, s2, s3⟩
          go_simp
          with_reducible rfl
        rotate_left
        · simp only [Act.put, List.setIfInBounds_toArray, List.set_cons_zero, List.set_cons_succ, i64_w, i32_w]
          rfl
        refine one_ (i := 8) (N := some 38) #[true, true, true, true, true, true, true, true, true, false] rfl rfl (by kernel_rfl) (by decide) (fun K hK => ?_)
        refine goes_ Tryz.func49 (by kernel_rfl) rfl #[ea.val, eb.val] (by rfl) rfl rfl (by simp only [List.map_toArray, List.map_cons, List.map_nil]; rfl) ?_
        with_reducible refine ((HLO.out _ hHeld.2.2.1)).mono ?_
        rintro e w3 ⟨rfl, hb⟩
        refine ⟨_, rfl, ?_⟩
        have hbz := hHeld.2.2.1.trans (hb.mono hHeld.2.2.1.size)
        have hblz := (hb.block _ (lt_of_heap hHeld.2.2.2)).trans hHeld.2.2.2
        refine hK.out _ _ ⟨(HQ.out.1 _ hbz), (HQ.out.2 _ hbz), hbz, hblz⟩ (fun hHeld => ?_)
        clear hK K
        refine norm_ (a' := ?_) ?_ ?_
        rotate_left
        · show Act.put _ (some 38) _ = _
          simp only [Act.put, List.setIfInBounds_toArray, List.set_cons_zero, List.set_cons_succ, i64_w, i32_w]
          rfl
        refine pure_ (i := 9) (N := some 10) (v := ?_) (a' := ?_) #[true, true, true, true, true, true, true, true, true, true] rfl rfl (by kernel_rfl) (fun _ _ _ h => h) (Or.inl ⟨by rfl, ?_⟩) ?_ ?_
        rotate_left
        · intro w'
          go_simp
          with_reducible rfl
        rotate_left
        · simp only [Act.put, List.setIfInBounds_toArray, List.set_cons_zero, List.set_cons_succ, i64_w, i32_w]
          rfl
        refine done_ (by kernel_rfl) ?_
        cases hz : (cmpV (rd_T26 l5 j) (rd_T26 m5 j) != 0) with
        | true =>
          go_wp2_with fail
          go_ret
          refine ⟨?_, hbz⟩
          have h := cmpL_first l5 m5 j (by have := H5.out.1; have := HLT.out; omega) (by have := H5.out.2; have := HLT.out; omega) (by simpa using hz)
          rw [HRR.out, if_pos HZ.out, ← HR.out.2.1, h, cmpV_sign]
          rfl
        | false =>
          have HZZ := Lib.hid (show cmpV (rd_T26 l5 j) (rd_T26 m5 j) = 0 by simpa using hz)
          go_wp2_with fail
          go_roundg (gk - 1)
          case measure => have := HR.out.2.2.1; have := HLT.out; omega
          case rel =>
            have hw : wrap64 ((j : Int) + 1) = ((j + 1 : Nat) : Int) := by have := HN.out.1; have := HLT.out; unfold wrap64; omega
            try rw [hw]
            exact ⟨j + 1, rfl, by have := HR.out.2.2.1; have := HLT.out; omega, hbz, hblz, by rw [← HR.out.2.1, cmpL_zero l5 m5 j (by have := H5.out.1; have := HLT.out; omega) (by have := H5.out.2; have := HLT.out; omega) HZZ.out]⟩
      · have q2 : ¬ (j : Int) < (m : Int) := by omega
        have q4 : decide ((j : Int) < (m : Int)) = false := decide_eq_false q2
        have q5 : decide (j < m) = false := decide_eq_false hlt
        have HE := Lib.hid hlt
        clear hbr hbl hlt q2
        go_wp2_with fail
        go_ret
        refine ⟨?_, HR.out.1⟩
        have h := cmpL_end l5 m5 j (by have := H5.out.1; have := HE.out; have := HR.out.2.2.1; omega) (by have := H5.out.2; have := HE.out; have := HR.out.2.2.1; omega) (.inl (by have := H5.out.1; have := HE.out; have := HR.out.2.2.1; omega))
        rw [HRR.out, if_pos HZ.out, ← HR.out.2.1, h, H5.out.1, H5.out.2, Int.sub_self]
        rfl
end Go.Proofs.YtdcgjfiknknjfaaGreatDoor.NumA
/-
gojq.Compare at any two values of JSON gives their order.
-/
set_option linter.unusedSimpArgs false
set_option linter.unusedVariables false
namespace Go.Proofs.YtdcgjfiknknjfaaGreatDoor.NumA
open Go.RowKit Go.Lib Go.Proofs.YtdcgjfiknknjfaaGreatDoor.ValA Go.Proofs.YtdcgjfiknknjfaaGreatDoor.FloH Go.Proofs.YtdcgjfiknknjfaaGreatDoorW.PrintWords Go.Proofs.YtdcgjfiknknjfaaGreatDoorW.PrintLast Go.Proofs.YtdcgjfiknknjfaaGreatDoorW.PrintMore Go.Proofs.YtdcgjfiknknjfaaGreatDoor.PzzFits1
theorem G.flat_inv {n : Nat} {w : World} {x : V} {g : Value} (h : G n w x g) (hx : x.f0 ≤ 4) : g = fg x.f0 x.f1 x.f2 := by
  cases h with
  | flat x hk => rfl
  | list x hk b l hb hl hw he => omega
  | map x hk b es c hb hl hw hst hkey he => omega
theorem G.list_inv {n : Nat} {w : World} {x : V} {g : Value} (h : G n w x g) (hx : x.f0 = 5) : ∃ (b : Nat) (l : List Value), g = .iface 62 (.slice (some ⟨b, 0, none⟩) x.f3.length x.f3.length) ∧ n ≤ b ∧ l.length = x.f3.length ∧ w.heap[b]? = some (.cells l.toArray 20 (0, 0)) ∧
    ∀ (i : Nat) (y : V) (v : Value), x.f3[i]? = some y → l[i]? = some v → G n w y v := by
  cases h with
  | flat x hk => omega
  | list x hk b l hb hl hw he => exact ⟨b, l, rfl, hb, hl, hw, he⟩
  | map x hk b es c hb hl hw hst hkey he => omega
theorem G.map_inv {n : Nat} {w : World} {x : V} {g : Value} (h : G n w x g) (hx : x.f0 = 6) : ∃ (b : Nat) (es : List MapEntry) (c : Nat), g = .iface 65 (.map (some b)) ∧ n ≤ b ∧ es.length = x.f4.length ∧ w.heap[b]? = some (.map es.toArray c) ∧ MapKept.Stamped es.toArray c ∧
    (∀ (i : Nat) (s : ByteArray) (e : MapEntry), x.f4[i]? = some s → es[i]? = some e → e.key = .string s) ∧ ∀ (i : Nat) (y : V) (e : MapEntry), x.f5[i]? = some y → es[i]? = some e → G n w y e.val := by
  cases h with
  | flat x hk => omega
  | list x hk b l hb hl hw he => omega
  | map x hk b es c hb hl hw hst hkey he => exact ⟨b, es, c, rfl, hb, hl, hw, hst, hkey, he⟩
theorem compare_low (l r : Value) (a : Int) (hl : Cl a l) (hr : Cl a r) (ha : a ≤ 2) (w : World) : Calls Tryz.prog 49 #[l, r] w (Gz 0 w) := by
  refine compare_of _ _ _ w ?_
  have hf : ∀ w, Calls Tryz.prog 77 #[l, r] w fun e w' => e = .returned (.int .i64 0) ∧ Below w.heap.size w w' := fun w => by
    have h := fallback l r a a hl hr w
    rwa [Int.sub_self] at h
  cases hl with
  | nil => exact bo_nil 0 r hr.noJ hf w
  | no => exact bo_bool 0 false r hr.noJ hf w
  | yes => exact bo_bool 0 true r hr.noJ hf w
  | int n => omega
  | flt n => omega
  | str s => omega
  | list A n => omega
  | map b => omega
theorem compare_any : ∀ (N : Nat) (x : V), SizeOf.sizeOf x < N → WF x → Sz x → ∀ (y : V), WF y → Sz y → ∀ (g h : Value) (n m : Nat) (w : World), G n w x g → G m w y h → Calls Tryz.prog 49 #[g, h] w (Gz (cmpV x y) w)
  | 0, _, h, _, _, _, _, _, _, _, _, _, _, _, _ => absurd h (Nat.not_lt_zero _)
  | N + 1, x, hN, hx, zx, y, hy, zy, g, h, n, m, w, hg, hh => by
    obtain ⟨f0, f6, fj, f45⟩ := wf_facts hx
    obtain ⟨h0, h6, hj, h45⟩ := wf_facts hy
    obtain ⟨_, _, _, n3, n4, hk, w3, w5⟩ := hx
    obtain ⟨_, _, _, p3, p4, hk', v3, v5⟩ := hy
    obtain ⟨_, _, z4, z3, z5⟩ := zx
    obtain ⟨_, _, y4, y3, y5⟩ := zy
    have ih3 : ∀ a ∈ x.f3, ∀ b ∈ y.f3, ∀ g h n m w, G n w a g → G m w b h → Calls Tryz.prog 49 #[g, h] w (Gz (cmpV a b) w) := fun a ha b hb => compare_any N a (by
      have h1 := List.sizeOf_lt_of_mem ha
      have h2 := size3 x
      omega) (w3 a ha) (z3 a ha) b (v3 b hb) (y3 b hb)
    have ih5 : ∀ a ∈ x.f5, ∀ b ∈ y.f5, ∀ g h n m w, G n w a g → G m w b h → Calls Tryz.prog 49 #[g, h] w (Gz (cmpV a b) w) := fun a ha b hb => compare_any N a (by
      have h1 := List.sizeOf_lt_of_mem ha
      have h2 := size5 x
      omega) (w5 a ha) (z5 a ha) b (v5 b hb) (y5 b hb)
    rw [cmpV_eq]
    by_cases e : x.f0 = y.f0
    · rw [if_neg (by simpa using e)]
      have hc : x.f0 ≤ 2 ∨ x.f0 = 3 ∨ x.f0 = 4 ∨ x.f0 = 5 ∨ x.f0 = 6 := by omega
      rcases hc with c | c | c | c | c
      · rw [if_neg (by omega), if_neg (by omega), if_neg (by omega), if_neg (by omega)]
        exact compare_low g h x.f0 (hg.cl f0) (e ▸ hh.cl h0) c w
      · rw [if_pos c, hg.flat_inv (by omega), hh.flat_inv (by omega), ← e, c]
        exact cmp_nums _ _ fj hj w
      · rw [if_neg (by omega), if_pos c, hg.flat_inv (by omega), hh.flat_inv (by omega), ← e, c]
        exact compare_strs _ _ w
      · rw [if_neg (by omega), if_neg (by omega), if_pos c]
        obtain ⟨b, l, rfl, _, hl, hw, he⟩ := hg.list_inv c
        obtain ⟨b', l', rfl, _, hl', hw', he'⟩ := hh.list_inv (e ▸ c)
        refine cmp_lists_any w b b' _ _ x.f3 y.f3 l l' rfl rfl n3 p3 hl hl' hw hw' fun j v u hv hu w' hb => ?_
        have hj1 : j < x.f3.length := by have := (List.getElem?_eq_some_iff.1 hv).1; omega
        have hj2 : j < y.f3.length := by have := (List.getElem?_eq_some_iff.1 hu).1; omega
        exact ih3 _ (rd_mem x.f3 j hj1) _ (rd_mem y.f3 j hj2) v u n m w' ((he j _ v (rd_at x.f3 j hj1) hv).keepB hb) ((he' j _ u (rd_at y.f3 j hj2) hu).keepB hb)
      · rw [if_neg (by omega), if_neg (by omega), if_neg (by omega), if_pos c]
        obtain ⟨b, es, cb, rfl, _, hl, hw, hst, hkey, he⟩ := hg.map_inv c
        obtain ⟨b', es', cb', rfl, _, hl', hw', hst', hkey', he'⟩ := hh.map_inv (e ▸ c)
        refine compare_of _ _ _ w (bin_cmp_mm _ _ _ w (cmp_maps_at w b b' cb cb' x.f4.length y.f4.length es es' x.f4 y.f4 x.f5 y.f5 rfl rfl n4 p4 f45.symm h45.symm hw hst ⟨hl, hkey, z4⟩ hk hw' hst' ⟨hl', hkey', y4⟩ hk' fun j e1 e2 hv hu hj1 hj2 w' hb => ?_))
        exact ih5 _ (rd_mem x.f5 j hj1) _ (rd_mem y.f5 j hj2) _ _ n m w' ((he j _ e1 (rd_at x.f5 j hj1) hv).keepB hb) ((he' j _ e2 (rd_at y.f5 j hj2) hu).keepB hb)
    · rw [if_pos e]
      exact compare_dif g h _ _ (hg.cl f0) (hh.cl h0) e w
end Go.Proofs.YtdcgjfiknknjfaaGreatDoor.NumA
