/-
Parts of the proof, one behind the other: KeyB, KeyC.
-/
import Derived.Test.YtbnfeicpjmfooaaGreatDoorME
import Derived.Test.YtbnfeicpjmfooaaGreatDoorShelfS
import Derived.Shelf.Sort.Plain
import Derived.Test.YtbnfeicpjmfooaaGreatDoorCmpE
/-
gojq.keys: the keys of a map, in their order.
-/
set_option linter.unusedSimpArgs false
set_option linter.unusedVariables false
namespace Go.Proofs.YtbnfeicpjmfooaaGreatDoor.NumA
open Go.RowKit Go.Lib Go.Proofs.YtbnfeicpjmfooaaGreatDoor.ValA Go.Proofs.YtbnfeicpjmfooaaGreatDoor.FloH Go.Proofs.YtbnfeicpjmfooaaGreatDoorW.PrintWords Go.Proofs.YtbnfeicpjmfooaaGreatDoorW.PrintLast Go.Proofs.YtbnfeicpjmfooaaGreatDoorW.PrintMore Go.Proofs.YtbnfeicpjmfooaaGreatDoor.PzzFits1
theorem sort_strs (blk cap : Nat) (ss : List (List UInt8)) (w : World) (hH : Go.Sort.Holds encStr w blk 0 ss.toArray) (hblk : blk < w.heap.size) (hsz : ss.length < 4611686018427387904) :
    Calls Tryz.prog 214 #[.slice (some ⟨blk, 0, none⟩) ss.length cap] w fun e w' =>
      e = .returned (.tuple #[]) ∧ ∃ n os, w' = Go.Sort.grow (Go.Sort.putRow encStr (Go.Sort.ahead w n) blk 0 (ss.mergeSort fun x y => decide (x ≤ y)).toArray) os := Any.sort_Strings Tryz.laysSort blk 0 cap ss w hH hblk hsz
theorem info_str : (Tryz.prog.info? 9).map (fun i => (i.zero, i.size, i.bytes)) = some (some (.string ⟨#[]⟩), 1, 16) := by kernel_rfl
theorem made_str (n : Nat) : madeCells (Value.cells (.string ⟨#[]⟩)) (n * 1) = (List.replicate n (Value.string ⟨#[]⟩)).toArray := by
  have e : Value.cells (.string ⟨#[]⟩) = #[Value.string ⟨#[]⟩] := rfl
  rw [e, Nat.mul_one]
  unfold madeCells
  apply Array.ext
  · simp
  · intro i h1 h2
    simp [Nat.mod_one]
theorem runMakeS (n : Nat) (hn : n ≤ 1000000) (w : World) : (Instr.makeSlice 24 (.int .i64 n) (.int .i64 n)).run Tryz.prog w = .ok (.slice (some ⟨w.heap.size, 0, none⟩) n n) (w.alloc (.cells (List.replicate n (Value.string ⟨#[]⟩)).toArray 9)) := by
  have hi := info_str
  cases h : Tryz.prog.info? 9 with
  | none => rw [h] at hi; cases hi
  | some i =>
    rw [h] at hi
    have hi := Option.some.inj hi
    simp only [Prod.mk.injEq] at hi
    obtain ⟨h1, h2, h3⟩ := hi
    have := run_makeSlice (P := Tryz.prog) w 24 9 i (.string ⟨#[]⟩) Tryz.underlying24 h h1 .i64 .i64 (n : Int) (n : Int) (by omega) (by omega) (by rw [h2]; omega) (by rw [h3]; omega) (by omega)
    rw [this, Int.toNat_natCast, h2, made_str]
/-- The head of keys' round. -/
def RKs (w : World) (n b : Nat) (D : DataW Unit) (k : Nat) (i : Value) (wr : World) : Prop :=
  ∃ (left : Lit → Bool) (ss : List (List UInt8)) (vs : List Value), wr.ranges Tryz.prog 9 R0 b (w.heap.size + 1) n D left k ∧ i = .int .i64 ss.length ∧ ss.length + k ≤ n ∧ wr.heap[w.heap.size]? = some (.cells vs.toArray 9 (0, 0)) ∧ vs.length = n ∧
    (∀ (j : Nat) (x : List UInt8), ss[j]? = some x → vs[j]? = some (Go.Proofs.encStr x)) ∧ Collected D left ss ∧ Below w.heap.size w wr
/-- What keys gives. -/
def KeysGo (w : World) (l : List ByteArray) (e : Ending) (w' : World) : Prop :=
  e = .returned (.slice (some ⟨w.heap.size, 0, none⟩) l.length l.length) ∧ w'.heap[w.heap.size]? = some (.cells (l.map Value.string).toArray 9 (0, 0)) ∧ Below w.heap.size w w'
theorem keys_fin {w wr w1 : World} {n nn : Nat} {os : Array Obj} {es : List MapEntry} {l : List ByteArray} {ss : List (List UInt8)} {vs : List Value} (hbl : wr.heap[w.heap.size]? = some (.cells vs.toArray 9 (0, 0))) (hvs : vs.length = n) (hn : n = es.length) (hk : KeysAre es l)
    (hrise : ∀ i : Nat, 0 < i → i < l.length → Op.bytesLess (rdOf ByteArray.empty l (i - 1 : Nat)).toList (rdOf ByteArray.empty l i).toList = true) (hp : ss.Perm (l.map fun s => s.data.toList)) (hbr : Below w.heap.size w wr)
    (hw1 : w1 = Go.Sort.grow (Go.Sort.putRow Go.Proofs.encStr (Go.Sort.ahead wr nn) w.heap.size 0 (ss.mergeSort fun x y => decide (x ≤ y)).toArray) os) :
    w1.heap[w.heap.size]? = some (.cells (l.map Value.string).toArray 9 (0, 0)) ∧ Below w.heap.size w w1 := by
  rw [sort_keys hrise hp] at hw1
  have h1 := heap_sorted (n := nn) (os := os) (l.map fun s => s.data.toList).toArray hbl
  have h2 : wr.grownBy w1 (some w.heap.size) := by rw [hw1]; exact grownBy_sorted _
  rw [← hw1] at h1
  refine ⟨?_, hbr.grown h2 hbr.size (fun k hk => by cases hk; exact Nat.le_refl _)⟩
  rw [h1]
  have hlen : (l.map fun s => s.data.toList).length = vs.length := by rw [List.length_map]; have := hk.1; omega
  have e := take_putCells vs.toArray (l.map fun s => s.data.toList) (by simp [hlen])
  rw [List.take_of_length_le (by simp [Go.Sort.putCells, hlen])] at e
  have e2 : (l.map fun s => s.data.toList).map Go.Proofs.encStr = l.map Value.string := by
    rw [List.map_map]
    apply List.map_congr_left
    intro s _
    simp [Go.Proofs.encStr]
  rw [e2] at e
  have e3 : Go.Sort.putCells Go.Proofs.encStr 0 (l.map fun s => s.data.toList).toArray vs.toArray = (l.map Value.string).toArray := by
    apply Array.ext'
    rw [e]
  rw [e3]
theorem rks_step {w wr w' : World} {n b cnt cnt' : Nat} {D : DataW Unit} {left : Lit → Bool} {ss : List (List UInt8)} {vs : List Value} {x : List UInt8} {y : DataW Unit × List MemPlace}
    (HR : ss.length + cnt ≤ n ∧ wr.heap[w.heap.size]? = some (.cells vs.toArray 9 (0, 0)) ∧ vs.length = n ∧ (∀ (j : Nat) (x : List UInt8), ss[j]? = some x → vs[j]? = some (Go.Proofs.encStr x)) ∧ Collected D left ss ∧ Below w.heap.size w wr)
    (hlen : ss.length < n) (hlk : left (.string x) = true) (hat : ∀ zd, D.atKey (.string x) zd = y.1) (hrg2 : w'.ranges Tryz.prog 9 R0 b (w.heap.size + 1) n D (fun z => left z && !z.sameKey (.string x)) cnt') (hlt : cnt' < cnt) (hg2 : wr.grownBy w' (some (w.heap.size + 1))) :
    RKs w n b D cnt' (.int .i64 ((ss.length + 1 : Nat) : Int)) (w'.setCell ⟨w.heap.size, ss.length, none⟩ (Go.Proofs.encStr x)) := by
  obtain ⟨hcs, hbl, hvs, hss, hC, hbr⟩ := HR
  have hbl2 := (hg2.block _ (lt_of_heap hbl) (by simp)).trans hbl
  have hgr : w'.grownBy (w'.setCell ⟨w.heap.size, ss.length, none⟩ (Go.Proofs.encStr x)) (some w.heap.size) := grown_set (World.grownBy.refl w' _) _ _
  have hb2 : Below w.heap.size w w' := hbr.grown hg2 hbr.size (fun k hk => by cases hk; omega)
  refine ⟨_, ss ++ [x], vs.set ss.length (Go.Proofs.encStr x), ?_, by simp, by simp; omega, ?_, by simp [hvs], ?_, hC.step hlk hat, hb2.grown hgr hb2.size (fun k hk => by cases hk; exact Nat.le_refl _)⟩
  · refine hrg2.kept hgr ?_ (by simp)
    intro e
    have hbb := hrg2.owns
    obtain ⟨es, clock, hb, _⟩ := hbb
    cases e
    rw [hbl2] at hb
    cases hb
  · rw [heap_set hbl2 _ _]
    simp
  · intro j z hz
    by_cases e : j = ss.length
    · subst e
      rw [List.getElem?_append_right (Nat.le_refl _), Nat.sub_self] at hz
      obtain rfl := Option.some.inj hz
      rw [List.getElem?_set]
      simp [hvs, hlen]
    · have hj : j < (ss ++ [x]).length := (List.getElem?_eq_some_iff.1 hz).1
      rw [List.length_append, List.length_singleton] at hj
      rw [List.getElem?_append_left (by omega)] at hz
      rw [List.getElem?_set_ne (Ne.symm e)]
      exact hss j z hz
set_option maxRecDepth 100000 in
set_option maxHeartbeats 4000000 in
theorem gojq_keys (w : World) (b c : Nat) (es : List MapEntry) (l : List ByteArray) (hb : w.heap[b]? = some (.map es.toArray c)) (hst : MapKept.Stamped es.toArray c) (hn : es.length ≤ 1000000) (hk : KeysAre es l)
    (hrise : ∀ i : Nat, 0 < i → i < l.length → Op.bytesLess (rdOf ByteArray.empty l (i - 1 : Nat)).toList (rdOf ByteArray.empty l i).toList = true) :
    Calls Tryz.prog 170 #[.map (some b)] w (KeysGo w l) := by
  obtain ⟨n, hnn⟩ : ∃ n, n = es.length := ⟨_, rfl⟩
  obtain ⟨D, hD⟩ : ∃ D, IsD es D := ⟨_, rfl⟩
  have hown := owns_of hb hst hn hk hD
  have hlen : ∀ ty, (Builtin.len_ #[90] ty #[.map (some b)]).run Tryz.prog w = .ok (.int .i64 (n : Int)) w := fun ty => by
    have := hown.len Tryz.underlying90 ty
    rwa [size_D hD, ← hnn] at this
  have hmk := fun w => runMakeS n (by omega) w
  obtain ⟨W2, hrun, hrg, hg2, hs2⟩ := (hown.alloc (.cells (List.replicate n (Value.string ⟨#[]⟩)).toArray 9)).range keyedS Tryz.underlying90
  rw [World.size_alloc] at hrun hrg hs2
  rw [List.toArray_replicate] at hrun
  have H0 := Lib.hid (show RKs w n b D n (.int .i64 ((0 : Nat) : Int)) W2 by
    refine ⟨_, [], List.replicate n (Value.string ⟨#[]⟩), by rw [hnn]; rw [size_D hD] at hrg; exact hrg, rfl, by simp, ?_, by simp, fun j x h => by simp at h, Collected.start _, ?_⟩
    · exact (hg2.block _ (by rw [World.size_alloc]; omega) (by simp)).trans (heap_alloc_new w _)
    · exact ((Below.refl _ w).alloc (Nat.le_refl _) _).grown hg2 (by rw [World.size_alloc]; omega) (fun k hk => by cases hk))
  have HK := Lib.hid (And.intro hk (And.intro hrise hD))
  have HN := Lib.hid (And.intro hn hnn)
  have hblt := lt_of_heap hb
  have HB := Lib.hid (And.intro hb hblt)
  clear hb hst hn hk hrise hown hrg hg2 hs2 hnn hblt hD
  go_enter Tryz.func170, Tryz.ntmps170
  go_wp2_with fail
  clear hlen hmk hrun
  go_loopg [4] n (fun k i wr => RKs w n b D k i wr)
  case atStart => exact H0.out
  case round =>
    clear H0
    obtain ⟨left, ss, vs, hrg, rfl, hcs, hbl, hvs, hss, hC, hbr⟩ := hrel
    have HR := Lib.hid (And.intro hcs (And.intro hbl (And.intro hvs (And.intro hss (And.intro hC hbr)))))
    have HG := Lib.hid hrg
    rcases hrg.next keyedS 0 with ⟨hc0, hl0, hrun⟩ | ⟨key, v, kl, y, w', cnt', hkey, hlk, hv, hat, hrun, hrg2, hlt, hg2, hs2, hen⟩
    · have HC0 := Lib.hid (And.intro hc0 hl0)
      have hp := (hC.perm hrg.owns keyedS Tryz.underlying9 hl0).trans (keys_perm HK.out.1 HK.out.2.2)
      have hsl : ss.length = n := by have := hp.length_eq; rw [List.length_map] at this; have := HK.out.1.1; have := HN.out.2; omega
      have hH : Go.Sort.Holds Go.Proofs.encStr wr w.heap.size 0 ss.toArray := by
        intro j hj
        have hj' : j < ss.length := by simpa using hj
        have h := list_cell hbl (by omega : j < vs.length)
        have e := hss j ss[j] (List.getElem?_eq_getElem hj')
        rw [List.getElem?_eq_getElem (by omega)] at e
        rw [Nat.zero_add, h.1, h.2, Option.some.inj e]
        simp [hj']
      have HS := Lib.hid (sort_strs w.heap.size n ss wr hH (lt_of_heap hbl) (by have := HN.out; omega))
      rw [hsl] at HS
      have HP := Lib.hid (And.intro hp hsl)
      clear hcs hbl hvs hss hC hbr hrg hl0 hc0 hp hsl hH
      go_wp2_with fail
      refine HS.out.mono ?_
      rintro e w1 ⟨rfl, nn, os, hw1⟩
      have hfin := keys_fin HR.out.2.1 HR.out.2.2.1 HN.out.2 HK.out.1 HK.out.2.1 HP.out.1 HR.out.2.2.2.2.2 hw1
      have HF := Lib.hid hfin
      clear hfin hw1
      go_wp2_with fail
      go_ret
      have e : l.length = n := by have := HK.out.1.1; have := HN.out.2; omega
      exact ⟨by rw [e]; rfl, HF.out⟩
    · obtain ⟨x, rfl, rfl, hx⟩ := Maps.keyOf_str Tryz.underlying9 hkey
      have hlen : ss.length < n := by omega
      have HX := Lib.hid hlen
      obtain ⟨q0, q1⟩ := list_cell ((hg2.block _ (lt_of_heap hbl) (by simp)).trans hbl) (Nat.lt_of_lt_of_eq HX.out HR.out.2.2.1.symm)
      have hbl2 := (hg2.block _ (lt_of_heap hbl) (by simp)).trans hbl
      have H4 := Lib.hid (rks_step (x := x) HR.out hlen hlk hat hrg2 hlt hg2)
      have H2 := Lib.hid (And.intro hlk (And.intro hat (And.intro hrg2 (And.intro hlt (And.intro hg2 hs2)))))
      clear hcs hbl hvs hss hC hbr hrg hlk hv hat hrg2 hlt hg2 hs2 hkey hbl2
      clear hlen
      have hlt2 : (ss.length : Int) < (n : Int) := by have := HX.out; omega
      have hwr : wrap64 ((ss.length : Int) + 1) = ((ss.length + 1 : Nat) : Int) := by have := HN.out; have := HX.out; unfold wrap64; omega
      have HWR := Lib.hid hwr
      clear hwr
      go_wp2_with fail
      go_roundg cnt'
      case measure => exact H2.out.2.2.2.1
      case rel =>
        rw [HWR.out]
        exact H4.out
end Go.Proofs.YtbnfeicpjmfooaaGreatDoor.NumA
/-
gojq.funcKeys at a map: the list of its keys.
-/
set_option linter.unusedSimpArgs false
set_option linter.unusedVariables false
namespace Go.Proofs.YtbnfeicpjmfooaaGreatDoor.NumA
open Go.RowKit Go.Lib Go.Proofs.YtbnfeicpjmfooaaGreatDoor.ValA Go.Proofs.YtbnfeicpjmfooaaGreatDoor.FloH Go.Proofs.YtbnfeicpjmfooaaGreatDoorW.PrintWords Go.Proofs.YtbnfeicpjmfooaaGreatDoorW.PrintLast Go.Proofs.YtbnfeicpjmfooaaGreatDoorW.PrintMore Go.Proofs.YtbnfeicpjmfooaaGreatDoor.PzzFits1
/-- A key as an any. -/
def skey (s : ByteArray) : Value := .iface 9 (.string s)
/-- What funcKeys gives. -/
def KeysAny (w : World) (l : List ByteArray) (e : Ending) (w' : World) : Prop :=
  e = .returned (.iface 81 (.slice (some ⟨w.heap.size, 0, none⟩) l.length l.length)) ∧ w'.heap[w.heap.size]? = some (.cells (l.map skey).toArray 20 (0, 0)) ∧ Below w.heap.size w w'
/-- The head of funcKeys' round. -/
def RKf (w : World) (n : Nat) (l : List ByteArray) (k : Nat) (i : Value) (wr : World) : Prop :=
  ∃ (j : Nat) (vs : List Value), i = .int .i64 j ∧ k + j = n ∧ Below w.heap.size w wr ∧ wr.heap[w.heap.size]? = some (.cells vs.toArray 20 (0, 0)) ∧ vs.length = n ∧
    (∀ (i : Nat) (s : ByteArray), i < j → l[i]? = some s → vs[i]? = some (skey s)) ∧ wr.heap[w.heap.size + 1]? = some (.cells (l.map Value.string).toArray 9 (0, 0))
theorem rkf_step {w wr : World} {n : Nat} {l : List ByteArray} {j : Nat} {vs : List Value} (hl : l.length = n) (hlt : j < n) (hb : Below w.heap.size w wr) (hbl : wr.heap[w.heap.size]? = some (.cells vs.toArray 20 (0, 0))) (hvs : vs.length = n)
    (hG : ∀ (i : Nat) (s : ByteArray), i < j → l[i]? = some s → vs[i]? = some (skey s)) (hbk : wr.heap[w.heap.size + 1]? = some (.cells (l.map Value.string).toArray 9 (0, 0))) (k : Nat) (hk : k + j = n) :
    RKf w n l (k - 1) (.int .i64 ((j + 1 : Nat) : Int)) (wr.setCell ⟨w.heap.size, j, none⟩ (skey (rdOf ByteArray.empty l j))) := by
  have hgr : wr.grownBy (wr.setCell ⟨w.heap.size, j, none⟩ (skey (rdOf ByteArray.empty l j))) (some w.heap.size) := grown_set (World.grownBy.refl wr _) j _
  refine ⟨j + 1, vs.set j (skey (rdOf ByteArray.empty l j)), rfl, by omega, hb.grown hgr hb.size (fun k hk => by cases hk; exact Nat.le_refl _), ?_, by simp [hvs], ?_, (hgr.block _ (lt_of_heap hbk) (by simp)).trans hbk⟩
  · rw [heap_set hbl j _]
    simp
  · intro i s hi hs
    by_cases e : i = j
    · subst e
      rw [key_rd l i (by omega)] at hs
      obtain rfl := Option.some.inj hs
      rw [List.getElem?_set]
      simp [hvs, hlt]
    · rw [List.getElem?_set_ne (Ne.symm e)]
      exact hG i s (by omega) hs
set_option maxRecDepth 100000 in
set_option maxHeartbeats 4000000 in
theorem funcKeys_map (w : World) (b c n : Nat) (es : List MapEntry) (l : List ByteArray) (hln : l.length = n) (hb : w.heap[b]? = some (.map es.toArray c)) (hst : MapKept.Stamped es.toArray c) (hn : n ≤ 1000000) (hk : KeysAre es l)
    (hrise : ∀ i : Nat, 0 < i → i < l.length → Op.bytesLess (rdOf ByteArray.empty l (i - 1 : Nat)).toList (rdOf ByteArray.empty l i).toList = true) :
    Calls Tryz.prog 200 #[.iface 90 (.map (some b))] w (KeysAny w l) := by
  obtain ⟨D, hD⟩ : ∃ D, IsD es D := ⟨_, rfl⟩
  have hown := owns_of hb hst (by have := hk.1; omega) hk hD
  have hlen : ∀ ty, (Builtin.len_ #[90] ty #[.map (some b)]).run Tryz.prog w = .ok (.int .i64 (n : Int)) w := fun ty => by
    have := hown.len Tryz.underlying90 ty
    rwa [size_D hD, hk.1, hln] at this
  have hmk := fun w => runMake n hn w
  have fL := fun w => qML (.map (some b)) w
  have gM := fun w => qM (.map (some b)) w
  obtain ⟨W1, hW1⟩ : ∃ W1, W1 = w.alloc (.cells (Array.replicate n Value.nilIface) 20) := ⟨_, rfl⟩
  have hw1 : W1 = w.alloc (.cells (List.replicate n Value.nilIface).toArray 20) := by rw [hW1, List.toArray_replicate]
  have H1 := Lib.hid (show Below w.heap.size w W1 ∧ W1.heap[w.heap.size]? = some (.cells (List.replicate n Value.nilIface).toArray 20 (0, 0)) ∧ W1.heap.size = w.heap.size + 1 by rw [hw1]; exact ⟨(Below.refl _ w).alloc (Nat.le_refl _) _, heap_alloc_new w _, by rw [World.size_alloc]⟩)
  have HKS := Lib.hid (gojq_keys W1 b c es l ((H1.out.1.block _ (lt_of_heap hb)).trans hb) hst (by have := hk.1; omega) hk hrise)
  have HN := Lib.hid (And.intro hn hln)
  clear hb hst hn hk hrise hown hln hw1 hD
  go_enter Tryz.func200, Tryz.ntmps200
  go_wp2_with fail
  rw [← hW1]
  clear hW1 hmk hlen fL gM
  refine HKS.out.mono ?_
  rintro e w1 ⟨rfl, hbl, hbb⟩
  rw [H1.out.2.2, HN.out.2]
  have H2 := Lib.hid (show RKf w n l n (.int .i64 ((0 : Nat) : Int)) w1 from
    ⟨0, List.replicate n Value.nilIface, rfl, by omega, H1.out.1.trans (hbb.mono (by have := H1.out.2.2; omega)), (hbb.block _ (lt_of_heap H1.out.2.1)).trans H1.out.2.1, by simp, fun i s hi => by omega, by rw [H1.out.2.2] at hbl; exact hbl⟩)
  clear hbl hbb H1 HKS
  go_wp2_with fail
  go_loopg [44] n (fun k i wr => RKf w n l k i wr)
  case atStart => exact H2.out
  case round =>
    clear H2
    obtain ⟨j, vs, rfl, hkj, hbr, hbl, hvs, hG, hbk⟩ := hrel
    have HR := Lib.hid (And.intro hbr (And.intro hbl (And.intro hvs (And.intro hG hbk))))
    have HK := Lib.hid hkj
    by_cases hlt : j < n
    · have x0 : wr.cell? ⟨w.heap.size + 1, j, none⟩ = some (.string (rdOf ByteArray.empty l j)) := by
        have h := list_cell hbk (by simp; have := HN.out.2; omega : j < (l.map Value.string).length)
        rw [h.1]
        have e := key_rd l j (by have := HN.out.2; omega)
        rw [List.getElem?_eq_getElem (by have := HN.out.2; omega)] at e
        rw [List.getElem_map, Option.some.inj e]
      have HLT := Lib.hid hlt
      obtain ⟨q0, q1⟩ := list_cell hbl (Nat.lt_of_lt_of_eq HLT.out HR.out.2.2.1.symm)
      have H4 := Lib.hid (rkf_step HN.out.2 hlt hbr hbl hvs hG hbk)
      have hlt2 : (j : Int) < (n : Int) := by omega
      clear hbr hbl hvs hG hbk hkj
      go_wp2_with fail
      go_roundg (gk - 1)
      case measure => have := HK.out; omega
      case rel =>
        have hw : wrap64 ((j : Int) + 1) = ((j + 1 : Nat) : Int) := by have := HN.out.1; have := HK.out; unfold wrap64; omega
        rw [hw]
        exact H4.out gk HK.out
    · have hlt2 : ¬ (j : Int) < (n : Int) := by omega
      have hlt3 : decide ((j : Int) < (n : Int)) = false := decide_eq_false hlt2
      have hlt4 : decide (j < n) = false := decide_eq_false hlt
      have HNL := Lib.hid hlt
      clear hbr hbl hvs hG hbk hkj hlt hlt2
      go_wp2_with fail
      go_ret
      refine ⟨by rw [HN.out.2]; rfl, ?_, HR.out.1⟩
      rw [HR.out.2.1]
      congr 2
      congr 1
      apply List.ext_getElem? 
      intro i
      by_cases hi : i < l.length
      · rw [HR.out.2.2.2.1 i l[i] (by have := HK.out; have := HNL.out; have := HN.out.2; omega) (List.getElem?_eq_getElem hi)]
        simp [hi]
      · rw [List.getElem?_eq_none (by have := HR.out.2.2.1; have := HN.out.2; omega), List.getElem?_eq_none (by simp; omega)]
end Go.Proofs.YtbnfeicpjmfooaaGreatDoor.NumA
