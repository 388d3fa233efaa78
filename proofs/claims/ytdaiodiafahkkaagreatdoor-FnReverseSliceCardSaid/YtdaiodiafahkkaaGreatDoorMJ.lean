/-
Parts of the proof, one behind the other: AddE, AddF, SumS.
-/
import Derived.Test.YtdaiodiafahkkaaGreatDoorMI
import Derived.Test.YtdaiodiafahkkaaGreatDoorMH
import Derived.Test.YtdaiodiafahkkaaGreatDoorMD
/-
Sums of values, as plain functions: arrays, texts, objects.
-/
set_option linter.unusedSimpArgs false
set_option linter.unusedVariables false
namespace Go.Proofs.YtdaiodiafahkkaaGreatDoor.NumA
open Go.RowKit Go.Lib Go.Proofs.YtdaiodiafahkkaaGreatDoor.ValA Go.Proofs.YtdaiodiafahkkaaGreatDoor.FloH Go.Proofs.YtdaiodiafahkkaaGreatDoorW.PrintWords Go.Proofs.YtdaiodiafahkkaaGreatDoorW.PrintLast Go.Proofs.YtdaiodiafahkkaaGreatDoorW.PrintMore Go.Proofs.YtdaiodiafahkkaaGreatDoor.PzzFits1
/-- The order of bytes. -/
def bl (a b : ByteArray) : Bool := Op.bytesLess a.toList b.toList
theorem bl_self (a : ByteArray) : bl a a = false := by
  cases h : bl a a with
  | false => rfl
  | true => exact (bless_ne h).elim
theorem bl_trans {a b c : ByteArray} (h1 : bl a b = true) (h2 : bl b c = true) : bl a c = true := bless_trans h1 h2
theorem bl_other {a b : ByteArray} (h1 : bl a b = false) (h2 : a ≠ b) : bl b a = true := by
  unfold bl at *
  rw [bytesLess_eq, decide_eq_false_iff_not] at h1
  rw [bytesLess_eq, decide_eq_true_eq]
  refine Classical.byContradiction fun h3 => h2 ?_
  have e := List.le_antisymm (List.not_lt.1 h3) (List.not_lt.1 h1)
  rw [Lib.toList_data, Lib.toList_data] at e
  cases a; cases b
  simp only [ByteArray.mk.injEq]
  exact Array.toList_inj.1 e
/-- A key set among others that rise. -/
def insKV : List (ByteArray × V) → ByteArray → V → List (ByteArray × V)
  | [], k, v => [(k, v)]
  | p :: r, k, v => if bl p.1 k = true then p :: insKV r k v else if p.1 = k then (k, v) :: r else (k, v) :: p :: r
def getKV : List (ByteArray × V) → ByteArray → Option V
  | [], _ => none
  | p :: r, k => if p.1 = k then some p.2 else getKV r k
def foldKV (m l : List (ByteArray × V)) : List (ByteArray × V) := l.foldl (fun m p => insKV m p.1 p.2) m
def Rise (l : List (ByteArray × V)) : Prop := l.Pairwise fun p q => bl p.1 q.1 = true
theorem ins_get (k : ByteArray) (v : V) (s : ByteArray) : ∀ l : List (ByteArray × V), getKV (insKV l k v) s = if s = k then some v else getKV l s
  | [] => by
    by_cases e : k = s
    · subst e; simp [insKV, getKV]
    · simp [insKV, getKV, e, Ne.symm e]
  | p :: r => by
    have ih := ins_get k v s r
    by_cases h1 : bl p.1 k = true
    · rw [insKV, if_pos h1, getKV, getKV, ih]
      by_cases e : p.1 = s
      · have : s ≠ k := fun e2 => by rw [e, e2, bl_self] at h1; cases h1
        simp [e, this]
      · simp [e]
    · rw [insKV, if_neg h1]
      by_cases h2 : p.1 = k
      · rw [if_pos h2, getKV, getKV]
        by_cases e : s = k
        · simp [e]
        · simp [e, Ne.symm e, h2]
      · rw [if_neg h2, getKV]
        by_cases e : s = k
        · simp [e]
        · simp [e, Ne.symm e]
theorem ins_mem {k : ByteArray} {v : V} {q : ByteArray × V} : ∀ {l : List (ByteArray × V)}, q ∈ insKV l k v → q = (k, v) ∨ q ∈ l
  | [], h => by simp [insKV] at h; exact .inl h
  | p :: r, h => by
    rw [insKV] at h
    split at h
    · rcases List.mem_cons.1 h with rfl | h
      · exact .inr (by simp)
      · exact (ins_mem h).imp id (fun h => List.mem_cons_of_mem _ h)
    · split at h
      · rcases List.mem_cons.1 h with rfl | h
        · exact .inl rfl
        · exact .inr (List.mem_cons_of_mem _ h)
      · rcases List.mem_cons.1 h with rfl | h
        · exact .inl rfl
        · exact .inr h
theorem ins_rise {k : ByteArray} {v : V} : ∀ {l : List (ByteArray × V)}, Rise l → Rise (insKV l k v)
  | [], _ => by unfold Rise; simp [insKV]
  | p :: r, h => by
    obtain ⟨h1, h2⟩ := List.pairwise_cons.1 h
    rw [insKV]
    split
    · rename_i c
      refine List.pairwise_cons.2 ⟨fun q hq => ?_, ins_rise h2⟩
      rcases ins_mem hq with rfl | hq
      · exact c
      · exact h1 q hq
    · rename_i c
      split
      · rename_i e
        exact List.pairwise_cons.2 ⟨fun q hq => by have := h1 q hq; rw [e] at this; exact this, h2⟩
      · rename_i e
        have h3 : bl k p.1 = true := bl_other (by simpa using c) e
        refine List.pairwise_cons.2 ⟨fun q hq => ?_, h⟩
        rcases List.mem_cons.1 hq with rfl | hq
        · exact h3
        · exact bl_trans h3 (h1 q hq)
theorem ins_len {k : ByteArray} {v : V} : ∀ l : List (ByteArray × V), (insKV l k v).length ≤ l.length + 1
  | [] => by simp [insKV]
  | p :: r => by
    have := ins_len (k := k) (v := v) r
    rw [insKV]
    split
    · simp; omega
    · split <;> simp
theorem ins_end {k : ByteArray} {v : V} : ∀ {l : List (ByteArray × V)}, (∀ q ∈ l, bl q.1 k = true) → insKV l k v = l ++ [(k, v)]
  | [], _ => rfl
  | p :: r, h => by
    rw [insKV, if_pos (h p (by simp)), ins_end (fun q hq => h q (List.mem_cons_of_mem _ hq))]
    rfl
theorem get_mem {s : ByteArray} {v : V} : ∀ {l : List (ByteArray × V)}, getKV l s = some v → (s, v) ∈ l
  | [], h => by simp [getKV] at h
  | p :: r, h => by
    rw [getKV] at h
    split at h
    · rename_i e
      obtain rfl := Option.some.inj h
      rw [← e]
      simp
    · exact List.mem_cons_of_mem _ (get_mem h)
theorem get_none {s : ByteArray} : ∀ {l : List (ByteArray × V)}, getKV l s = none ↔ ∀ q ∈ l, q.1 ≠ s
  | [] => by simp [getKV]
  | p :: r => by
    have ih := get_none (s := s) (l := r)
    rw [getKV]
    split
    · rename_i e
      simp [e]
    · rename_i e
      rw [ih]
      simp [e]
theorem mem_get {s : ByteArray} {v : V} : ∀ {l : List (ByteArray × V)}, Rise l → (s, v) ∈ l → getKV l s = some v
  | [], _, h => by cases h
  | p :: r, hr, h => by
    obtain ⟨h1, h2⟩ := List.pairwise_cons.1 hr
    rw [getKV]
    rcases List.mem_cons.1 h with rfl | h
    · simp
    · have := h1 _ h
      rw [if_neg (fun e => by rw [e, bl_self] at this; cases this)]
      exact mem_get h2 h
theorem fold_rise : ∀ (l : List (ByteArray × V)) {m : List (ByteArray × V)}, Rise m → Rise (foldKV m l)
  | [], _, h => h
  | p :: r, _, h => fold_rise r (ins_rise h)
theorem fold_len : ∀ (l m : List (ByteArray × V)), (foldKV m l).length ≤ m.length + l.length
  | [], _ => Nat.le_refl _
  | p :: r, m => by
    have h1 := fold_len r (insKV m p.1 p.2)
    have h2 := ins_len (k := p.1) (v := p.2) m
    rw [List.length_cons]
    show (foldKV (insKV m p.1 p.2) r).length ≤ _
    omega
theorem fold_mem {q : ByteArray × V} : ∀ (l : List (ByteArray × V)) {m : List (ByteArray × V)}, q ∈ foldKV m l → q ∈ m ∨ q ∈ l
  | [], _, h => .inl h
  | p :: r, m, h => by
    rcases fold_mem r (show q ∈ foldKV (insKV m p.1 p.2) r from h) with h | h
    · rcases ins_mem h with rfl | h
      · exact .inr (by simp)
      · exact .inl h
    · exact .inr (List.mem_cons_of_mem _ h)
theorem fold_get (s : ByteArray) : ∀ (l m : List (ByteArray × V)), Rise l → getKV (foldKV m l) s = (getKV l s).or (getKV m s)
  | [], m, _ => by simp [foldKV, getKV]
  | p :: r, m, h => by
    obtain ⟨h1, h2⟩ := List.pairwise_cons.1 h
    show getKV (foldKV (insKV m p.1 p.2) r) s = _
    rw [fold_get s r _ h2, ins_get, getKV]
    by_cases e : p.1 = s
    · have h0 : getKV r s = none := get_none.2 fun q hq e2 => by have := h1 q hq; rw [e, e2, bl_self] at this; cases this
      simp [e, h0]
    · simp [e, Ne.symm e]
theorem fold_end : ∀ (l m : List (ByteArray × V)), Rise (m ++ l) → foldKV m l = m ++ l
  | [], m, _ => by simp [foldKV]
  | p :: r, m, h => by
    have e : insKV m p.1 p.2 = m ++ [p] := ins_end fun q hq => (List.pairwise_append.1 h).2.2 q hq p (by simp)
    show foldKV (insKV m p.1 p.2) r = _
    have e2 : m ++ p :: r = (m ++ [p]) ++ r := by simp
    rw [e, fold_end r (m ++ [p]) (by rw [← e2]; exact h), e2]
/-- An object's keys and values. -/
def kv (x : V) : List (ByteArray × V) := x.f4.zip x.f5
theorem kv_keys {x : V} (h : x.f4.length = x.f5.length) : (kv x).map (·.1) = x.f4 := List.map_fst_zip (by omega)
theorem kv_vals {x : V} (h : x.f4.length = x.f5.length) : (kv x).map (·.2) = x.f5 := List.map_snd_zip (by omega)
theorem kv_rise {x : V} (hx : WL x) : Rise (kv x) := by
  cases hx with
  | mk x h1 h2 n3 n4 hk h3 h5 =>
    unfold Rise kv
    rw [List.pairwise_iff_getElem]
    intro i j hi hj hij
    have hi' : i < x.f4.length := by simp at hi; omega
    have hj' : j < x.f4.length := by simp at hj; omega
    have h := keys_rise hk (j - i - 1) i (by omega)
    rw [show i + (j - i - 1) + 1 = j by omega] at h
    have e1 := key_rd x.f4 i hi'
    have e2 := key_rd x.f4 j hj'
    rw [List.getElem?_eq_getElem hi'] at e1
    rw [List.getElem?_eq_getElem hj'] at e2
    unfold bl
    simp only [List.getElem_zip]
    rw [Option.some.inj e1, Option.some.inj e2]
    exact h
theorem rise_keys {l : List (ByteArray × V)} (h : Rise l) : ∀ i : Nat, 0 < i → i < (l.map (·.1)).length → Op.bytesLess (rdOf ByteArray.empty (l.map (·.1)) (i - 1 : Nat)).toList (rdOf ByteArray.empty (l.map (·.1)) i).toList = true := by
  intro i h0 hi
  have hi' : i < l.length := by simpa using hi
  have e1 := key_rd (l.map (·.1)) (i - 1) (by simp; omega)
  have e2 := key_rd (l.map (·.1)) i hi
  rw [List.getElem?_eq_getElem (by simp; omega), List.getElem_map] at e1
  rw [List.getElem?_eq_getElem hi, List.getElem_map] at e2
  rw [← Option.some.inj e1, ← Option.some.inj e2]
  exact (List.pairwise_iff_getElem.1 h) (i - 1) i (by omega) hi' (by omega)
/-- Two objects' sum; two arrays'; two texts'. -/
def sumM (a b : V) : V := ⟨6, 0, ⟨#[]⟩, [], (foldKV (kv a) (kv b)).map (·.1), (foldKV (kv a) (kv b)).map (·.2)⟩
def catV (a b : V) : V := ⟨5, 0, ⟨#[]⟩, a.f3 ++ b.f3, [], []⟩
def txtV (a b : V) : V := ⟨4, 0, a.f2 ++ b.f2, [], [], []⟩
theorem WL.h3 {x : V} (h : WL x) : ∀ y ∈ x.f3, WL y := by cases h; assumption
theorem WL.h5 {x : V} (h : WL x) : ∀ y ∈ x.f5, WL y := by cases h; assumption
theorem sz_h2 {x : V} (h : Sz x) : x.f2.size ≤ 9223372036854775807 := by cases h; assumption
theorem sz_h3 {x : V} (h : Sz x) : ∀ y ∈ x.f3, Sz y := by cases h; assumption
theorem sz_h4 {x : V} (h : Sz x) : ∀ s ∈ x.f4, s.size ≤ 9223372036854775807 := by cases h; assumption
theorem sz_h5 {x : V} (h : Sz x) : ∀ y ∈ x.f5, Sz y := by cases h; assumption
theorem kv_mem {x : V} {q : ByteArray × V} (h : q ∈ kv x) : q.1 ∈ x.f4 ∧ q.2 ∈ x.f5 := by
  obtain ⟨p1, p2⟩ := q
  exact List.of_mem_zip h
theorem wl_sumM {a b : V} (ha : WL a) (hb : WL b) (hn : a.f4.length + b.f4.length ≤ 1000000) : WL (sumM a b) := by
  have hl : (foldKV (kv a) (kv b)).length ≤ 1000000 := by
    have h1 := fold_len (kv b) (kv a)
    have h2 : (kv a).length ≤ a.f4.length := by unfold kv; rw [List.length_zip]; omega
    have h3 : (kv b).length ≤ b.f4.length := by unfold kv; rw [List.length_zip]; omega
    omega
  refine .mk _ ?_ (show c2B 0 = true by decide) (by simp [sumM]) (by simpa [sumM] using hl) (rise_keys (fold_rise _ (kv_rise ha))) (fun y hy => by cases hy) (fun y hy => ?_)
  · simp [sumM, c1B]
  · obtain ⟨q, hq, rfl⟩ := List.mem_map.1 hy
    rcases fold_mem _ hq with h | h
    · exact ha.h5 _ (kv_mem h).2
    · exact hb.h5 _ (kv_mem h).2
theorem sz_sumM {a b : V} (ha : Sz a) (hb : Sz b) : Sz (sumM a b) := by
  refine .mk _ (show (0 : Nat) ≤ 9223372036854775807 by omega) (fun s hs => ?_) (fun y hy => by cases hy) (fun y hy => ?_)
  · obtain ⟨q, hq, rfl⟩ := List.mem_map.1 hs
    rcases fold_mem _ hq with h | h
    · exact (sz_h4 ha) _ (kv_mem h).1
    · exact (sz_h4 hb) _ (kv_mem h).1
  · obtain ⟨q, hq, rfl⟩ := List.mem_map.1 hy
    rcases fold_mem _ hq with h | h
    · exact (sz_h5 ha) _ (kv_mem h).2
    · exact (sz_h5 hb) _ (kv_mem h).2
theorem wl_catV {a b : V} (ha : WL a) (hb : WL b) (hn : a.f3.length + b.f3.length ≤ 1000000) : WL (catV a b) := by
  refine .mk _ (by simp [catV, c1B]) (show c2B 0 = true by decide) (by simpa [catV] using hn) (by simp [catV]) (fun i _ h => by simp [catV] at h) (fun y hy => ?_) (fun y hy => by cases hy)
  rcases List.mem_append.1 hy with h | h
  · exact ha.h3 _ h
  · exact hb.h3 _ h
theorem sz_catV {a b : V} (ha : Sz a) (hb : Sz b) : Sz (catV a b) := by
  refine .mk _ (show (0 : Nat) ≤ 9223372036854775807 by omega) (fun s hs => by cases hs) (fun y hy => ?_) (fun y hy => by cases hy)
  rcases List.mem_append.1 hy with h | h
  · exact (sz_h3 ha) _ h
  · exact (sz_h3 hb) _ h
theorem wl_txtV (a b : V) : WL (txtV a b) :=
  .mk _ (by simp [txtV, c1B]) (show c2B 0 = true by decide) (by simp [txtV]) (by simp [txtV]) (fun i _ h => by simp [txtV] at h) (fun y hy => by cases hy) (fun y hy => by cases hy)
theorem sz_txtV {a b : V} (h : a.f2.size + b.f2.size ≤ 9223372036854775807) : Sz (txtV a b) :=
  .mk _ (by simpa [txtV, ByteArray.size_append] using h) (fun s hs => by cases hs) (fun y hy => by cases hy) (fun y hy => by cases hy)
theorem map_eq {x : V} (hx : WL x) (h0 : x.f0 = 6) : x = ⟨6, 0, ⟨#[]⟩, [], x.f4, x.f5⟩ := by
  have hs := wf_shape hx
  obtain ⟨f0, f1, f2, f3, f4, f5⟩ := x
  obtain rfl : f0 = 6 := h0
  obtain rfl : f1 = 0 := hs.1 (by show (6 : Int) ≠ 3; omega)
  obtain rfl : f2 = ⟨#[]⟩ := hs.2.1 (by show (6 : Int) ≠ 4; omega)
  obtain rfl : f3 = [] := hs.2.2.1 (by show (6 : Int) ≠ 5; omega)
  rfl
theorem list_eq {x : V} (hx : WL x) (h0 : x.f0 = 5) : x = ⟨5, 0, ⟨#[]⟩, x.f3, [], []⟩ := by
  have hs := wf_shape hx
  obtain ⟨f0, f1, f2, f3, f4, f5⟩ := x
  obtain rfl : f0 = 5 := h0
  obtain rfl : f1 = 0 := hs.1 (by show (5 : Int) ≠ 3; omega)
  obtain rfl : f2 = ⟨#[]⟩ := hs.2.1 (by show (5 : Int) ≠ 4; omega)
  obtain ⟨rfl, rfl⟩ : f4 = [] ∧ f5 = [] := hs.2.2.2 (by show (5 : Int) ≠ 6; omega)
  rfl
theorem sumM_nil_l {a b : V} (hb : WL b) (h0 : b.f0 = 6) (he : a.f4 = []) : sumM a b = b := by
  have hf := (wf_facts hb).2.2.2
  refine Eq.trans ?_ (map_eq hb h0).symm
  have e : kv a = [] := by unfold kv; rw [he]; rfl
  unfold sumM
  rw [e, fold_end _ _ (by simpa using kv_rise hb), List.nil_append, kv_keys hf, kv_vals hf]
theorem sumM_nil_r {a b : V} (ha : WL a) (h0 : a.f0 = 6) (he : b.f4 = []) : sumM a b = a := by
  have hf := (wf_facts ha).2.2.2
  refine Eq.trans ?_ (map_eq ha h0).symm
  have e : kv b = [] := by unfold kv; rw [he]; rfl
  unfold sumM
  rw [e, fold_end _ _ (by simpa using kv_rise ha), List.append_nil, kv_keys hf, kv_vals hf]
theorem catV_nil_l {a b : V} (hb : WL b) (h0 : b.f0 = 5) (he : a.f3 = []) : catV a b = b := by
  rw [list_eq hb h0]; simp [catV, he]
theorem catV_nil_r {a b : V} (ha : WL a) (h0 : a.f0 = 5) (he : b.f3 = []) : catV a b = a := by
  rw [list_eq ha h0]; simp [catV, he]
theorem kv_at {x : V} {q : ByteArray × V} (h : q ∈ kv x) : ∃ i : Nat, x.f4[i]? = some q.1 ∧ x.f5[i]? = some q.2 := by
  obtain ⟨i, hi⟩ := List.getElem?_of_mem h
  unfold kv at hi
  rw [List.getElem?_zip_eq_some] at hi
  exact ⟨i, hi⟩
/-- The Go value of two objects' sum. -/
theorem G_sumM {n1 n2 k B : Nat} {w : World} {a b : V} {es e1 e2 : List MapEntry} (ha : WL a) (hb : WL b) (hk1 : (e1.map (·.key)).Perm (a.f4.map Value.string)) (hk2 : (e2.map (·.key)).Perm (b.f4.map Value.string))
    (he1 : ∀ (i : Nat) (s : ByteArray) (y : V) (e : MapEntry), a.f4[i]? = some s → a.f5[i]? = some y → e ∈ e1 → e.key = .string s → G n1 w y e.val)
    (he2 : ∀ (i : Nat) (s : ByteArray) (y : V) (e : MapEntry), b.f4[i]? = some s → b.f5[i]? = some y → e ∈ e2 → e.key = .string s → G n2 w y e.val)
    (hw : w.heap[B]? = some (.map es.toArray k)) (hst : MapKept.Stamped es.toArray k) (hks : ∀ e ∈ es, ∃ t : ByteArray, e.key = .string t ∧ t.size ≤ 9223372036854775807) (hM : Merges es e1 e2) :
    G 0 w (sumM a b) (.iface 88 (.map (some B))) := by
  have fa := (wf_facts ha).2.2.2
  have fb := (wf_facts hb).2.2.2
  have rb := kv_rise hb
  have rs := fold_rise (kv b) (kv_rise ha)
  have hin : ∀ {es : List MapEntry} {l : List ByteArray}, (es.map (·.key)).Perm (l.map Value.string) → ∀ s, (∃ e ∈ es, e.key = .string s) ↔ s ∈ l := by
    intro es l hp s
    have h := hp.mem_iff (a := Value.string s)
    rw [List.mem_map, List.mem_map] at h
    rw [h]
    exact ⟨fun ⟨t, h1, h2⟩ => by cases h2; exact h1, fun h1 => ⟨s, h1, rfl⟩⟩
  have hkm : ∀ {x : V}, x.f4.length = x.f5.length → ∀ s, s ∈ x.f4 ↔ getKV (kv x) s ≠ none := by
    intro x hx s
    rw [← kv_keys hx, List.mem_map, Ne, get_none]
    constructor
    · rintro ⟨q, h1, h2⟩ h
      exact h q h1 h2
    · intro h
      refine Classical.byContradiction fun h2 => h fun q hq e => h2 ⟨q, hq, e⟩
  have hmem : ∀ s, s ∈ (sumM a b).f4 ↔ ∃ e ∈ es, e.key = .string s := by
    intro s
    have h1 := hM.1 s
    rw [h1, hin hk1 s, hin hk2 s, hkm fa s, hkm fb s]
    have h2 := fold_get s (kv b) (kv a) rb
    show s ∈ (foldKV (kv a) (kv b)).map (·.1) ↔ _
    have h3 : s ∈ (foldKV (kv a) (kv b)).map (·.1) ↔ getKV (foldKV (kv a) (kv b)) s ≠ none := by
      rw [List.mem_map, Ne, get_none]
      constructor
      · rintro ⟨q, h1, h2⟩ h
        exact h q h1 h2
      · intro h
        refine Classical.byContradiction fun h2 => h fun q hq e => h2 ⟨q, hq, e⟩
    rw [h3, h2]
    cases getKV (kv b) s <;> cases getKV (kv a) s <;> simp
  have hperm : (es.map (·.key)).Perm ((sumM a b).f4.map Value.string) := by
    refine (List.perm_ext_iff_of_nodup ?_ ?_).2 fun v => ?_
    · have h := ((MapKept.stamped_iff es.toArray k).1 hst).2.2
      unfold List.Nodup
      rw [List.pairwise_map]
      simpa using h
    · unfold List.Nodup
      rw [List.pairwise_map]
      show List.Pairwise _ ((foldKV (kv a) (kv b)).map (·.1))
      rw [List.pairwise_map]
      refine List.Pairwise.imp (fun {p q} h e => ?_) rs
      have e2 : p.1 = q.1 := Value.string.inj e
      rw [e2, bl_self] at h
      cases h
    · rw [List.mem_map, List.mem_map]
      constructor
      · rintro ⟨e, h1, rfl⟩
        obtain ⟨t, e2, _⟩ := hks e h1
        exact ⟨t, (hmem t).2 ⟨e, h1, e2⟩, e2.symm⟩
      · rintro ⟨s, h1, rfl⟩
        obtain ⟨e, h2, h3⟩ := (hmem s).1 h1
        exact ⟨e, h2, h3⟩
  refine .map _ rfl B es k (Nat.zero_le _) (by have := hperm.length_eq; simpa using this) hw hst hperm ?_
  intro i s y e hs hy he hke
  have hq : (s, y) ∈ foldKV (kv a) (kv b) := by
    have h1 : ((foldKV (kv a) (kv b)).map (·.1))[i]? = some s := hs
    have h2 : ((foldKV (kv a) (kv b)).map (·.2))[i]? = some y := hy
    rw [List.getElem?_map] at h1 h2
    cases hc : (foldKV (kv a) (kv b))[i]? with
    | none => rw [hc] at h1; cases h1
    | some q =>
      rw [hc] at h1 h2
      have e1 : q.1 = s := Option.some.inj h1
      have e2 : q.2 = y := Option.some.inj h2
      have := List.mem_of_getElem? hc
      rw [← e1, ← e2]
      exact this
  have hg := mem_get rs hq
  rw [fold_get s _ _ rb] at hg
  have hv := hM.2 e he s hke
  cases hb0 : getKV (kv b) s with
  | some y2 =>
    rw [hb0] at hg
    obtain rfl : y2 = y := by simpa using hg
    have hm := get_mem hb0
    obtain ⟨j, j1, j2⟩ := kv_at hm
    obtain ⟨d, hd, hkd⟩ := (hin hk2 s).2 (kv_mem hm).1
    rw [hv.1 d hd hkd]
    exact (he2 j s y2 d j1 j2 hd hkd).mono (Nat.zero_le _)
  | none =>
    rw [hb0] at hg
    have hg : getKV (kv a) s = some y := by simpa using hg
    have hm := get_mem hg
    obtain ⟨j, j1, j2⟩ := kv_at hm
    obtain ⟨d, hd, hkd⟩ := (hin hk1 s).2 (kv_mem hm).1
    have hno : ∀ d ∈ e2, d.key ≠ .string s := fun d hd hkd => ((hkm fb s).1 ((hin hk2 s).1 ⟨d, hd, hkd⟩)) hb0
    rw [hv.2 hno d hd hkd]
    exact (he1 j s y d j1 j2 hd hkd).mono (Nat.zero_le _)
/-- The Go value of two arrays' sum. -/
theorem G_catV {n1 n2 B : Nat} {w : World} {a b : V} {l1 l2 : List Value} (hl1 : l1.length = a.f3.length) (hl2 : l2.length = b.f3.length) (he1 : ∀ (i : Nat) (y : V) (v : Value), a.f3[i]? = some y → l1[i]? = some v → G n1 w y v)
    (he2 : ∀ (i : Nat) (y : V) (v : Value), b.f3[i]? = some y → l2[i]? = some v → G n2 w y v) (hw : w.heap[B]? = some (.cells (l1 ++ l2).toArray 20 (0, 0))) :
    G 0 w (catV a b) (.iface 85 (.slice (some ⟨B, 0, none⟩) (l1.length + l2.length) (l1.length + l2.length))) := by
  have hlen : (catV a b).f3.length = l1.length + l2.length := by simp [catV, hl1, hl2]
  rw [← hlen]
  refine .list _ rfl B (l1 ++ l2) (Nat.zero_le _) (by simp [catV, hl1, hl2]) hw ?_
  intro i y v hy hv
  have hy : (a.f3 ++ b.f3)[i]? = some y := hy
  by_cases c : i < l1.length
  · rw [List.getElem?_append_left c] at hv
    rw [List.getElem?_append_left (by omega)] at hy
    exact (he1 i y v hy hv).mono (Nat.zero_le _)
  · rw [List.getElem?_append_right (by omega)] at hv
    rw [List.getElem?_append_right (by omega), ← hl1] at hy
    exact (he2 _ y v hy hv).mono (Nat.zero_le _)
end Go.Proofs.YtdaiodiafahkkaaGreatDoor.NumA
/-
gojq's sum at two arrays, two texts, two objects.
-/
set_option linter.unusedSimpArgs false
set_option linter.unusedVariables false
namespace Go.Proofs.YtdaiodiafahkkaaGreatDoor.NumA
open Go.RowKit Go.Lib Go.Proofs.YtdaiodiafahkkaaGreatDoor.ValA Go.Proofs.YtdaiodiafahkkaaGreatDoor.FloH Go.Proofs.YtdaiodiafahkkaaGreatDoorW.PrintWords Go.Proofs.YtdaiodiafahkkaaGreatDoorW.PrintLast Go.Proofs.YtdaiodiafahkkaaGreatDoorW.PrintMore Go.Proofs.YtdaiodiafahkkaaGreatDoor.PzzFits1
theorem zz_add_gen (l r : Value) (Q : Ending → World → Prop) (w : World) (HB : Calls Tryz.prog 90 #[l, r, Value.func (Fn.func 91) #[] #[], Value.func (Fn.func 94) #[] #[], Value.func (Fn.func 95) #[] #[], Value.func (Fn.func 96) #[] #[], Value.func (Fn.func 97) #[] #[], Value.func (Fn.func 98) #[] #[], Value.func (Fn.func 100) #[] #[]] w fun e w' => ∃ v, e = .returned v ∧ Q e w') : Calls Tryz.prog 43 #[l, r] w Q := by
  refine Calls.mono (R := fun e w' => ∃ v, e = .returned v ∧ Q e w') ?_ (fun _ _ ⟨_, _, h⟩ => h)
  have H := Lib.hid HB
  clear HB
  have H1 : Hid (Calls Tryz.prog 62 #[.nilIface, l, r] w (fun e w' => ∃ v, e = .returned v ∧ Q e w')) := by
    refine Lib.hid ?_
    go_enter Tryz.func62, Tryz.ntmps62
    go_wp2_with fail
    refine H.out.mono ?_
    rintro e w1 ⟨v, rfl, hq⟩
    have HB := Lib.hid hq; clear hq
    go_wp2_with fail
    go_ret
    exact ⟨_, rfl, HB.out⟩
  clear H
  go_enter Tryz.func43, Tryz.ntmps43
  go_wp2_with fail
  refine H1.out.mono ?_
  rintro e w1 ⟨v, rfl, hq⟩
  have HB := Lib.hid hq; clear hq
  go_wp2_with fail
  go_ret
  exact ⟨_, rfl, HB.out⟩
theorem add_l0 (A B : Option Addr) (m : Nat) (w : World) : Calls Tryz.prog 97 #[.slice A 0 0, .slice B m m] w (Gv (.iface 85 (.slice B m m)) w) := by
  go_enter Tryz.func97, Tryz.ntmps97
  go_wp2_with fail
  go_ret
  exact ⟨rfl, Below.refl _ _⟩
theorem add_l1 (A B : Option Addr) (n : Nat) (hn : 0 < n) (w : World) : Calls Tryz.prog 97 #[.slice A n n, .slice B 0 0] w (Gv (.iface 85 (.slice A n n)) w) := by
  have f1 : ((n : Int) == 0) = false := by simp; omega
  have f3 : (n == 0) = false := by simp; omega
  clear hn
  go_enter Tryz.func97, Tryz.ntmps97
  go_wp2_with fail
  go_ret
  exact ⟨rfl, Below.refl _ _⟩
theorem len_map {w : World} {b c : Nat} {es : List MapEntry} {l : List ByteArray} (hb : w.heap[b]? = some (.map es.toArray c)) (hst : MapKept.Stamped es.toArray c) (hn : es.length ≤ 1000000) (hk : KeysAre es l) (ty : TypeId) : (Builtin.len_ #[88] ty #[.map (some b)]).run Tryz.prog w = .ok (.int .i64 (es.length : Int)) w := by
  obtain ⟨D, hD⟩ : ∃ D, IsD es D := ⟨_, rfl⟩
  have := (owns_of hb hst hn hk hD).len Tryz.underlying88 ty
  rwa [size_D hD] at this
theorem add_m0 (b c : Nat) (w : World) (h : ∀ ty, (Builtin.len_ #[88] ty #[.map (some b)]).run Tryz.prog w = .ok (.int .i64 0) w) : Calls Tryz.prog 98 #[.map (some b), .map (some c)] w (Gv (.iface 88 (.map (some c))) w) := by
  go_enter Tryz.func98, Tryz.ntmps98
  go_wp2_with fail
  go_ret
  exact ⟨rfl, Below.refl _ _⟩
theorem add_m1 (b c n : Nat) (hn : 0 < n) (w : World) (h : ∀ ty, (Builtin.len_ #[88] ty #[.map (some b)]).run Tryz.prog w = .ok (.int .i64 (n : Int)) w) (h2 : ∀ ty, (Builtin.len_ #[88] ty #[.map (some c)]).run Tryz.prog w = .ok (.int .i64 0) w) : Calls Tryz.prog 98 #[.map (some b), .map (some c)] w (Gv (.iface 88 (.map (some b))) w) := by
  have f1 : ((n : Int) == 0) = false := by simp; omega
  have f3 : (n == 0) = false := by simp; omega
  clear hn
  go_enter Tryz.func98, Tryz.ntmps98
  go_wp2_with fail
  go_ret
  exact ⟨rfl, Below.refl _ _⟩
/-- A sum whose Go value is x's. -/
def SumIs (x : V) (w : World) (e : Ending) (w' : World) : Prop := ∃ r k, e = .returned r ∧ G k w' x r ∧ Below w.heap.size w w'
theorem zz_add_ll {a b : V} (ha : WL a) (hb : WL b) (ka : a.f0 = 5) (kb : b.f0 = 5) (hn : a.f3.length ≤ 1000000) (hm : b.f3.length ≤ 1000000) {n m : Nat} {w : World} {g h : Value} (Ga : G n w a g) (Gb : G m w b h) : Calls Tryz.prog 43 #[g, h] w (SumIs (catV a b) w) := by
  have Ga0 := Ga
  have Gb0 := Gb
  obtain ⟨p, l1, rfl, _, hl1, hw1, he1⟩ := Ga.list_inv ka
  obtain ⟨q, l2, rfl, _, hl2, hw2, he2⟩ := Gb.list_inv kb
  refine zz_add_gen _ _ _ w (bin_add_ll _ _ _ _ _ w ?_)
  by_cases c1 : a.f3.length = 0
  · rw [c1]
    refine (add_l0 _ _ _ w).mono ?_
    rintro e w' ⟨rfl, hb'⟩
    exact ⟨_, rfl, _, m, rfl, by rw [catV_nil_l hb kb (List.length_eq_zero_iff.1 c1)]; exact Gb0.keepB hb', hb'⟩
  by_cases c2 : b.f3.length = 0
  · rw [c2]
    refine (add_l1 _ _ _ (by omega) w).mono ?_
    rintro e w' ⟨rfl, hb'⟩
    exact ⟨_, rfl, _, n, rfl, by rw [catV_nil_r ha ka (List.length_eq_zero_iff.1 c2)]; exact Ga0.keepB hb', hb'⟩
  have o1 : ∀ v ∈ l1, v.oneCell' = true := fun v hv => by
    obtain ⟨i, hi⟩ := List.getElem?_of_mem hv
    have hi2 := (List.getElem?_eq_some_iff.1 hi).1
    exact (he1 i _ v (List.getElem?_eq_getElem (by omega)) hi).one
  have o2 : ∀ v ∈ l2, v.oneCell' = true := fun v hv => by
    obtain ⟨i, hi⟩ := List.getElem?_of_mem hv
    have hi2 := (List.getElem?_eq_some_iff.1 hi).1
    exact (he2 i _ v (List.getElem?_eq_getElem (by omega)) hi).one
  refine (add_lists w p q _ _ l1 l2 hl1 hl2 (by omega) (by omega) (by omega) (by omega) hw1 hw2 o1 o2).mono ?_
  rintro e w' ⟨rfl, hw, hb'⟩
  exact ⟨_, rfl, _, 0, rfl, G_catV hl1 hl2 (fun i y v hy hv => (he1 i y v hy hv).keepB hb') (fun i y v hy hv => (he2 i y v hy hv).keepB hb') hw, hb'⟩
theorem zz_add_mm {a b : V} (ha : WL a) (hb : WL b) (za : Sz a) (zb : Sz b) (ka : a.f0 = 6) (kb : b.f0 = 6) (hn : a.f4.length ≤ 1000000) (hm : b.f4.length ≤ 1000000) {n m : Nat} {w : World} {g h : Value} (Ga : G n w a g) (Gb : G m w b h) : Calls Tryz.prog 43 #[g, h] w (SumIs (sumM a b) w) := by
  have Ga0 := Ga
  have Gb0 := Gb
  obtain ⟨p, e1, c1, rfl, _, hl1, hw1, hs1, hp1, he1⟩ := Ga.map_inv ka
  obtain ⟨q, e2, c2, rfl, _, hl2, hw2, hs2, hp2, he2⟩ := Gb.map_inv kb
  have K1 : KeysAre e1 a.f4 := ⟨hl1, hp1, sz_h4 za⟩
  have K2 : KeysAre e2 b.f4 := ⟨hl2, hp2, sz_h4 zb⟩
  have t1 := fun ty => len_map hw1 hs1 (by omega) K1 ty
  have t2 := fun ty => len_map hw2 hs2 (by omega) K2 ty
  refine zz_add_gen _ _ _ w (bin_add_mm _ _ _ w ?_)
  by_cases d1 : e1.length = 0
  · rw [d1] at t1
    refine (add_m0 p q w t1).mono ?_
    rintro e w' ⟨rfl, hb'⟩
    exact ⟨_, rfl, _, m, rfl, by rw [sumM_nil_l hb kb (List.length_eq_zero_iff.1 (by omega))]; exact Gb0.keepB hb', hb'⟩
  by_cases d2 : e2.length = 0
  · rw [d2] at t2
    refine (add_m1 p q _ (by omega) w t1 t2).mono ?_
    rintro e w' ⟨rfl, hb'⟩
    exact ⟨_, rfl, _, n, rfl, by rw [sumM_nil_r ha ka (List.length_eq_zero_iff.1 (by omega))]; exact Ga0.keepB hb', hb'⟩
  refine (add_maps w p q _ _ c1 c2 e1 e2 _ _ rfl rfl (by omega) (by omega) (by omega) (by omega) hw1 hw2 hs1 hs2 K1 K2).mono ?_
  rintro e w' ⟨es, k, rfl, hw, hst, hks, hM, hb'⟩
  exact ⟨_, rfl, _, 0, rfl, G_sumM ha hb hp1 hp2 (fun i s y e h1 h2 h3 h4 => (he1 i s y e h1 h2 h3 h4).keepB hb') (fun i s y e h1 h2 h3 h4 => (he2 i s y e h1 h2 h3 h4).keepB hb') hw hst hks hM, hb'⟩
theorem zz_add_ss {a b : V} (ka : a.f0 = 4) (kb : b.f0 = 4) (hs : a.f2.size + b.f2.size ≤ 9223372036854775807) {n m : Nat} {w : World} {g h : Value} (Ga : G n w a g) (Gb : G m w b h) : Calls Tryz.prog 43 #[g, h] w (SumIs (txtV a b) w) := by
  obtain rfl := Ga.flat_inv (by omega)
  obtain rfl := Gb.flat_inv (by omega)
  have e1 : ∀ x : V, x.f0 = 4 → fg x.f0 x.f1 x.f2 = .iface 9 (.string x.f2) := fun x hx => by rw [hx]; rfl
  rw [e1 a ka, e1 b kb]
  refine zz_add_gen _ _ _ w (bin_add_ss _ _ _ w ?_)
  refine (add_strs _ _ hs w).mono ?_
  rintro e w' ⟨rfl, hb'⟩
  exact ⟨_, rfl, _, 0, rfl, .flat (txtV a b) (by show (4 : Int) ≤ 4; omega), hb'⟩
end Go.Proofs.YtdaiodiafahkkaaGreatDoor.NumA
/-
Results that stand in memory while blocks are laid and written.
-/
set_option linter.unusedSimpArgs false
set_option linter.unusedVariables false
namespace Go.Proofs.YtdaiodiafahkkaaGreatDoor.ValA
open Go.RowKit Go.Lib Go.Proofs.YtdaiodiafahkkaaGreatDoorW.PrintWords Go.Proofs.YtdaiodiafahkkaaGreatDoorW.PrintLast Go.Proofs.YtdaiodiafahkkaaGreatDoorW.PrintMore Go.Proofs.YtdaiodiafahkkaaGreatDoor.PzzFits1 Go.Proofs.YtdaiodiafahkkaaGreatDoor.NumA
/-- cs is x as a result, in blocks that are none of L's. -/
def ResAt (L : List (Nat × Array Value × TypeId)) (x : V) (cs : Array Value) (w : World) : Prop :=
  ∃ (B3 : Option Addr) (d3 : Nat) (B4 : Option Addr) (d4 : Nat) (B5 : Option Addr) (d5 : Nat) (base : Nat) (ok : Nat → Prop), cs = #[.int .i64 x.f0, .int .i64 x.f1, .string x.f2, .slice B3 x.f3.length d3, .slice B4 x.f4.length d4, .slice B5 x.f5.length d5, .int .i64 0] ∧
    k26.M w base ok x [.int .i64 x.f0, .int .i64 x.f1, .string x.f2, .slice B3 x.f3.length d3, .slice B4 x.f4.length d4, .slice B5 x.f5.length d5] ∧ ∀ k, ok k → k < w.heap.size ∧ ∀ p ∈ L, p.1 ≠ k
/-- And results that stand. -/
def SPR (w : World) (L : List (Nat × Array Value × TypeId)) (rs : List (V × Array Value)) (w' : World) : Prop := SPN w L w' ∧ ∀ r ∈ rs, ResAt L r.1 r.2 w'
theorem ResAt.below {L : List (Nat × Array Value × TypeId)} {x : V} {cs : Array Value} {w w' : World} (h : ResAt L x cs w) (hb : Below w.heap.size w w') : ResAt L x cs w' := by
  obtain ⟨B3, d3, B4, d4, B5, d5, base, ok, h1, h2, h3⟩ := h
  exact ⟨B3, d3, B4, d4, B5, d5, base, ok, h1, Kd.M_below h2 hb, fun k hk => ⟨Nat.lt_of_lt_of_le (h3 k hk).1 hb.size, (h3 k hk).2⟩⟩
theorem SPR.below {w w1 w2 : World} {L : List (Nat × Array Value × TypeId)} {rs : List (V × Array Value)} (h : SPR w L rs w1) (hb : Below w1.heap.size w1 w2) : SPR w L rs w2 := ⟨h.1.below hb, fun r hr => (h.2 r hr).below hb⟩
theorem SPR.drew {w w1 : World} {L : List (Nat × Array Value × TypeId)} {rs : List (V × Array Value)} (h : SPR w L rs w1) : SPR w L rs w1.drew := h.below (pw_below_drewN (Below.refl _ _) 1)
theorem SPR.bel {w w1 : World} {L : List (Nat × Array Value × TypeId)} {rs : List (V × Array Value)} (h : SPR w L rs w1) : Below w.heap.size w w1 := h.1.1.1
theorem SPR.get {w w1 : World} {L : List (Nat × Array Value × TypeId)} {rs : List (V × Array Value)} (h : SPR w L rs w1) (i : Nat) {p : Nat × Array Value × TypeId} (hp : L[i]? = some p) : w1.heap[p.1]? = some (.cells p.2.1 p.2.2 (0, 0)) := h.1.1.get i hp
theorem SPR.start {w w1 : World} {L : List (Nat × Array Value × TypeId)} (h : SPN w L w1) : SPR w L [] w1 := ⟨h, fun r hr => by cases hr⟩
/-- A call gives one result more. -/
theorem SPR.res {w w1 : World} {L : List (Nat × Array Value × TypeId)} {rs : List (V × Array Value)} (h : SPR w L rs w1) {f : FuncId} {xs : Array Value} {x : V} (HC : Calls Tryz.prog f xs w1 (ResIs x w1)) :
    Calls Tryz.prog f xs w1 fun e w' => ∃ cs, e = .returned (.agg cs) ∧ SPR w L (rs ++ [(x, cs)]) w' := by
  refine HC.mono ?_
  rintro e w2 ⟨B3, d3, B4, d4, B5, d5, rfl, hM, hb⟩
  refine ⟨_, rfl, h.1.below hb, fun r hr => ?_⟩
  rcases List.mem_append.1 hr with hr | hr
  · exact (h.2 r hr).below hb
  · obtain rfl := List.mem_singleton.1 hr
    refine ⟨B3, d3, B4, d4, B5, d5, _, _, rfl, k26.M_bound hM, fun k hk => ⟨hk.2.2.1, fun p hp e => ?_⟩⟩
    have h1 := lt_of_heap (h.1.1.2 p hp)
    have h2 : w1.heap.size ≤ k := hk.1
    omega
theorem SPR.more {w w1 : World} {L : List (Nat × Array Value × TypeId)} {rs : List (V × Array Value)} (h : SPR w L rs w1) (c : Array Value) (t : TypeId) : SPR w (L ++ [(w1.heap.size, c, t)]) rs (w1.alloc (.cells c t)) := by
  refine ⟨h.1.more c t, fun r hr => ?_⟩
  obtain ⟨B3, d3, B4, d4, B5, d5, base, ok, h1, h2, h3⟩ := (h.2 r hr).below ((Below.refl _ w1).alloc (Nat.le_refl _) (.cells c t))
  obtain ⟨_, _, _, _, _, _, _, _, _, _, _⟩ := h.2 r hr
  obtain ⟨C3, e3, C4, e4, C5, e5, base', ok', i1, i2, i3⟩ := h.2 r hr
  refine ⟨C3, e3, C4, e4, C5, e5, base', ok', i1, Kd.M_below i2 ((Below.refl _ w1).alloc (Nat.le_refl _) (.cells c t)), fun k hk => ⟨by rw [World.size_alloc]; have := (i3 k hk).1; omega, fun p hp => ?_⟩⟩
  rcases List.mem_append.1 hp with hp | hp
  · exact (i3 k hk).2 p hp
  · obtain rfl := List.mem_singleton.1 hp
    have := (i3 k hk).1
    show w1.heap.size ≠ k
    omega
theorem SPR.put {w w1 : World} {L : List (Nat × Array Value × TypeId)} {rs : List (V × Array Value)} (h : SPR w L rs w1) (i : Nat) {R : Nat} {c0 c1 c2 c3 c4 c5 c6 : Value} {t : TypeId} (hi : L[i]? = some (R, #[c0, c1, c2, c3, c4, c5, c6], t)) (v0 v1 v2 v3 v4 v5 v6 : Value) :
    SPR w (L.set i (R, #[v0, v1, v2, v3, v4, v5, v6], t)) rs (((((((w1.setCell ⟨R, 0, none⟩ v0).setCell ⟨R, 1, none⟩ v1).setCell ⟨R, 2, none⟩ v2).setCell ⟨R, 3, none⟩ v3).setCell ⟨R, 4, none⟩ v4).setCell ⟨R, 5, none⟩ v5).setCell ⟨R, 6, none⟩ v6) := by
  have hm := List.mem_of_getElem? hi
  have hgr := sev_grown w1 R v0 v1 v2 v3 v4 v5 v6
  refine ⟨h.1.put i hi v0 v1 v2 v3 v4 v5 v6, fun r hr => ?_⟩
  obtain ⟨C3, e3, C4, e4, C5, e5, base', ok', i1, i2, i3⟩ := h.2 r hr
  refine ⟨C3, e3, C4, e4, C5, e5, base', ok', i1, Kd.M_grown i2 hgr (fun k hk e => (i3 k hk).2 _ hm (by cases e; rfl)), fun k hk => ⟨Nat.lt_of_lt_of_le (i3 k hk).1 hgr.size, fun p hp => ?_⟩⟩
  rcases List.mem_or_eq_of_mem_set hp with hp | rfl
  · exact (i3 k hk).2 p hp
  · have := (i3 k hk).2 _ hm
    exact this
theorem ResAt.perm {L L' : List (Nat × Array Value × TypeId)} (hs : ∀ p ∈ L', p ∈ L) {x : V} {cs : Array Value} {w : World} (h : ResAt L x cs w) : ResAt L' x cs w := by
  obtain ⟨C3, e3, C4, e4, C5, e5, base', ok', i1, i2, i3⟩ := h
  exact ⟨C3, e3, C4, e4, C5, e5, base', ok', i1, i2, fun k hk => ⟨(i3 k hk).1, fun p hp => (i3 k hk).2 p (hs p hp)⟩⟩
/-- The last two blocks exchanged. -/
theorem SPR.swap {w w1 : World} {L : List (Nat × Array Value × TypeId)} {x y : Nat × Array Value × TypeId} {rs : List (V × Array Value)} (h : SPR w (L ++ [x] ++ [y]) rs w1) : SPR w (L ++ [y] ++ [x]) rs w1 := by
  have hp : (L ++ [y] ++ [x]).Perm (L ++ [x] ++ [y]) := by
    rw [List.append_assoc, List.append_assoc]
    exact List.Perm.append_left L (List.Perm.swap x y [])
  have hs : ∀ p ∈ L ++ [y] ++ [x], p ∈ L ++ [x] ++ [y] := fun p hm => hp.mem_iff.1 hm
  exact ⟨⟨⟨h.1.1.1, fun p hm => h.1.1.2 p (hs p hm)⟩, (hp.map (·.1)).nodup_iff.2 h.1.2.1, fun p hm => h.1.2.2 p (hs p hm)⟩, fun r hr => (h.2 r hr).perm hs⟩
/-- A result's cells, and what toGo gives of it. -/
theorem SPR.cells {w w1 : World} {L : List (Nat × Array Value × TypeId)} {rs : List (V × Array Value)} (h : SPR w L rs w1) (i : Nat) {x : V} {cs : Array Value} (hi : rs[i]? = some (x, cs)) :
    ∃ (B3 : Option Addr) (d3 : Nat) (B4 : Option Addr) (d4 : Nat) (B5 : Option Addr) (d5 : Nat), cs = #[.int .i64 x.f0, .int .i64 x.f1, .string x.f2, .slice B3 x.f3.length d3, .slice B4 x.f4.length d4, .slice B5 x.f5.length d5, .int .i64 0] := by
  obtain ⟨C3, e3, C4, e4, C5, e5, _, _, i1, _, _⟩ := h.2 _ (List.mem_of_getElem? hi)
  exact ⟨C3, e3, C4, e4, C5, e5, i1⟩
theorem SPR.held {w w1 : World} {L : List (Nat × Array Value × TypeId)} {rs : List (V × Array Value)} (h : SPR w L rs w1) (i : Nat) {x : V} {B3 : Option Addr} {d3 : Nat} {B4 : Option Addr} {d4 : Nat} {B5 : Option Addr} {d5 : Nat} (hi : rs[i]? = some (x, #[.int .i64 x.f0, .int .i64 x.f1, .string x.f2, .slice B3 x.f3.length d3, .slice B4 x.f4.length d4, .slice B5 x.f5.length d5, .int .i64 0])) :
    k26.K w1 x [.int .i64 x.f0, .int .i64 x.f1, .string x.f2, .slice B3 x.f3.length d3, .slice B4 x.f4.length d4, .slice B5 x.f5.length d5] := by
  obtain ⟨C3, e3, C4, e4, C5, e5, _, _, i1, i2, _⟩ := h.2 _ (List.mem_of_getElem? hi)
  simp only [Array.mk.injEq, List.cons.injEq, Value.slice.injEq, true_and, and_true] at i1
  obtain ⟨⟨rfl, rfl⟩, ⟨rfl, rfl⟩, ⟨rfl, rfl⟩⟩ := i1
  exact k26.K_of_M i2
section
variable {P : Program} {ops : Array Oper} {Q : Exit → Act → World → Prop}
/-- A new block. -/
theorem freshR_ {oi : Oper} {N : Option Tmp} {a : Act} {w w0 : World} {K : Act → World → Prop} {L : List (Nat × Array Value × TypeId)} {rs : List (V × Array Value)} {c : Array Value} {t : TypeId} (hL : SPR w0 L rs w) (hw : Region.wanted oi (yielded ops a.tmps) = true) (hN : oi.dst = N)
    (hrun : (execOp a.eval oi).run P w = .ok (.value (.pointer (some ⟨w.heap.size, 0, none⟩))) (w.alloc (.cells c t))) (h : ∀ R w1, SPR w0 (L ++ [(R, c, t)]) rs w1 → K (a.put N (.pointer (some ⟨R, 0, none⟩))) w1) :
    if Region.wanted oi (yielded ops a.tmps) = true then Oper.wp P oi a w K Q else K (a.put N undef) w := value_ hw hN hrun (h _ _ (hL.more c t))
/-- A result is stored. -/
theorem put7R_ {oi : Oper} {a : Act} {w w0 : World} {K : Act → World → Prop} {L : List (Nat × Array Value × TypeId)} {rs : List (V × Array Value)} {R : Nat} {c0 c1 c2 c3 c4 c5 c6 v0 v1 v2 v3 v4 v5 v6 : Value} {t : TypeId} (hL : SPR w0 L rs w) (i : Nat) (hi : L[i]? = some (R, #[c0, c1, c2, c3, c4, c5, c6], t)) (hw : Region.wanted oi (yielded ops a.tmps) = true) (hN : oi.dst = none)
    (hrun : (execOp a.eval oi).run P w = .ok .skip (((((((w.setCell ⟨R, 0, none⟩ v0).setCell ⟨R, 1, none⟩ v1).setCell ⟨R, 2, none⟩ v2).setCell ⟨R, 3, none⟩ v3).setCell ⟨R, 4, none⟩ v4).setCell ⟨R, 5, none⟩ v5).setCell ⟨R, 6, none⟩ v6)) (h : ∀ w1, SPR w0 (L.set i (R, #[v0, v1, v2, v3, v4, v5, v6], t)) rs w1 → K a w1) :
    if Region.wanted oi (yielded ops a.tmps) = true then Oper.wp P oi a w K Q else K (a.put none undef) w := skip_ hw hN hrun (h _ (hL.put i hi v0 v1 v2 v3 v4 v5 v6))
end
/-- The sum of two arrays or two texts. -/
def joinV (a b : V) : V := if a.f0 = 4 then txtV a b else catV a b
theorem joinV_f0 {a b : V} (h : a.f0 = 4 ∨ a.f0 = 5) : (joinV a b).f0 = a.f0 := by
  unfold joinV
  rcases h with h | h <;> simp [h, txtV, catV]
theorem joinV_f3 {a b : V} (ha : WL a) (hb : WL b) (e : a.f0 = b.f0) (h : a.f0 = 4 ∨ a.f0 = 5) : (joinV a b).f3.length = a.f3.length + b.f3.length := by
  unfold joinV
  rcases h with h | h
  · simp [h, txtV, (wf_shape ha).2.2.1 (by omega), (wf_shape hb).2.2.1 (by omega)]
  · simp [h, catV]
theorem joinV_f2 {a b : V} (ha : WL a) (hb : WL b) (e : a.f0 = b.f0) (h : a.f0 = 4 ∨ a.f0 = 5) : (joinV a b).f2.size = a.f2.size + b.f2.size := by
  unfold joinV
  rcases h with h | h
  · simp [h, txtV, ByteArray.size_append]
  · rw [(wf_shape ha).2.1 (by omega), (wf_shape hb).2.1 (by omega), if_neg (by omega)]
    rfl
theorem joinV_assoc (a b c : V) (e : a.f0 = b.f0) (h : a.f0 = 4 ∨ a.f0 = 5) : joinV (joinV a b) c = joinV a (joinV b c) := by
  unfold joinV
  rcases h with h | h
  · simp [h, ← e, txtV, ByteArray.append_assoc]
  · simp [h, ← e, catV]
theorem wl_joinV {a b : V} (ha : WL a) (hb : WL b) (hn : a.f3.length + b.f3.length ≤ 1000000) : WL (joinV a b) := by
  unfold joinV
  split
  · exact wl_txtV a b
  · exact wl_catV ha hb hn
theorem sz_joinV {a b : V} (ha : Sz a) (hb : Sz b) (hs : a.f2.size + b.f2.size ≤ 9223372036854775807) : Sz (joinV a b) := by
  unfold joinV
  split
  · exact sz_txtV hs
  · exact sz_catV ha hb
theorem zz_join {a b : V} (ha : WL a) (hb : WL b) (e : a.f0 = b.f0) (h : a.f0 = 4 ∨ a.f0 = 5) (hn : a.f3.length ≤ 1000000) (hm : b.f3.length ≤ 1000000) (hs : a.f2.size + b.f2.size ≤ 9223372036854775807) {n m : Nat} {w : World} {g g' : Value} (Ga : G n w a g) (Gb : G m w b g') :
    Calls Tryz.prog 43 #[g, g'] w (SumIs (joinV a b) w) := by
  unfold joinV
  rcases h with h | h
  · rw [if_pos h]; exact zz_add_ss h (by omega) hs Ga Gb
  · rw [if_neg (by omega)]; exact zz_add_ll ha hb h (by omega) hn hm Ga Gb
/-- impl.OpAdd at two arrays or two texts: one result more. -/
theorem opAdd_join (w0 : World) {a b : V} {A3a A4a A5a : Option Addr} {c3a c4a c5a : Nat} {A3b A4b A5b : Option Addr} {c3b c4b c5b : Nat}
    (Ta : ToGo w0 a [.int .i64 a.f0, .int .i64 a.f1, .string a.f2, .slice A3a a.f3.length c3a, .slice A4a a.f4.length c4a, .slice A5a a.f5.length c5a])
    (Tb : ToGo w0 b [.int .i64 b.f0, .int .i64 b.f1, .string b.f2, .slice A3b b.f3.length c3b, .slice A4b b.f4.length c4b, .slice A5b b.f5.length c5b])
    (ha : WL a) (hb : WL b) (za : Sz a) (zb : Sz b) (e : a.f0 = b.f0) (h : a.f0 = 4 ∨ a.f0 = 5) (hn : a.f3.length + b.f3.length ≤ 1000000) (hs : a.f2.size + b.f2.size ≤ 9223372036854775807)
    {w w1 : World} {L : List (Nat × Array Value × TypeId)} {rs : List (V × Array Value)} (hS : SPR w L rs w1) (hbb : Below w0.heap.size w0 w1) :
    Calls Tryz.prog 18 #[.agg #[.int .i64 a.f0, .int .i64 a.f1, .string a.f2, .slice A3a a.f3.length c3a, .slice A4a a.f4.length c4a, .slice A5a a.f5.length c5a], .agg #[.int .i64 b.f0, .int .i64 b.f1, .string b.f2, .slice A3b b.f3.length c3b, .slice A4b b.f4.length c4b, .slice A5b b.f5.length c5b]] w1
      fun e w' => ∃ cs, e = .returned (.agg cs) ∧ SPR w L (rs ++ [(joinV a b, cs)]) w' :=
  hS.res (impl_opAdd w0 a b (joinV a b) _ _ _ _ _ _ _ _ _ _ _ _ _ _ _ _ _ _ _ _ _ _ _ _ Ta Tb (wl_joinV ha hb hn) (sz_joinV za zb hs) (fun g g' n m w Ga Gb => zz_join ha hb e h (by omega) (by omega) hs Ga Gb) w1 hbb)
theorem opAdd_joinE {j a b : V} (hj : j = joinV a b) (w0 : World) {A3a A4a A5a : Option Addr} {c3a c4a c5a : Nat} {A3b A4b A5b : Option Addr} {c3b c4b c5b : Nat}
    (Ta : ToGo w0 a [.int .i64 a.f0, .int .i64 a.f1, .string a.f2, .slice A3a a.f3.length c3a, .slice A4a a.f4.length c4a, .slice A5a a.f5.length c5a])
    (Tb : ToGo w0 b [.int .i64 b.f0, .int .i64 b.f1, .string b.f2, .slice A3b b.f3.length c3b, .slice A4b b.f4.length c4b, .slice A5b b.f5.length c5b])
    (ha : WL a) (hb : WL b) (za : Sz a) (zb : Sz b) (e : a.f0 = b.f0) (h : a.f0 = 4 ∨ a.f0 = 5) (hn : a.f3.length + b.f3.length ≤ 1000000) (hs : a.f2.size + b.f2.size ≤ 9223372036854775807)
    {w w1 : World} {L : List (Nat × Array Value × TypeId)} {rs : List (V × Array Value)} (hS : SPR w L rs w1) (hbb : Below w0.heap.size w0 w1) :
    Calls Tryz.prog 18 #[.agg #[.int .i64 a.f0, .int .i64 a.f1, .string a.f2, .slice A3a a.f3.length c3a, .slice A4a a.f4.length c4a, .slice A5a a.f5.length c5a], .agg #[.int .i64 b.f0, .int .i64 b.f1, .string b.f2, .slice A3b b.f3.length c3b, .slice A4b b.f4.length c4b, .slice A5b b.f5.length c5b]] w1
      fun e w' => ∃ cs, e = .returned (.agg cs) ∧ SPR w L (rs ++ [(j, cs)]) w' := by
  subst hj
  exact opAdd_join w0 Ta Tb ha hb za zb e h hn hs hS hbb
/-- toGo at a result. -/
theorem SPR.toGo {w w1 : World} {L : List (Nat × Array Value × TypeId)} {rs : List (V × Array Value)} (h : SPR w L rs w1) (i : Nat) {x : V} {B3 : Option Addr} {d3 : Nat} {B4 : Option Addr} {d4 : Nat} {B5 : Option Addr} {d5 : Nat} (hi : rs[i]? = some (x, #[.int .i64 x.f0, .int .i64 x.f1, .string x.f2, .slice B3 x.f3.length d3, .slice B4 x.f4.length d4, .slice B5 x.f5.length d5, .int .i64 0])) (hx : WL x) (zx : Sz x) :
    ToGo w1 x [.int .i64 x.f0, .int .i64 x.f1, .string x.f2, .slice B3 x.f3.length d3, .slice B4 x.f4.length d4, .slice B5 x.f5.length d5] := toGo_any w1 _ x (Nat.lt_succ_self _) zx hx _ (h.held i hi)
theorem ToGo.later {w0 w1 : World} {x : V} {cs : List Value} (h : ToGo w0 x cs) (hb : Below w0.heap.size w0 w1) : ToGo w1 x cs := fun w hb2 => h w (hb.trans (hb2.mono hb.size))
theorem wf_n3 {x : V} (h : WF x) : x.f3.length ≤ 400 := by cases h; assumption
theorem SPR.pre3 {w w1 : World} {a b c : Nat × Array Value × TypeId} {L : List (Nat × Array Value × TypeId)} {rs rs' : List (V × Array Value)} (h : SPR w (a :: b :: c :: L) (rs ++ rs') w1) : SPR w [a, b, c] rs w1 := by
  have hs : ∀ p ∈ [a, b, c], p ∈ a :: b :: c :: L := fun p hp => by
    simp at hp ⊢
    rcases hp with h | h | h <;> simp [h]
  exact ⟨h.1.pre3, fun r hr => (h.2 r (List.mem_append_left _ hr)).perm hs⟩
theorem SPN.pre5 {w w1 : World} {a b c d e : Nat × Array Value × TypeId} {L : List (Nat × Array Value × TypeId)} (h : SPN w (a :: b :: c :: d :: e :: L) w1) : SPN w [a, b, c, d, e] w1 := by
  have hs : List.Sublist [a, b, c, d, e] (a :: b :: c :: d :: e :: L) := by simp
  exact ⟨⟨h.1.1, fun p hp => h.1.2 p (hs.subset hp)⟩, h.2.1.sublist (hs.map _), fun p hp => h.2.2 p (hs.subset hp)⟩
theorem SPR.pre5 {w w1 : World} {a b c d e : Nat × Array Value × TypeId} {L : List (Nat × Array Value × TypeId)} {rs rs' : List (V × Array Value)} (h : SPR w (a :: b :: c :: d :: e :: L) (rs ++ rs') w1) : SPR w [a, b, c, d, e] rs w1 := by
  have hs : List.Sublist [a, b, c, d, e] (a :: b :: c :: d :: e :: L) := by simp
  exact ⟨h.1.pre5, fun r hr => (h.2 r (List.mem_append_left _ hr)).perm (fun p hp => hs.subset hp)⟩
theorem SPR.spl3 {w w1 : World} {a b c : Nat × Array Value × TypeId} {L : List (Nat × Array Value × TypeId)} {rs : List (V × Array Value)} (h : SPR w (a :: b :: c :: L) rs w1) : SPL w [a, b, c] w1 := h.1.pre3.1
theorem SPR.spl5 {w w1 : World} {a b c d e : Nat × Array Value × TypeId} {L : List (Nat × Array Value × TypeId)} {rs : List (V × Array Value)} (h : SPR w (a :: b :: c :: d :: e :: L) rs w1) : SPL w [a, b, c, d, e] w1 := h.1.pre5.1
/-- A value's cells, a result's, those of a new result: short names for long texts. -/
abbrev cv (x : V) (A3 : Option Addr) (c3 : Nat) (A4 : Option Addr) (c4 : Nat) (A5 : Option Addr) (c5 : Nat) : Array Value := #[.int .i64 x.f0, .int .i64 x.f1, .string x.f2, .slice A3 x.f3.length c3, .slice A4 x.f4.length c4, .slice A5 x.f5.length c5]
abbrev rc (x : V) (A3 : Option Addr) (c3 : Nat) (A4 : Option Addr) (c4 : Nat) (A5 : Option Addr) (c5 : Nat) : Array Value := #[.int .i64 x.f0, .int .i64 x.f1, .string x.f2, .slice A3 x.f3.length c3, .slice A4 x.f4.length c4, .slice A5 x.f5.length c5, .int .i64 0]
abbrev z7 : Array Value := #[.int .i64 0, .int .i64 0, .string ⟨#[]⟩, .slice none 0 0, .slice none 0 0, .slice none 0 0, .int .i64 0]
end Go.Proofs.YtdaiodiafahkkaaGreatDoor.ValA
