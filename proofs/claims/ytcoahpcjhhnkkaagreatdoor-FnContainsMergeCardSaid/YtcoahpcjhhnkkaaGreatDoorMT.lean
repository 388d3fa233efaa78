/-
Parts of the proof, one behind the other: GaT, MrgP, MrgG, MrgW, MrgC.
-/
import Derived.Test.YtcoahpcjhhnkkaaGreatDoorMJ
import Derived.Test.YtcoahpcjhhnkkaaGreatDoorMO
import Derived.Test.YtcoahpcjhhnkkaaGreatDoorMR
import Derived.Maps.RangeWalk
import Derived.Test.YtcoahpcjhhnkkaaGreatDoorMK
/-
The Go value of a tree, all of its blocks among some.
-/
set_option linter.unusedSimpArgs false
set_option linter.unusedVariables false
namespace Go.Proofs.YtcoahpcjhhnkkaaGreatDoor.NumA
open Go.RowKit Go.Lib Go.Proofs.YtcoahpcjhhnkkaaGreatDoor.ValA Go.Proofs.YtcoahpcjhhnkkaaGreatDoor.FloH Go.Proofs.YtcoahpcjhhnkkaaGreatDoorW.PrintWords Go.Proofs.YtcoahpcjhhnkkaaGreatDoorW.PrintLast Go.Proofs.YtcoahpcjhhnkkaaGreatDoorW.PrintMore Go.Proofs.YtcoahpcjhhnkkaaGreatDoor.PzzFits1
/-- g is x's value in w; all of its blocks are among A. -/
inductive GA (A : Nat → Prop) (w : World) : V → Value → Prop
  | flat (x : V) (hk : x.f0 ≤ 4) : GA A w x (fg x.f0 x.f1 x.f2)
  | list (x : V) (hk : x.f0 = 5) (b : Nat) (l : List Value) (hb : A b) (hl : l.length = x.f3.length) (hw : w.heap[b]? = some (.cells l.toArray 20 (0, 0)))
      (he : ∀ (i : Nat) (y : V) (v : Value), x.f3[i]? = some y → l[i]? = some v → GA A w y v) : GA A w x (.iface 78 (.slice (some ⟨b, 0, none⟩) x.f3.length x.f3.length))
  | map (x : V) (hk : x.f0 = 6) (b : Nat) (es : List MapEntry) (c : Nat) (hb : A b) (hl : es.length = x.f4.length) (hw : w.heap[b]? = some (.map es.toArray c)) (hst : MapKept.Stamped es.toArray c)
      (hkey : (es.map (·.key)).Perm (x.f4.map Value.string)) (he : ∀ (i : Nat) (s : ByteArray) (y : V) (e : MapEntry), x.f4[i]? = some s → x.f5[i]? = some y → e ∈ es → e.key = .string s → GA A w y e.val) : GA A w x (.iface 67 (.map (some b)))
theorem GA.mono {A A' : Nat → Prop} {w : World} {x : V} {g : Value} (h : GA A w x g) (hm : ∀ b, A b → A' b) : GA A' w x g := by
  induction h with
  | flat x hk => exact .flat x hk
  | list x hk b l hb hl hw he ih => exact .list x hk b l (hm b hb) hl hw ih
  | map x hk b es c hb hl hw hst hkey he ih => exact .map x hk b es c (hm b hb) hl hw hst hkey ih
theorem GA.keep {A : Nat → Prop} {w w' : World} {x : V} {g : Value} (h : GA A w x g) (hk : ∀ b, A b → ∀ o, w.heap[b]? = some o → w'.heap[b]? = some o) : GA A w' x g := by
  induction h with
  | flat x h1 => exact .flat x h1
  | list x h1 b l hb hl hw he ih => exact .list x h1 b l hb hl (hk b hb _ hw) ih
  | map x h1 b es c hb hl hw hst hkey he ih => exact .map x h1 b es c hb hl (hk b hb _ hw) hst hkey ih
theorem GA.keepB {A : Nat → Prop} {w w' : World} {x : V} {g : Value} (h : GA A w x g) (hb : Below w.heap.size w w') : GA A w' x g :=
  h.keep fun b _ o ho => (hb.block b (lt_of_heap ho)).trans ho
theorem GA.grown {A : Nat → Prop} {k : Nat} {w w' : World} {x : V} {g : Value} (h : GA A w x g) (hg : w.grownBy w' (some k)) (hk : ¬ A k) : GA A w' x g :=
  h.keep fun b hb o ho => (hg.block b (lt_of_heap ho) (fun e => by cases e; exact hk hb)).trans ho
theorem GA.toG {A : Nat → Prop} {w : World} {x : V} {g : Value} (h : GA A w x g) : G 0 w x g := by
  induction h with
  | flat x hk => exact .flat x hk
  | list x hk b l hb hl hw he ih => exact .list x hk b l (Nat.zero_le _) hl hw ih
  | map x hk b es c hb hl hw hst hkey he ih => exact .map x hk b es c (Nat.zero_le _) hl hw hst hkey ih
theorem G.toGA {n : Nat} {w : World} {x : V} {g : Value} (h : G n w x g) : GA (fun b => b < w.heap.size) w x g := by
  induction h with
  | flat x hk => exact .flat x hk
  | list x hk b l hb hl hw he ih => exact .list x hk b l (lt_of_heap hw) hl hw ih
  | map x hk b es c hb hl hw hst hkey he ih => exact .map x hk b es c (lt_of_heap hw) hl hw hst hkey ih
theorem GA.map_inv {A : Nat → Prop} {w : World} {x : V} {g : Value} (h : GA A w x g) (hx : x.f0 = 6) : ∃ (b : Nat) (es : List MapEntry) (c : Nat), g = .iface 67 (.map (some b)) ∧ A b ∧ es.length = x.f4.length ∧ w.heap[b]? = some (.map es.toArray c) ∧ MapKept.Stamped es.toArray c ∧
    (es.map (·.key)).Perm (x.f4.map Value.string) ∧ ∀ (i : Nat) (s : ByteArray) (y : V) (e : MapEntry), x.f4[i]? = some s → x.f5[i]? = some y → e ∈ es → e.key = .string s → GA A w y e.val := by
  cases h with
  | flat x hk => omega
  | list x hk b l hb hl hw he => omega
  | map x hk b es c hb hl hw hst hkey he => exact ⟨b, es, c, rfl, hb, hl, hw, hst, hkey, he⟩
/-- A map in memory shows an object if it has its keys, each with a value that shows its own. -/
theorem GA_map {A : Nat → Prop} {w : World} {x : V} {B k : Nat} {ef : List MapEntry} (h6 : x.f0 = 6) (hf : x.f4.length = x.f5.length) (hr : Rise (kv x)) (hB : A B) (hw : w.heap[B]? = some (.map ef.toArray k)) (hst : MapKept.Stamped ef.toArray k) (hks : ∀ e ∈ ef, ∃ t : ByteArray, e.key = .string t)
    (hin : ∀ s : ByteArray, (∃ e ∈ ef, e.key = .string s) ↔ s ∈ x.f4) (hv : ∀ e ∈ ef, ∀ (s : ByteArray) (y : V), e.key = .string s → getKV (kv x) s = some y → GA A w y e.val) : GA A w x (.iface 67 (.map (some B))) := by
  have hperm : (ef.map (·.key)).Perm (x.f4.map Value.string) := by
    refine (List.perm_ext_iff_of_nodup ?_ ?_).2 fun v => ?_
    · have h := ((MapKept.stamped_iff ef.toArray k).1 hst).2.2
      unfold List.Nodup
      rw [List.pairwise_map]
      simpa using h
    · unfold List.Nodup
      rw [List.pairwise_map, ← kv_keys hf, List.pairwise_map]
      refine List.Pairwise.imp (fun {p q} h e => ?_) hr
      have e2 : p.1 = q.1 := Value.string.inj e
      rw [e2, bl_self] at h
      cases h
    · rw [List.mem_map, List.mem_map]
      constructor
      · rintro ⟨e, h1, rfl⟩
        obtain ⟨t, e2⟩ := hks e h1
        exact ⟨t, (hin t).1 ⟨e, h1, e2⟩, e2.symm⟩
      · rintro ⟨s, h1, rfl⟩
        obtain ⟨e, h2, h3⟩ := (hin s).2 h1
        exact ⟨e, h2, h3⟩
  have hl : ef.length = x.f4.length := by simpa using hperm.length_eq
  refine .map x h6 B ef k hB hl hw hst hperm fun i s y e hs hy he hke => hv e he s y hke ?_
  exact mem_get hr (List.mem_of_getElem? (i := i) (List.getElem?_zip_eq_some.2 ⟨hs, hy⟩))
end Go.Proofs.YtcoahpcjhhnkkaaGreatDoor.NumA
/-
The product of two objects, as a plain function; it contains the second one.
-/
set_option linter.unusedSimpArgs false
set_option linter.unusedVariables false
namespace Go.Proofs.YtcoahpcjhhnkkaaGreatDoor.NumA
open Go.RowKit Go.Lib Go.Proofs.YtcoahpcjhhnkkaaGreatDoor.ValA Go.Proofs.YtcoahpcjhhnkkaaGreatDoor.FloH Go.Proofs.YtcoahpcjhhnkkaaGreatDoorW.PrintWords Go.Proofs.YtcoahpcjhhnkkaaGreatDoorW.PrintLast Go.Proofs.YtcoahpcjhhnkkaaGreatDoorW.PrintMore Go.Proofs.YtcoahpcjhhnkkaaGreatDoor.PzzFits1
mutual
/-- The product of two objects. -/
def mrg : V → V → V
  | a, ⟨_, _, _, _, ks, vs⟩ => sumM a ⟨6, 0, ⟨#[]⟩, [], ks, mrgL a ks vs⟩
/-- What the second one's values become. -/
def mrgL : V → List ByteArray → List V → List V
  | _, _, [] => []
  | a, [], v :: vs => v :: mrgL a [] vs
  | a, k :: ks, v :: vs => (match getKV (kv a) k with | some u => if u.f0 = 6 ∧ v.f0 = 6 then mrg u v else v | none => v) :: mrgL a ks vs
end
/-- What one value becomes. -/
def com (a : V) (k : ByteArray) (v : V) : V := match getKV (kv a) k with | some u => if u.f0 = 6 ∧ v.f0 = 6 then mrg u v else v | none => v
def mapd (a b : V) : V := ⟨6, 0, ⟨#[]⟩, [], b.f4, mrgL a b.f4 b.f5⟩
theorem mrg_eq (a b : V) : mrg a b = sumM a (mapd a b) := by cases b; rw [mrg]; rfl
theorem mrgL_len (a : V) : ∀ (ks : List ByteArray) (vs : List V), (mrgL a ks vs).length = vs.length
  | _, [] => by rw [mrgL]
  | [], v :: vs => by rw [mrgL]; simp [mrgL_len a [] vs]
  | k :: ks, v :: vs => by rw [mrgL]; simp [mrgL_len a ks vs]
theorem mrgL_at (a : V) : ∀ (ks : List ByteArray) (vs : List V) (i : Nat) (k : ByteArray) (v : V), ks[i]? = some k → vs[i]? = some v → (mrgL a ks vs)[i]? = some (com a k v)
  | _, [], i, k, v, _, h => by simp at h
  | [], v :: vs, i, k, u, h, _ => by simp at h
  | k :: ks, v :: vs, 0, k', v', h, h' => by
    simp at h h'
    subst h h'
    rw [mrgL]
    rfl
  | k :: ks, v :: vs, i + 1, k', v', h, h' => by
    rw [List.getElem?_cons_succ] at h h'
    rw [mrgL, List.getElem?_cons_succ]
    exact mrgL_at a ks vs i k' v' h h'
theorem mapd_len {a b : V} (hf : b.f4.length = b.f5.length) : (mapd a b).f4.length = (mapd a b).f5.length := by
  show b.f4.length = (mrgL a b.f4 b.f5).length
  rw [mrgL_len, hf]
theorem mapd_mem {a b : V} (hf : b.f4.length = b.f5.length) {y : V} (h : y ∈ (mapd a b).f5) : ∃ (k : ByteArray) (v : V), k ∈ b.f4 ∧ v ∈ b.f5 ∧ y = com a k v := by
  obtain ⟨i, hi⟩ := List.getElem?_of_mem h
  have hl : i < b.f5.length := by
    have h1 := (List.getElem?_eq_some_iff.1 hi).1
    rw [show (mapd a b).f5 = mrgL a b.f4 b.f5 from rfl, mrgL_len] at h1
    exact h1
  have h4 := key_rd b.f4 i (by omega)
  have h5 := rd_at b.f5 i hl
  have h6 := mrgL_at a b.f4 b.f5 i _ _ h4 h5
  rw [show mrgL a b.f4 b.f5 = (mapd a b).f5 from rfl, hi] at h6
  exact ⟨_, _, List.mem_of_getElem? h4, List.mem_of_getElem? h5, Option.some.inj h6⟩
/-- What comes of a value: itself, or a product. -/
theorem com_or (a : V) (k : ByteArray) (v : V) : com a k v = v ∨ ∃ u, getKV (kv a) k = some u ∧ u ∈ a.f5 ∧ u.f0 = 6 ∧ v.f0 = 6 ∧ com a k v = mrg u v := by
  unfold com
  cases h : getKV (kv a) k with
  | none => exact Or.inl rfl
  | some u =>
    by_cases c : u.f0 = 6 ∧ v.f0 = 6
    · exact Or.inr ⟨u, rfl, (kv_mem (get_mem h)).2, c.1, c.2, by simp [c]⟩
    · exact Or.inl (by simp [c])
theorem rise_len {x : V} (h : WF x) : x.f4.length ≤ 400 ∧ x.f3.length ≤ 400 := by
  cases h
  exact ⟨by assumption, by assumption⟩
theorem wf_h5 {x : V} (h : WF x) : ∀ y ∈ x.f5, WF y := by
  cases h
  assumption
theorem wl_mrg : ∀ (N : Nat) (b : V), SizeOf.sizeOf b < N → WF b → ∀ a : V, WF a → WL (mrg a b)
  | 0, _, h, _, _, _ => absurd h (Nat.not_lt_zero _)
  | N + 1, b, hN, hb, a, ha => by
    have hf := (wf_facts (loose hb)).2.2.2
    rw [mrg_eq]
    refine wl_sumM (loose ha) ?_ (by have h1 := rise_len ha; have h2 := rise_len hb; show a.f4.length + b.f4.length ≤ 1000000; omega)
    obtain ⟨_, _, _, _, n4, hk, _, _⟩ := loose hb
    refine .mk _ ?_ (show c2B 0 = true by decide) (by simp [mapd]) n4 hk (fun y hy => by cases hy) (fun y hy => ?_)
    · simp [mapd, c1B, mrgL_len, hf]
    · obtain ⟨k, v, h4, h5, rfl⟩ := mapd_mem hf hy
      rcases com_or a k v with e | ⟨u, _, hu, _, _, e⟩
      · rw [e]; exact loose (wf_h5 hb v h5)
      · rw [e]
        exact wl_mrg N v (by
          have h1 := List.sizeOf_lt_of_mem h5
          have h2 := size5c b
          omega) (wf_h5 hb v h5) u (wf_h5 ha u hu)
theorem sz_mrg : ∀ (N : Nat) (b : V), SizeOf.sizeOf b < N → WF b → Sz b → ∀ a : V, Sz a → Sz (mrg a b)
  | 0, _, h, _, _, _, _ => absurd h (Nat.not_lt_zero _)
  | N + 1, b, hN, hb, zb, a, za => by
    have hf := (wf_facts (loose hb)).2.2.2
    rw [mrg_eq]
    refine sz_sumM za (.mk _ (show (0 : Nat) ≤ 9223372036854775807 by omega) (fun s hs => sz_h4 zb s hs) (fun y hy => by cases hy) (fun y hy => ?_))
    obtain ⟨k, v, h4, h5, rfl⟩ := mapd_mem hf hy
    rcases com_or a k v with e | ⟨u, _, hu, _, _, e⟩
    · rw [e]; exact sz_h5 zb v h5
    · rw [e]
      exact sz_mrg N v (by
        have h1 := List.sizeOf_lt_of_mem h5
        have h2 := size5c b
        omega) (wf_h5 hb v h5) (sz_h5 zb v h5) u (sz_h5 za u hu)
theorem tz_h5 {x : V} (h : Tz x) : ∀ y ∈ x.f5, Tz y := by
  cases h
  assumption
theorem tz_mrg : ∀ (N : Nat) (b : V), SizeOf.sizeOf b < N → WF b → Tz b → ∀ a : V, Tz a → Tz (mrg a b)
  | 0, _, h, _, _, _, _ => absurd h (Nat.not_lt_zero _)
  | N + 1, b, hN, hb, zb, a, za => by
    have hf := (wf_facts (loose hb)).2.2.2
    rw [mrg_eq]
    refine .mk _ (show (0 : Nat) ≤ 140737488355328 by omega) (fun y hy => by cases hy) (fun y hy => ?_)
    obtain ⟨q, hq, rfl⟩ := List.mem_map.1 hy
    rcases fold_mem _ hq with h | h
    · exact tz_h5 za _ (kv_mem h).2
    · obtain ⟨k, v, h4, h5, e0⟩ := mapd_mem hf (kv_mem h).2
      rw [e0]
      rcases com_or a k v with e | ⟨u, _, hu, _, _, e⟩
      · rw [e]; exact tz_h5 zb v h5
      · rw [e]
        exact tz_mrg N v (by
          have h1 := List.sizeOf_lt_of_mem h5
          have h2 := size5c b
          omega) (wf_h5 hb v h5) (tz_h5 zb v h5) u (tz_h5 za u hu)
theorem mapd_rise {a b : V} (hb : WF b) : Rise (kv (mapd a b)) := by
  have hf := (wf_facts (loose hb)).2.2.2
  have h := kv_rise (loose hb)
  have h1 : (kv b).map (·.1) = (kv (mapd a b)).map (·.1) := by rw [kv_keys hf, kv_keys (mapd_len hf)]; rfl
  unfold Rise at h ⊢
  have h2 : List.Pairwise (fun p q => bl p q = true) ((kv b).map (·.1)) := List.pairwise_map.2 h
  rw [h1] at h2
  exact List.pairwise_map.1 h2
theorem zip_fs : ∀ l : List (ByteArray × V), (l.map (·.1)).zip (l.map (·.2)) = l
  | [] => rfl
  | p :: r => by rw [List.map_cons, List.map_cons, List.zip_cons_cons, zip_fs r]
theorem kv_sumM (a b : V) : kv (sumM a b) = foldKV (kv a) (kv b) := zip_fs _
/-- The product's value at a key of the second one. -/
theorem mrg_get {a b : V} (hb : WF b) {j : Nat} {k : ByteArray} (hk : b.f4[j]? = some k) : getKV (kv (mrg a b)) k = some (com a k (rd_T26 b.f5 j)) := by
  have hf := (wf_facts (loose hb)).2.2.2
  have hj : j < b.f5.length := by have := (List.getElem?_eq_some_iff.1 hk).1; omega
  have e : kv (mrg a b) = foldKV (kv a) (kv (mapd a b)) := by rw [mrg_eq]; exact kv_sumM a (mapd a b)
  rw [e, fold_get k _ _ (mapd_rise hb), mem_get (mapd_rise hb) (List.mem_of_getElem? (i := j) (List.getElem?_zip_eq_some.2 ⟨hk, mrgL_at a b.f4 b.f5 j k _ hk (rd_at b.f5 j hj)⟩))]
  rfl
theorem con_self2 : ∀ (N : Nat) (x : V), SizeOf.sizeOf x < N → WL x → Tz x → con x x = some true
  | 0, _, h, _, _ => absurd h (Nat.not_lt_zero _)
  | N + 1, x, hN, hx, tx => by
    obtain ⟨f0, f6, fj, f45⟩ := wf_facts hx
    obtain ⟨_, _, _, n3, n4, hk, w3, w5⟩ := hx
    obtain ⟨_, t2, t3, t5⟩ := tx
    rw [con_eq, if_neg (by simp)]
    split
    · simp
    split
    · rw [(con_ev2 x.f2 x.f2 t2 t2).2.2 rfl]
    split
    · rw [List.all_eq_true.2 fun r hr => (conA_iff r x.f3).2 ⟨r, hr, con_self2 N r (by
        have h1 := List.sizeOf_lt_of_mem hr
        have h2 := size3c x
        omega) (w3 r hr) (t3 r hr)⟩]
    split
    · rw [decide_eq_true (Nat.le_refl _), Bool.true_and, zip_all f45.symm (f := fun s r => conK x.f4 x.f5 s r) (fun j s hj => by
        have hj5 : j < x.f5.length := by have := (List.getElem?_eq_some_iff.1 hj).1; omega
        have hr := rd_mem x.f5 j hj5
        show conK _ _ _ _ = _
        rw [conK_at s _ x.f4 x.f5 (rise_nd hk) j _ hj (rd_at x.f5 j hj5), con_self2 N _ (by
          have h1 := List.sizeOf_lt_of_mem hr
          have h2 := size5c x
          omega) (w5 _ hr) (t5 _ hr)]
        rfl)]
    rfl
theorem con_mrg : ∀ (N : Nat) (b : V), SizeOf.sizeOf b < N → WF b → Tz b → b.f0 = 6 → ∀ a : V, WF a → con (mrg a b) b = some true
  | 0, _, h, _, _, _, _, _ => absurd h (Nat.not_lt_zero _)
  | N + 1, b, hN, hb, tb, kb, a, ha => by
    have hf := (wf_facts (loose hb)).2.2.2
    have hw := wl_mrg _ b (Nat.lt_succ_self _) hb a ha
    rw [con_maps hw (loose hb) (by rw [mrg_eq]; rfl) kb, zip_all hf.symm (f := fun s r => conK (mrg a b).f4 (mrg a b).f5 s r) (fun j s hj => ?_)]
    have hj5 : j < b.f5.length := by have := (List.getElem?_eq_some_iff.1 hj).1; omega
    have hg := mrg_get (a := a) hb hj
    have hin : s ∈ (mrg a b).f4 := (kv_mem (get_mem hg)).1
    have hge : getV (mrg a b) s = com a s (rd_T26 b.f5 j) := by unfold getV; rw [hg]; rfl
    show conK _ _ _ _ = _
    rw [conK_get hw hin, hge]
    have hr := rd_mem b.f5 j hj5
    have hlt : SizeOf.sizeOf (rd_T26 b.f5 j) < N := by
      have h1 := List.sizeOf_lt_of_mem hr
      have h2 := size5c b
      omega
    rcases com_or a s (rd_T26 b.f5 j) with e | ⟨u, _, hu, _, k6, e⟩
    · rw [e, con_self2 _ _ (Nat.lt_succ_self _) (loose (wf_h5 hb _ hr)) (tz_h5 tb _ hr)]
      rfl
    · rw [e, con_mrg N _ hlt (wf_h5 hb _ hr) (tz_h5 tb _ hr) k6 u (wf_h5 ha u hu)]
      rfl
end Go.Proofs.YtcoahpcjhhnkkaaGreatDoor.NumA
/-
gojq.deepMergeObjects.
-/
set_option linter.unusedSimpArgs false
set_option linter.unusedVariables false
namespace Go.Proofs.YtcoahpcjhhnkkaaGreatDoor.NumA
open Go.RowKit Go.Lib Go.Proofs.YtcoahpcjhhnkkaaGreatDoor.ValA Go.Proofs.YtcoahpcjhhnkkaaGreatDoor.FloH Go.Proofs.YtcoahpcjhhnkkaaGreatDoorW.PrintWords Go.Proofs.YtcoahpcjhhnkkaaGreatDoorW.PrintLast Go.Proofs.YtcoahpcjhhnkkaaGreatDoorW.PrintMore Go.Proofs.YtcoahpcjhhnkkaaGreatDoor.PzzFits1
theorem keysM {es : List MapEntry} {c : Nat} (F : WideElems.Fit Tryz.prog 9 Rm es.toArray c) : ∀ p ∈ (es.map (WideElems.rg Tryz.prog 9 Rm)).foldr DataW.insert [], WideAt.IsKeyLit p.1 := by
  intro p hp
  obtain ⟨e, he, hpe⟩ := List.mem_map.1 (mem_sorted.1 hp)
  obtain ⟨kl, h1, h2⟩ := rgM F he
  rw [← hpe, h2]
  exact keyedS.key h1
theorem size_keyM {es : List MapEntry} {c : Nat} (F : WideElems.Fit Tryz.prog 9 Rm es.toArray c) {e : MapEntry} (he : e ∈ es) : ∃ t : ByteArray, e.key = .string t ∧ t.size ≤ 9223372036854775807 := by
  obtain ⟨kl, h1, _⟩ := rgM F he
  obtain ⟨x, e1, _, hx⟩ := Maps.keyOf_str Tryz.underlying9 h1
  exact ⟨⟨x.toArray⟩, by rw [e1], hx⟩
/-- A store under a key, entry by entry. -/
theorem put_m {w : World} {M k nn : Nat} {ef : List MapEntry} (hM : w.heap[M]? = some (.map ef.toArray k)) (F : WideElems.Fit Tryz.prog 9 Rm ef.toArray k) (hl : ef.length ≤ nn) (hn : nn ≤ 3000000) (s : ByteArray) (hs : s.size ≤ 9223372036854775807) (g : Value) :
    ∃ (w' : World) (ef' : List MapEntry) (k' : Nat), (Instr.mapUpdate 67 (.map (some M)) (.string s) g).run Tryz.prog w = .ok () w' ∧ w'.heap[M]? = some (.map ef'.toArray k') ∧ WideElems.Fit Tryz.prog 9 Rm ef'.toArray k' ∧ ef'.length ≤ nn + 1 ∧ w.grownBy w' (some M) ∧
      (∀ t : ByteArray, t.size ≤ 9223372036854775807 → ((∃ e ∈ ef', e.key = .string t) ↔ t = s ∨ ∃ e ∈ ef, e.key = .string t)) ∧ (∀ e ∈ ef', e.key = .string s → e.val = g) ∧ ∀ t : ByteArray, t ≠ s → ∀ e ∈ ef', e.key = .string t → ∃ d ∈ ef, d.key = .string t ∧ e.val = d.val := by
  obtain ⟨D, hD⟩ : ∃ D, IsM ef D := ⟨_, rfl⟩
  have ho : w.ownsMap Tryz.prog 9 Rm M nn D := ⟨_, _, hM, F, by simpa using hl, hD⟩
  have hkey := key_lit s hs
  obtain ⟨w', hrun, ho', hg⟩ := ho.update keyedS Tryz.underlying67 (by unfold maxLen; omega) hkey (d := .held g) (ps := []) (val := g) rfl
  obtain ⟨es, k', hM', F0, hsz, hD0⟩ := ho'
  have hm : Maps.IsMap D := by unfold IsM at hD; exact ⟨_, hD⟩
  have F' : WideElems.Fit Tryz.prog 9 Rm es.toList.toArray k' := by simpa using F0
  have hD' : IsM es.toList (D.put (.string s.data.toList) (.held g)) := hD0
  have ks := keyedS.key hkey
  have hne : ∀ {t : ByteArray}, t ≠ s → (Lit.string t.data.toList) ≠ .string s.data.toList := fun h e => h (Go.WideShapes.bytes_inj (by simpa using e))
  refine ⟨w', es.toList, k', hrun, by simpa using hM', F', by simpa using hsz, hg, fun t ht => ?_, fun e he hk => ?_, fun t ht e he hk => ?_⟩
  · rw [← hasM F' hD' ht, ← hasM F hD ht]
    by_cases e : t = s
    · subst e
      rw [Maps.has_put_same hm ks]
      simp
    · rw [Maps.has_put_other (hne e)]
      simp [e]
  · have h := atM F' hD' hs he hk .nil
    rw [Maps.atKey_put_same hm ks] at h
    exact (heldM h).symm
  · obtain ⟨t', e1, hz⟩ := size_keyM F' he
    rw [hk] at e1
    cases e1
    have h1 := (hasM F' hD' hz).2 ⟨e, he, hk⟩
    rw [Maps.has_put_other (hne ht), hasM F hD hz] at h1
    obtain ⟨d, hd, hkd⟩ := h1
    have h2 := atM F' hD' hz he hk .nil
    rw [Maps.atKey_put_other (hne ht), atM F hD hz hd hkd] at h2
    exact ⟨d, hd, hkd, (heldM h2).symm⟩
/-- The head of a round. -/
def RMg (A : Nat → Prop) (w : World) (M R c m : Nat) (DR : DataW Value) (l l' : List ByteArray) (l5 m5 : List V) (F : ByteArray → V → V) (n0 k : Nat) (wr : World) : Prop :=
  ∃ (left : Lit → Bool) (ef : List MapEntry) (ck nn : Nat), wr.ranges Tryz.prog 9 Rm c R m DR left k ∧ wr.heap[M]? = some (.map ef.toArray ck) ∧ WideElems.Fit Tryz.prog 9 Rm ef.toArray ck ∧ ef.length ≤ nn ∧ nn + k ≤ n0 ∧ Below w.heap.size w wr ∧
    (∀ s : ByteArray, s.size ≤ 9223372036854775807 → ((∃ e ∈ ef, e.key = .string s) ↔ s ∈ l ∨ (s ∈ l' ∧ left (.string s.data.toList) = false))) ∧
    ∀ e ∈ ef, ∀ s : ByteArray, e.key = .string s → (∀ j : Nat, l'[j]? = some s → left (.string s.data.toList) = false → GA (fun b => A b ∨ R < b) wr (F s (rd_T26 m5 j)) e.val) ∧ ∀ i : Nat, l[i]? = some s → (s ∉ l' ∨ left (.string s.data.toList) = true) → GA A w (rd_T26 l5 i) e.val
theorem rmg_put {A : Nat → Prop} {w w3 : World} {M R c m : Nat} {DR : DataW Value} {l l' : List ByteArray} {l5 m5 : List V} {F : ByteArray → V → V} {n0 cnt' : Nat} {left : Lit → Bool} {ef : List MapEntry} {ck nn j : Nat} {s : ByteArray} {g : Value}
    (hA : ∀ b, A b → b < w.heap.size) (hM0 : w.heap.size ≤ M) (hMR : M < R) (hc : c < w.heap.size) (hrg : w3.ranges Tryz.prog 9 Rm c R m DR (fun z => left z && !z.sameKey (.string s.data.toList)) cnt') (hM : w3.heap[M]? = some (.map ef.toArray ck)) (hF : WideElems.Fit Tryz.prog 9 Rm ef.toArray ck) (hl : ef.length ≤ nn) (hn : nn + (cnt' + 1) ≤ n0) (hn0 : n0 ≤ 3000000) (hb : Below w.heap.size w w3)
    (C1 : ∀ s : ByteArray, s.size ≤ 9223372036854775807 → ((∃ e ∈ ef, e.key = .string s) ↔ s ∈ l ∨ (s ∈ l' ∧ left (.string s.data.toList) = false)))
    (C2 : ∀ e ∈ ef, ∀ s : ByteArray, e.key = .string s → (∀ j : Nat, l'[j]? = some s → left (.string s.data.toList) = false → GA (fun b => A b ∨ R < b) w3 (F s (rd_T26 m5 j)) e.val) ∧ ∀ i : Nat, l[i]? = some s → (s ∉ l' ∨ left (.string s.data.toList) = true) → GA A w (rd_T26 l5 i) e.val)
    (hnd : l'.Nodup) (hj : l'[j]? = some s) (hs : s.size ≤ 9223372036854775807) (hv : GA (fun b => A b ∨ R < b) w3 (F s (rd_T26 m5 j)) g) :
    ∃ w4, (Instr.mapUpdate 67 (.map (some M)) (.string s) g).run Tryz.prog w3 = .ok () w4 ∧ RMg A w M R c m DR l l' l5 m5 F n0 cnt' w4 := by
  obtain ⟨w4, ef', k', hrun, hM4, F4, hl4, hg4, K1, K2, K3⟩ := put_m hM hF hl (by omega) s hs g
  have hnot : ¬ (A M ∨ R < M) := by rintro (h | h); have := hA _ h; omega; omega
  have hne : ∀ {t : ByteArray}, t ≠ s → (left (.string t.data.toList) && !(Lit.string t.data.toList).sameKey (.string s.data.toList)) = left (.string t.data.toList) := fun {t} h => by
    cases e : (Lit.string t.data.toList).sameKey (.string s.data.toList) with
    | false => simp
    | true => exact absurd (Go.WideShapes.bytes_inj (by simpa using WideAt.sameKey_eq e)) h
  have heq : (left (.string s.data.toList) && !(Lit.string s.data.toList).sameKey (.string s.data.toList)) = false := by
    have hself : (Lit.string s.data.toList).sameKey (.string s.data.toList) = true := WideAt.sameKey_self trivial
    rw [hself]; simp
  have hsl : s ∈ l' := List.mem_of_getElem? hj
  refine ⟨w4, hrun, _, ef', k', nn + 1, hrg.kept hg4 (by simp; omega) (by simp; omega), hM4, F4, hl4, by omega, hb.grown hg4 hb.size (fun k hk => by cases hk; exact hM0), fun t ht => ?_, fun e he t hk => ⟨fun i hi hleft => ?_, fun i hi hor => ?_⟩⟩
  · rw [K1 t ht, C1 t ht]
    by_cases e : t = s
    · subst e
      rw [heq]
      simp [hsl]
    · rw [hne e]
      simp [e]
  · by_cases e0 : t = s
    · subst e0
      rw [K2 e he hk]
      obtain rfl : i = j := (List.getElem?_inj (List.getElem?_eq_some_iff.1 hi).1 hnd).1 (hi.trans hj.symm)
      exact hv.grown hg4 hnot
    · rw [hne e0] at hleft
      obtain ⟨d, hd, hkd, hvd⟩ := K3 t e0 e he hk
      rw [hvd]
      exact ((C2 d hd t hkd).1 i hi hleft).grown hg4 hnot
  · by_cases e0 : t = s
    · subst e0
      rw [heq] at hor
      rcases hor with h | h
      · exact absurd hsl h
      · cases h
    · rw [hne e0] at hor
      obtain ⟨d, hd, hkd, hvd⟩ := K3 t e0 e he hk
      rw [hvd]
      exact (C2 d hd t hkd).2 i hi hor
/-- maps.Copy into a new map, entry by entry. -/
theorem copy_m {w : World} {b cb n : Nat} {es : List MapEntry} {l : List ByteArray} (hb : w.heap[b]? = some (.map es.toArray cb)) (hst : MapKept.Stamped es.toArray cb) (hn : es.length ≤ 1000000) (hnn : es.length = n) (hk : KeysAre es l) :
    Calls Tryz.prog 118 #[.map (some w.heap.size), .map (some b)] (w.alloc (.map #[] 0)) (fun e w' => ∃ (ef : List MapEntry) (k : Nat), e = .returned (.tuple #[]) ∧ w'.heap[w.heap.size]? = some (.map ef.toArray k) ∧ WideElems.Fit Tryz.prog 9 Rm ef.toArray k ∧ ef.length ≤ n ∧ (w.alloc (.map #[] 0)).grownBy w' (some w.heap.size) ∧
      (∀ t : ByteArray, t.size ≤ 9223372036854775807 → ((∃ e ∈ ef, e.key = .string t) ↔ ∃ e ∈ es, e.key = .string t)) ∧ ∀ t : ByteArray, ∀ e ∈ ef, e.key = .string t → ∃ d ∈ es, d.key = .string t ∧ e.val = d.val) := by
  obtain ⟨D1, hD1⟩ : ∃ D, IsM es D := ⟨_, rfl⟩
  have F1 := fitM hst (by omega) hk
  have o1 : w.ownsMap Tryz.prog 9 Rm b n D1 := ⟨_, _, hb, F1, by simp [hnn], hD1⟩
  have z1 := sizeM hD1
  have g0 : w.grownBy (w.alloc (.map #[] 0)) none := World.grownBy_alloc w _ none
  have hlb := lt_of_heap hb
  refine (AnyX.maps_Copy Tryz.copyM keyedS Rm w.heap.size b 0 n (.map []) D1 _ (World.ownsMap_made w Tryz.prog 9 Rm) (o1.kept g0 (by simp)) (by omega) (by unfold maxLen; omega)).mono ?_
  rintro e w1 ⟨rfl, ho1, _, hg1⟩
  obtain ⟨es', k', hM', F0, hsz, hD0⟩ := ho1
  have F0' : WideElems.Fit Tryz.prog 9 Rm es' k' := F0
  have F' : WideElems.Fit Tryz.prog 9 Rm es'.toList.toArray k' := by simpa using F0'
  have hD' : IsM es'.toList (Lib.mergeD (.map []) D1) := hD0
  have hmm : ∀ k z, Maps.has (Lib.mergeD (.map []) D1) k = Maps.has D1 k ∧ (Maps.has D1 k = true → (Lib.mergeD (.map []) D1).atKey k z = D1.atKey k z) := by
    intro k z
    have h1 := hD1
    unfold IsM at h1
    rw [h1]
    have m1 := mergeV (Maps.isMap_empty (H := Value)) (keysM F1) (apartM F1) k z
    exact ⟨by rw [m1.1]; show (false || _) = _; rw [Bool.false_or], fun h => by rw [m1.2, if_pos h]⟩
  refine ⟨es'.toList, k', rfl, by simpa using hM', F', by rw [z1, hnn] at hsz; simpa using hsz, hg1, fun t ht => ?_, fun t e he hke => ?_⟩
  · rw [← hasM F' hD' ht, ← hasM F1 hD1 ht, (hmm _ .nil).1]
  · obtain ⟨t', e1, hz⟩ := size_keyM F' he
    rw [hke] at e1
    cases e1
    have h1 := (hasM F' hD' hz).2 ⟨e, he, hke⟩
    rw [(hmm _ .nil).1] at h1
    obtain ⟨d, hd, hkd⟩ := (hasM F1 hD1 hz).1 h1
    have h2 := atM F' hD' hz he hke .nil
    rw [(hmm _ .nil).2 h1, atM F1 hD1 hz hd hkd] at h2
    exact ⟨d, hd, hkd, (heldM h2).symm⟩
/-- What deepMergeObjects gives. -/
def MgIs (A : Nat → Prop) (x : V) (w : World) (e : Ending) (w' : World) : Prop := ∃ B : Nat, e = .returned (.iface 67 (.map (some B))) ∧ GA (fun b => A b ∨ w.heap.size ≤ b) w' x (.iface 67 (.map (some B))) ∧ Below w.heap.size w w'
end Go.Proofs.YtcoahpcjhhnkkaaGreatDoor.NumA
/-
gojq.deepMergeObjects: the walk.
-/
set_option linter.unusedSimpArgs false
set_option linter.unusedVariables false
namespace Go.Proofs.YtcoahpcjhhnkkaaGreatDoor.NumA
open Go.RowKit Go.Lib Go.Proofs.YtcoahpcjhhnkkaaGreatDoor.ValA Go.Proofs.YtcoahpcjhhnkkaaGreatDoor.FloH Go.Proofs.YtcoahpcjhhnkkaaGreatDoorW.PrintWords Go.Proofs.YtcoahpcjhhnkkaaGreatDoorW.PrintLast Go.Proofs.YtcoahpcjhhnkkaaGreatDoorW.PrintMore Go.Proofs.YtcoahpcjhhnkkaaGreatDoor.PzzFits1
theorem keys_in {es : List MapEntry} {l : List ByteArray} (hk : KeysAre es l) (s : ByteArray) : (∃ e ∈ es, e.key = .string s) ↔ s ∈ l := by
  constructor
  · rintro ⟨e, he, h⟩
    have h1 := hk.2.1.subset (List.mem_map.2 ⟨e, he, h⟩)
    obtain ⟨s', hs', e3⟩ := List.mem_map.1 h1
    cases e3
    exact hs'
  · exact fun h => hk.at_ h
theorem rmg_start {A : Nat → Prop} {w w1 W2 : World} {c cc n m : Nat} {es fs ef : List MapEntry} {l l' : List ByteArray} {l5 m5 : List V} {F : ByteArray → V → V} {D : DataW Value} {k : Nat} (hk : KeysAre es l) (hst' : MapKept.Stamped fs.toArray cc) (hk' : KeysAre fs l') (hm : fs.length ≤ 1000000) (hD : IsM fs D)
    (he1 : ∀ (i : Nat) (s : ByteArray) (e : MapEntry), l[i]? = some s → e ∈ es → e.key = .string s → GA A w (rd_T26 l5 i) e.val) (hrg : W2.ranges Tryz.prog 9 Rm c w1.heap.size m D (Maps.has D) m) (hM : w1.heap[w.heap.size]? = some (.map ef.toArray k)) (hF : WideElems.Fit Tryz.prog 9 Rm ef.toArray k) (hle : ef.length ≤ n)
    (hg1 : (w.alloc (.map #[] 0)).grownBy w1 (some w.heap.size)) (hg2 : w1.grownBy W2 none) (K1 : ∀ t : ByteArray, t.size ≤ 9223372036854775807 → ((∃ e ∈ ef, e.key = .string t) ↔ ∃ e ∈ es, e.key = .string t)) (K3 : ∀ t : ByteArray, ∀ e ∈ ef, e.key = .string t → ∃ d ∈ es, d.key = .string t ∧ e.val = d.val) :
    RMg A w w.heap.size w1.heap.size c m D l l' l5 m5 F (n + m) m W2 := by
  have hF' := fitM hst' (by omega) hk'
  have hhas : ∀ s ∈ l', Maps.has D (.string s.data.toList) = true := fun s hs => by
    obtain ⟨e, he, e1⟩ := hk'.at_ hs
    exact (hasM hF' hD (hk'.2.2 _ hs)).2 ⟨e, he, e1⟩
  have hb1 : Below w.heap.size w w1 := ((Below.refl _ w).alloc (Nat.le_refl _) _).grown hg1 (by rw [World.size_alloc]; omega) (fun k hk => by cases hk; exact Nat.le_refl _)
  refine ⟨_, ef, k, n, hrg, (hg2.block _ (lt_of_heap hM) (by simp)).trans hM, hF, hle, Nat.le_refl _, hb1.grown hg2 hb1.size (fun k hk => by cases hk), fun s hs => ?_, fun e he s hks => ⟨fun j hj hl => ?_, fun i hi _ => ?_⟩⟩
  · rw [K1 s hs, keys_in hk]
    constructor
    · exact Or.inl
    · rintro (h | ⟨h1, h2⟩)
      · exact h
      · rw [hhas s h1] at h2
        cases h2
  · rw [hhas s (List.mem_of_getElem? hj)] at hl
    cases hl
  · obtain ⟨d, hd, hkd, hv⟩ := K3 s e he hks
    rw [hv]
    exact he1 i s d hi hd hkd
set_option maxRecDepth 100000 in
set_option maxHeartbeats 4000000 in
theorem merge_at (A : Nat → Prop) (w : World) (hA : ∀ b, A b → b < w.heap.size) (b c cb cc n m : Nat) (es fs : List MapEntry) (l l' : List ByteArray) (l5 m5 : List V) (hes : es.length = n) (hfs : fs.length = m) (h5 : l5.length = l.length) (h5' : m5.length = l'.length) (hn : n ≤ 1000000) (hm : m ≤ 1000000)
    (hb : w.heap[b]? = some (.map es.toArray cb)) (hst : MapKept.Stamped es.toArray cb) (hk : KeysAre es l) (hc : w.heap[c]? = some (.map fs.toArray cc)) (hst' : MapKept.Stamped fs.toArray cc) (hk' : KeysAre fs l')
    (he1 : ∀ (i : Nat) (s : ByteArray) (e : MapEntry), l[i]? = some s → e ∈ es → e.key = .string s → GA A w (rd_T26 l5 i) e.val) (he2 : ∀ (j : Nat) (s : ByteArray) (e : MapEntry), l'[j]? = some s → e ∈ fs → e.key = .string s → GA A w (rd_T26 m5 j) e.val)
    (hw1 : ∀ i : Nat, i < l5.length → 0 ≤ (rd_T26 l5 i).f0) (hw2 : ∀ j : Nat, j < m5.length → 0 ≤ (rd_T26 m5 j).f0)
    (F : ByteArray → V → V) (hF1 : ∀ (s : ByteArray) (y : V), s ∉ l → F s y = y) (hF2 : ∀ (i : Nat) (s : ByteArray) (y : V), l[i]? = some s → F s y = if (rd_T26 l5 i).f0 = 6 ∧ y.f0 = 6 then mrg (rd_T26 l5 i) y else y)
    (IH : ∀ (i j : Nat) (s : ByteArray) (B1 B2 : Nat), l[i]? = some s → l'[j]? = some s → (rd_T26 l5 i).f0 = 6 → (rd_T26 m5 j).f0 = 6 → ∀ w', Below w.heap.size w w' → GA A w' (rd_T26 l5 i) (.iface 67 (.map (some B1))) → GA A w' (rd_T26 m5 j) (.iface 67 (.map (some B2))) → Calls Tryz.prog 78 #[.map (some B1), .map (some B2)] w' (MgIs A (mrg (rd_T26 l5 i) (rd_T26 m5 j)) w')) :
    Calls Tryz.prog 78 #[.map (some b), .map (some c)] w fun e w' => ∃ (ef : List MapEntry) (k : Nat), e = .returned (.iface 67 (.map (some w.heap.size))) ∧ w'.heap[w.heap.size]? = some (.map ef.toArray k) ∧ WideElems.Fit Tryz.prog 9 Rm ef.toArray k ∧ Below w.heap.size w w' ∧
      (∀ s : ByteArray, s.size ≤ 9223372036854775807 → ((∃ e ∈ ef, e.key = .string s) ↔ s ∈ l ∨ s ∈ l')) ∧ ∀ e ∈ ef, ∀ s : ByteArray, e.key = .string s → (∀ j : Nat, l'[j]? = some s → GA (fun b => A b ∨ w.heap.size ≤ b) w' (F s (rd_T26 m5 j)) e.val) ∧ ∀ i : Nat, l[i]? = some s → s ∉ l' → GA (fun b => A b ∨ w.heap.size ≤ b) w' (rd_T26 l5 i) e.val := by
  obtain ⟨D, hD⟩ : ∃ D, IsM fs D := ⟨_, rfl⟩
  obtain ⟨D1, hD1⟩ : ∃ D, IsM es D := ⟨_, rfl⟩
  have o1 := owns_m hb hst (by omega) hes hk hD1
  have o2 := owns_m hc hst' (by omega) hfs hk' hD
  have z1 := sizeM hD1
  have z2 := sizeM hD
  have hl1 : ∀ ty, (Builtin.len_ #[67] ty #[.map (some b)]).run Tryz.prog w = .ok (.int .i64 (n : Int)) w := fun ty => by
    have := o1.len Tryz.underlying67 ty
    rwa [z1, hes] at this
  have hl2 : ∀ ty, (Builtin.len_ #[67] ty #[.map (some c)]).run Tryz.prog w = .ok (.int .i64 (m : Int)) w := fun ty => by
    have := o2.len Tryz.underlying67 ty
    rwa [z2, hfs] at this
  have hmk := fun w => runMakeMap (wrap64 ((n : Int) + (m : Int))) w
  have HCP := Lib.hid (copy_m hb hst (by omega) hes hk)
  have HO := Lib.hid (And.intro o2 (And.intro z2 hfs))
  have HI := Lib.hid (fun i j s B1 B2 p1 p2 p3 p4 w' hw q1 q2 => IH i j s B1 B2 p1 p2 p3 p4 w' hw q1 q2)
  have HAA := Lib.hid hA
  have HB := Lib.hid (And.intro hb (And.intro hst hk))
  have HC := Lib.hid (And.intro hc (And.intro hst' hk'))
  have HD := Lib.hid hD
  have HE := Lib.hid (And.intro he1 he2)
  have HW := Lib.hid (And.intro hw1 hw2)
  have HN := Lib.hid (And.intro h5 h5')
  have HM := Lib.hid (And.intro hn (And.intro hm (And.intro hes hfs)))
  have HF := Lib.hid (And.intro hF1 hF2)
  have HND := Lib.hid (keys_nodup hst' hk')
  have HNM : Hid (n + m ≤ 3000000) := Lib.hid (by omega)
  clear IH hA hb hst hk hc hst' hk' he1 he2 hw1 hw2 hF1 hF2 h5 h5' hn hm hes hfs o1 o2 z1 z2 hD hD1
  go_enter Tryz.func78, Tryz.ntmps78
  go_wp2_with fail
  refine HCP.out.mono ?_
  rintro e w1 ⟨ef, k, rfl, hM, hFt, hle, hg1, K1, K3⟩
  have hcl := lt_of_heap HC.out.1
  have g0 : w.grownBy (w.alloc (.map #[] 0)) none := World.grownBy_alloc w _ none
  have o2' := (HO.out.1.kept g0 (by simp)).kept hg1 (by simp; omega)
  obtain ⟨W2, hrun, hrg, hg2, hs2⟩ := o2'.range keyedS Tryz.underlying67
  rw [HO.out.2.1, HO.out.2.2] at hrg
  have hMlt := lt_of_heap hM
  obtain ⟨R, hR⟩ : ∃ R, R = w1.heap.size := ⟨_, rfl⟩
  have H0 := Lib.hid (rmg_start (F := F) (l5 := l5) (m5 := m5) HB.out.2.2 HC.out.2.1 HC.out.2.2 (by have := HM.out; omega) HD.out HE.out.1 hrg hM hFt hle hg1 hg2 K1 K3)
  rw [← hR] at H0 hrun
  have HMR : Hid (w.heap.size ≤ w.heap.size ∧ w.heap.size < R ∧ c < w.heap.size) := Lib.hid ⟨Nat.le_refl _, by omega, hcl⟩
  clear hM hFt hle hg1 K1 K3 hcl g0 o2' hrg hg2 hs2 hMlt hR HCP HO hl1 hl2 hmk
  go_wp2_with fail
  clear hrun
  go_loopg [6] m (fun k _ wr => RMg A w w.heap.size R c m D l l' l5 m5 F (n + m) k wr)
  case atStart => exact H0.out
  case round =>
    clear H0
    obtain ⟨left, ef, ck, nn, hrg, hM, hFt, hle, hnn, hbr, C1, C2⟩ := hrel
    rcases hrg.next keyedS 0 with ⟨hc0, hl0, hrun⟩ | ⟨key, v, kl, y, w', cnt', hkey, hlk, hv, hat, hrun, hrg2, hlt, hg2, hs2, hen⟩
    · have HC0 := Lib.hid hl0
      have HR := Lib.hid (And.intro hM (And.intro hFt (And.intro hbr (And.intro C1 C2))))
      clear hrg hM hFt hle hnn hbr C1 C2 hc0 hl0
      go_wp2_with fail
      go_ret
      refine ⟨ef, ck, rfl, HR.out.1, HR.out.2.1, HR.out.2.2.1, fun s hs => ?_, fun e he s hks => ⟨fun j hj => ?_, fun i hi hno => ?_⟩⟩
      · rw [HR.out.2.2.2.1 s hs, HC0.out]
        simp
      · exact (((HR.out.2.2.2.2 e he s hks).1 j hj (HC0.out _)).mono fun b hb => hb.elim Or.inl (fun h => Or.inr (by have := HMR.out.2.1; omega)))
      · exact (((HR.out.2.2.2.2 e he s hks).2 i hi (Or.inl hno)).mono (fun b hb => Or.inl hb)).keep (fun b hb o ho => (HR.out.2.2.1.block b (lt_of_heap ho)).trans ho)
    · have hcr := (hbr.block _ (lt_of_heap HC.out.1)).trans HC.out.1
      obtain ⟨s, j, e2, rfl, rfl, hj, he2, hk2, rfl, hsz⟩ := met_m hcr HC.out.2.1 (by have := HM.out; omega) HC.out.2.2 HD.out hrg hkey hlk hv hat
      have hb2 : Below w.heap.size w w' := hbr.grown hg2 hbr.size (fun k hk => by cases hk; exact Nat.le_trans HMR.out.1 (Nat.le_of_lt HMR.out.2.1))
      have hRn : ¬ (A R ∨ R < R) := by rintro (h | h); have := HAA.out _ h; have := HMR.out; omega; omega
      have hM2 : w'.heap[w.heap.size]? = some (.map ef.toArray ck) := (hg2.block _ (lt_of_heap hM) (by have := HMR.out; simp; omega)).trans hM
      have CC : ∀ e ∈ ef, ∀ s : ByteArray, e.key = .string s → (∀ j : Nat, l'[j]? = some s → left (.string s.data.toList) = false → GA (fun b => A b ∨ R < b) w' (F s (rd_T26 m5 j)) e.val) ∧ ∀ i : Nat, l[i]? = some s → (s ∉ l' ∨ left (.string s.data.toList) = true) → GA A w (rd_T26 l5 i) e.val :=
        fun e he t hkt => ⟨fun i hi hl => ((C2 e he t hkt).1 i hi hl).grown hg2 hRn, (C2 e he t hkt).2⟩
      have hGv : GA A w (rd_T26 m5 j) e2.val := HE.out.2 j s e2 hj he2 hk2
      have hj5 : j < m5.length := by have := (List.getElem?_eq_some_iff.1 hj).1; have := HN.out; omega
      have hfresh : cnt' + 1 ≤ gk := by omega
      obtain ⟨g, hg⟩ : ∃ g, g = e2.val := ⟨_, rfl⟩
      rw [← hg] at hen hrun hGv
      have HP := Lib.hid (And.intro hrg2 (And.intro hM2 (And.intro hFt (And.intro hle (And.intro hnn (And.intro hfresh (And.intro hb2 (And.intro C1 (And.intro CC (And.intro hj (And.intro hsz (And.intro hGv (And.intro hlk hj5)))))))))))))
      have HLT := Lib.hid hlt
      have hlook0 := Maps.fit_look (w := w') (b := w.heap.size) true keyedS Tryz.underlying67 (zero_any w') hM2 hFt (key_lit s hsz)
      clear hrg hM hFt hle hnn hbr C1 C2 hkey hlk hv hat hrg2 hlt hg2 hs2 hcr he2 hk2 hb2 hRn hM2 CC hg hfresh
      have put : ∀ w3, Below w'.heap.size w' w3 → ∀ g', GA (fun b => A b ∨ R < b) w3 (F s (rd_T26 m5 j)) g' → ∃ w4, (Instr.mapUpdate 67 (.map (some w.heap.size)) (.string s) g').run Tryz.prog w3 = .ok () w4 ∧ RMg A w w.heap.size R c m D l l' l5 m5 F (n + m) cnt' w4 := fun w3 hb3 g' hg' =>
        rmg_put HAA.out HMR.out.1 HMR.out.2.1 HMR.out.2.2 (ranges_below HP.out.1 hb3) ((hb3.block _ (lt_of_heap HP.out.2.1)).trans HP.out.2.1) HP.out.2.2.1 HP.out.2.2.2.1 (by have := HP.out.2.2.2.2.1; have := HP.out.2.2.2.2.2.1; omega) HNM.out (HP.out.2.2.2.2.2.2.1.trans (hb3.mono HP.out.2.2.2.2.2.2.1.size)) HP.out.2.2.2.2.2.2.2.1
          (fun e he t hkt => ⟨fun i hi hl => ((HP.out.2.2.2.2.2.2.2.2.1 e he t hkt).1 i hi hl).keepB hb3, (HP.out.2.2.2.2.2.2.2.2.1 e he t hkt).2⟩) HND.out hj hsz hg'
      have HPUT := Lib.hid put
      have hplain : F s (rd_T26 m5 j) = rd_T26 m5 j → ∃ w4, (Instr.mapUpdate 67 (.map (some w.heap.size)) (.string s) g).run Tryz.prog w' = .ok () w4 ∧ RMg A w w.heap.size R c m D l l' l5 m5 F (n + m) cnt' w4 := fun h =>
        put w' (Below.refl _ _) g (by rw [h]; exact (hGv.mono (fun b hb => Or.inl hb)).keep (fun b hb o ho => (HP.out.2.2.2.2.2.2.1.block b (lt_of_heap ho)).trans ho))
      have HPL := Lib.hid hplain
      clear put hplain
      rcases hlook0 with ⟨hlook, hno, _⟩ | ⟨e0, y0, he0, hk0, hlook, _, _, _⟩
      · have hsl : s ∉ l := fun h => by
          obtain ⟨e, he, hke⟩ := (HP.out.2.2.2.2.2.2.2.1 s hsz).2 (Or.inl h)
          exact hno e (by simpa using he) hke
        obtain ⟨w4, hput, hrel4⟩ := HPL.out (HF.out.1 s _ hsl)
        have HR4 := Lib.hid hrel4
        simp only [if_true] at hlook
        clear hno hsl hrel4 hGv hj hsz hj5
        go_wp2_with fail
        go_roundg cnt'
        case measure => exact HLT.out
        case rel => exact HR4.out
      · simp only [if_true] at hlook
        have he0' : e0 ∈ ef := by simpa using he0
        have hsl : s ∈ l := by
          rcases (HP.out.2.2.2.2.2.2.2.1 s hsz).1 ⟨e0, he0', hk0⟩ with h | ⟨_, h⟩
          · exact h
          · rw [HP.out.2.2.2.2.2.2.2.2.2.2.2.2.1] at h
            cases h
        obtain ⟨i, hi⟩ := List.getElem?_of_mem hsl
        have hGu : GA A w (rd_T26 l5 i) e0.val := (HP.out.2.2.2.2.2.2.2.2.1 e0 he0' s hk0).2 i hi (Or.inr HP.out.2.2.2.2.2.2.2.2.2.2.2.2.1)
        obtain ⟨u, hu⟩ : ∃ u, u = e0.val := ⟨_, rfl⟩
        rw [← hu] at hlook hGu
        have hi5 : i < l5.length := by have := (List.getElem?_eq_some_iff.1 hi).1; have := HN.out; omega
        have cu := hGu.toG.cl (HW.out.1 i hi5)
        have cg := hGv.toG.cl (HW.out.2 j hj5)
        clear hu he0 he0' hk0 hsl
        by_cases k6 : (rd_T26 l5 i).f0 = 6
        · by_cases y6 : (rd_T26 m5 j).f0 = 6
          · obtain ⟨B1, _, _, rfl, _⟩ := hGu.map_inv k6
            obtain ⟨B2, _, _, rfl, _⟩ := hGv.map_inv y6
            have fu := fun w => qM (.map (some B1)) w
            have fg := fun w => qM (.map (some B2)) w
            have HL := Lib.hid (HI.out i j s B1 B2 hi hj k6 y6 w' HP.out.2.2.2.2.2.2.1 (hGu.keep (fun b hb o ho => (HP.out.2.2.2.2.2.2.1.block b (lt_of_heap ho)).trans ho)) (hGv.keep (fun b hb o ho => (HP.out.2.2.2.2.2.2.1.block b (lt_of_heap ho)).trans ho)))
            have HFE : Hid (F s (rd_T26 m5 j) = mrg (rd_T26 l5 i) (rd_T26 m5 j)) := Lib.hid (by rw [HF.out.2 i s _ hi, if_pos ⟨k6, y6⟩])
            clear hGu hGv hj hi hsz hj5 hi5 cu cg k6 y6
            go_wp2_with fail
            refine HL.out.mono ?_
            rintro e w3 ⟨B, rfl, hG3, hb3⟩
            have hRlt := HP.out.1.lt
            obtain ⟨w4, hput, hrel4⟩ := HPUT.out w3 hb3 (.iface 67 (.map (some B))) (by rw [HFE.out]; exact hG3.mono (fun b hb => hb.elim Or.inl (fun h => Or.inr (by omega))))
            have HR4 := Lib.hid hrel4
            clear hG3 hb3 hrel4 hRlt hlook hrun hen fu fg
            go_wp2_with fail
            go_roundg cnt'
            case measure => exact HLT.out
            case rel => exact HR4.out
          · have fg := cg.noM y6
            obtain ⟨B1, _, _, rfl, _⟩ := hGu.map_inv k6
            have fu := fun w => qM (.map (some B1)) w
            obtain ⟨w4, hput, hrel4⟩ := HPL.out (by rw [HF.out.2 i s _ hi, if_neg (fun h => y6 h.2)])
            have HR4 := Lib.hid hrel4
            unfold NoM at fg
            clear hrel4 hGu hGv hj hi hsz hj5 hi5 cu cg k6 y6
            go_wp2_with fail
            go_roundg cnt'
            case measure => exact HLT.out
            case rel => exact HR4.out
        · have fu := cu.noM k6
          obtain ⟨w4, hput, hrel4⟩ := HPL.out (by rw [HF.out.2 i s _ hi, if_neg (fun h => k6 h.1)])
          have HR4 := Lib.hid hrel4
          unfold NoM at fu
          clear hrel4 hGu hGv hj hi hsz hj5 hi5 cu cg k6
          go_wp2_with fail
          go_roundg cnt'
          case measure => exact HLT.out
          case rel => exact HR4.out
end Go.Proofs.YtcoahpcjhhnkkaaGreatDoor.NumA
/-
gojq.deepMergeObjects at any two objects; impl.Merge.
-/
set_option linter.unusedSimpArgs false
set_option linter.unusedVariables false
namespace Go.Proofs.YtcoahpcjhhnkkaaGreatDoor.NumA
open Go.RowKit Go.Lib Go.Proofs.YtcoahpcjhhnkkaaGreatDoor.ValA Go.Proofs.YtcoahpcjhhnkkaaGreatDoor.FloH Go.Proofs.YtcoahpcjhhnkkaaGreatDoorW.PrintWords Go.Proofs.YtcoahpcjhhnkkaaGreatDoorW.PrintLast Go.Proofs.YtcoahpcjhhnkkaaGreatDoorW.PrintMore Go.Proofs.YtcoahpcjhhnkkaaGreatDoor.PzzFits1
theorem get_at {x : V} (hx : WL x) {i : Nat} {s : ByteArray} (h : x.f4[i]? = some s) : getKV (kv x) s = some (rd_T26 x.f5 i) := by
  have hf := (wf_facts hx).2.2.2
  exact mem_get (kv_rise hx) (zip_at hf.symm h)
theorem get_not {x : V} {s : ByteArray} (h : s ∉ x.f4) : getKV (kv x) s = none := get_none.2 fun q hq e => h (by rw [← e]; exact (kv_mem hq).1)
theorem com_not {a : V} {s : ByteArray} {y : V} (h : s ∉ a.f4) : com a s y = y := by unfold com; rw [get_not h]
theorem com_at {a : V} (ha : WL a) {i : Nat} {s : ByteArray} {y : V} (h : a.f4[i]? = some s) : com a s y = if (rd_T26 a.f5 i).f0 = 6 ∧ y.f0 = 6 then mrg (rd_T26 a.f5 i) y else y := by unfold com; rw [get_at ha h]
theorem mrg_kv {a b : V} : kv (mrg a b) = foldKV (kv a) (kv (mapd a b)) := by rw [mrg_eq]; exact kv_sumM a (mapd a b)
theorem mrg_old {a b : V} (hb : WF b) {s : ByteArray} (hs : s ∉ b.f4) : getKV (kv (mrg a b)) s = getKV (kv a) s := by
  rw [mrg_kv, fold_get s _ _ (mapd_rise hb), get_not (show s ∉ (mapd a b).f4 from hs)]
  rfl
theorem mrg_in {a b : V} (ha : WF a) (hb : WF b) (s : ByteArray) : s ∈ (mrg a b).f4 ↔ s ∈ a.f4 ∨ s ∈ b.f4 := by
  have hfa := (wf_facts (loose ha)).2.2.2
  have hfm := (wf_facts (wl_mrg _ b (Nat.lt_succ_self _) hb a ha)).2.2.2
  rcases Classical.em (s ∈ b.f4) with h | h
  · obtain ⟨j, hj⟩ := List.getElem?_of_mem h
    exact ⟨fun _ => Or.inr h, fun _ => (kv_mem (get_mem (mrg_get (a := a) hb hj))).1⟩
  · have he := mrg_old (a := a) hb h
    constructor
    · intro hm
      obtain ⟨i, hi⟩ := List.getElem?_of_mem hm
      have h1 := get_at (wl_mrg _ b (Nat.lt_succ_self _) hb a ha) hi
      rw [he] at h1
      exact Or.inl (kv_mem (get_mem h1)).1
    · rintro (hm | hm)
      · obtain ⟨i, hi⟩ := List.getElem?_of_mem hm
        have h1 := get_at (loose ha) hi
        rw [← he] at h1
        exact (kv_mem (get_mem h1)).1
      · exact absurd hm h
theorem merge_any : ∀ (N : Nat) (b : V), SizeOf.sizeOf b < N → WF b → Sz b → b.f0 = 6 → ∀ a : V, WF a → Sz a → a.f0 = 6 → ∀ (A : Nat → Prop) (w : World), (∀ b, A b → b < w.heap.size) → ∀ M1 M2 : Nat, GA A w a (.iface 67 (.map (some M1))) → GA A w b (.iface 67 (.map (some M2))) → Calls Tryz.prog 78 #[.map (some M1), .map (some M2)] w (MgIs A (mrg a b) w)
  | 0, _, h, _, _, _, _, _, _, _, _, _, _, _, _, _, _ => absurd h (Nat.not_lt_zero _)
  | N + 1, b, hN, hb, zb, kb, a, ha, za, ka, A, w, hA, M1, M2, hga, hgb => by
    obtain ⟨b1, es, cb, e1, hA1, hl, hw, hst, hkey, he⟩ := hga.map_inv ka
    obtain ⟨b2, fs, cc, e2, hA2, hl', hw', hst', hkey', he'⟩ := hgb.map_inv kb
    cases e1
    cases e2
    have fa := (wf_facts (loose ha)).2.2.2
    have fb := (wf_facts (loose hb)).2.2.2
    have na := rise_len ha
    have nb := rise_len hb
    have hwm := wl_mrg _ b (Nat.lt_succ_self _) hb a ha
    refine (merge_at A w hA M1 M2 cb cc _ _ es fs a.f4 b.f4 a.f5 b.f5 rfl rfl fa.symm fb.symm (by omega) (by omega) hw hst ⟨hl, hkey, sz_h4 za⟩ hw' hst' ⟨hl', hkey', sz_h4 zb⟩
      (fun i s e hi hm hke => he i s _ e hi (rd_at a.f5 i (by have := (List.getElem?_eq_some_iff.1 hi).1; omega)) hm hke) (fun j s e hj hm hke => he' j s _ e hj (rd_at b.f5 j (by have := (List.getElem?_eq_some_iff.1 hj).1; omega)) hm hke)
      (fun i hi => (wf_facts (loose (wf_h5 ha _ (rd_mem a.f5 i hi)))).1) (fun j hj => (wf_facts (loose (wf_h5 hb _ (rd_mem b.f5 j hj)))).1) (com a) (fun s y h => com_not h) (fun i s y h => com_at (loose ha) h) (fun i j s B1 B2 hi hj k6 y6 w1 hw1 q1 q2 => ?_)).mono ?_
    · have hi5 : i < a.f5.length := by have := (List.getElem?_eq_some_iff.1 hi).1; omega
      have hj5 : j < b.f5.length := by have := (List.getElem?_eq_some_iff.1 hj).1; omega
      have hr := rd_mem b.f5 j hj5
      exact merge_any N _ (by
        have h1 := List.sizeOf_lt_of_mem hr
        have h2 := size5c b
        omega) (wf_h5 hb _ hr) (sz_h5 zb _ hr) y6 _ (wf_h5 ha _ (rd_mem a.f5 i hi5)) (sz_h5 za _ (rd_mem a.f5 i hi5)) k6 A w1 (fun b h => Nat.lt_of_lt_of_le (hA b h) hw1.size) B1 B2 q1 q2
    · rintro e w' ⟨ef, k, rfl, hM, hF, hbw, K1, K2⟩
      refine ⟨_, rfl, GA_map (by rw [mrg_eq]; rfl) (wf_facts hwm).2.2.2 (kv_rise hwm) (Or.inr (Nat.le_refl _)) hM (by simpa using hF.stamped) (fun e he => by obtain ⟨t, h, _⟩ := size_keyM hF he; exact ⟨t, h⟩) (fun s => ?_) (fun e he s y hke hg => ?_), hbw⟩
      · rw [mrg_in ha hb]
        constructor
        · rintro ⟨e, he, hke⟩
          obtain ⟨t, e1, hz⟩ := size_keyM hF he
          rw [hke] at e1
          cases e1
          exact (K1 s hz).1 ⟨e, he, hke⟩
        · intro h
          exact (K1 s (h.elim (sz_h4 za s) (sz_h4 zb s))).2 h
      · rcases Classical.em (s ∈ b.f4) with h | h
        · obtain ⟨j, hj⟩ := List.getElem?_of_mem h
          rw [mrg_get (a := a) hb hj] at hg
          cases hg
          exact (K2 e he s hke).1 j hj
        · rw [mrg_old hb h] at hg
          obtain ⟨i, h4, h5⟩ := kv_at (get_mem hg)
          have h6 := (K2 e he s hke).2 i h4 h
          have h7 := rd_at a.f5 i (List.getElem?_eq_some_iff.1 h5).1
          rw [h5] at h7
          have h8 : y = rd_T26 a.f5 i := Option.some.inj h7
          rw [h8]
          exact h6
theorem zz_merge {a b : V} (ha : WF a) (za : Sz a) (ka : a.f0 = 6) (hb : WF b) (zb : Sz b) (kb : b.f0 = 6) {n m : Nat} {w : World} {M1 M2 : Nat} (hg : G n w a (.iface 67 (.map (some M1)))) (hh : G m w b (.iface 67 (.map (some M2)))) : Calls Tryz.prog 45 #[.map (some M1), .map (some M2)] w (ShowsIs (mrg a b) w) := by
  have H := Lib.hid (merge_any _ b (Nat.lt_succ_self _) hb zb kb a ha za ka (fun b => b < w.heap.size) w (fun _ h => h) M1 M2 hg.toGA hh.toGA)
  have HW := Lib.hid (And.intro (wl_mrg _ b (Nat.lt_succ_self _) hb a ha) (sz_mrg _ b (Nat.lt_succ_self _) hb zb a za))
  clear ha za ka hb zb kb hg hh
  go_enter Tryz.func45, Tryz.ntmps45
  go_wp2_with fail
  refine H.out.mono ?_
  rintro e w1 ⟨B, rfl, hG, hb⟩
  have HB := Lib.hid (And.intro (hG.toG.shows HW.out.1 HW.out.2) hb)
  clear hG hb
  go_wp2_with fail
  go_ret
  exact ⟨_, rfl, HB.out.1, HB.out.2⟩
/-- mapToGo at an object. -/
def ToMap (w0 : World) (x : V) (cs : List Value) : Prop := ∀ w, Below w0.heap.size w0 w →
  Calls Tryz.prog 44 #[.agg cs.toArray] w fun e w' => ∃ B : Nat, e = .returned (.tuple #[.map (some B), .bool true]) ∧ G w.heap.size w' x (.iface 67 (.map (some B))) ∧ Below w.heap.size w w'
theorem toMap_any (w0 : World) {x : V} (hx : WL x) (zx : Sz x) (k6 : x.f0 = 6) {cs : List Value} (hK : k26.K w0 x cs) : ToMap w0 x cs := by
  obtain ⟨A3, c3, A4, c4, A5, c5, rfl, l3, g3, l4, g4, l5, g5⟩ := k26_open hK
  obtain ⟨f0, f6, fj, f45⟩ := wf_facts hx
  obtain ⟨_, _, _, n3, n4, hk, w3, w5⟩ := hx
  obtain ⟨_, z2, z4, z3, z5⟩ := zx
  intro w hb
  rw [← f45] at g5 ⊢
  refine (mapToGo_any w0 x.f0 x.f1 x.f2 A3 A4 A5 x.f3.length c3 x.f4.length c4 c5 x.f4 x.f5 g4 g5 rfl f45.symm n4 z4 hk (fun y hy cs hc => toGo_any w0 _ y (Nat.lt_succ_self _) (z5 y hy) (w5 y hy) cs hc) w hb).mono ?_
  rintro e w' ⟨b, es, c, rfl, hle, hvl, hbl, hst, hkey, hG, hbb⟩
  exact ⟨b, rfl, .map x k6 b es c hle hvl hbl hst (ordered_keys hvl hkey) (fun i s y v hs hy hv hk => ordered_val hst hvl hkey hG hs hy hv hk), hbb⟩
set_option maxHeartbeats 4000000 in
theorem impl_Merge (w0 : World) (a b x : V) (Ka Ha : Int) (sa : ByteArray) (A3a A4a A5a : Option Addr) (n3a c3a n4a c4a n5a c5a : Nat) (Kb Hb : Int) (sb : ByteArray) (A3b A4b A5b : Option Addr) (n3b c3b n4b c4b n5b c5b : Nat) (k6a : (Ka != 6) = false) (Ta : ToMap w0 a [.int .i64 Ka, .int .i64 Ha, .string sa, .slice A3a n3a c3a, .slice A4a n4a c4a, .slice A5a n5a c5a]) (k6b : (Kb != 6) = false) (Tb : ToMap w0 b [.int .i64 Kb, .int .i64 Hb, .string sb, .slice A3b n3b c3b, .slice A4b n4b c4b, .slice A5b n5b c5b])
    (HC : ∀ (g h n m : Nat) w, G n w a (.iface 67 (.map (some g))) → G m w b (.iface 67 (.map (some h))) → Calls Tryz.prog 45 #[.map (some g), .map (some h)] w (ShowsIs x w)) (w : World) (hb : Below w0.heap.size w0 w) :
    Calls Tryz.prog 27 #[.agg #[.int .i64 Ka, .int .i64 Ha, .string sa, .slice A3a n3a c3a, .slice A4a n4a c4a, .slice A5a n5a c5a], .agg #[.int .i64 Kb, .int .i64 Hb, .string sb, .slice A3b n3b c3b, .slice A4b n4b c4b, .slice A5b n5b c5b]] w (ResIs x w) := by
  have HXa := Lib.hid Ta
  have HXb := Lib.hid Tb
  have HCC := Lib.hid HC
  have HB := Lib.hid hb
  clear Ta Tb HC hb
  go_enter Tryz.func27, Tryz.ntmps27
  go_wp2_with fail
  obtain ⟨W0, hw0⟩ : ∃ W0, W0 = ((w.alloc (.cells #[.int .i64 Ka, .int .i64 Ha, .string sa, .slice A3a n3a c3a, .slice A4a n4a c4a, .slice A5a n5a c5a] 26)).alloc (.cells #[.int .i64 Kb, .int .i64 Hb, .string sb, .slice A3b n3b c3b, .slice A4b n4b c4b, .slice A5b n5b c5b] 26)).alloc (.cells #[.int .i64 0, .int .i64 0, .string ⟨#[]⟩, .slice none 0 0, .slice none 0 0, .slice none 0 0, .int .i64 0] 36) := ⟨_, rfl⟩
  have h0 : SPL w [(w.heap.size, #[.int .i64 Ka, .int .i64 Ha, .string sa, .slice A3a n3a c3a, .slice A4a n4a c4a, .slice A5a n5a c5a], 26), (w.heap.size + 1, #[.int .i64 Kb, .int .i64 Hb, .string sb, .slice A3b n3b c3b, .slice A4b n4b c4b, .slice A5b n5b c5b], 26), (w.heap.size + 1 + 1, #[.int .i64 0, .int .i64 0, .string ⟨#[]⟩, .slice none 0 0, .slice none 0 0, .slice none 0 0, .int .i64 0], 36)] W0 := by rw [hw0]; exact SPL.three w _ _ _ _ _ _
  rw [← hw0]
  clear hw0
  have H0 := Lib.hid (And.intro h0 True.intro)
  clear h0
  refine (HXa.out W0 (HB.out.trans (H0.out.1.1.mono HB.out.size))).mono ?_
  rintro e w1 ⟨g, rfl, hG, hb⟩
  have H1 := Lib.hid (And.intro (H0.out.1.below hb) (And.intro hG True.intro))
  clear hb H0 hG
  have y := six_cells (H1.out.1.get 1 rfl)
  go_wp2_with fail
  refine (HXb.out w1 (HB.out.trans (H1.out.1.1.mono HB.out.size))).mono ?_
  rintro e w2 ⟨h, rfl, hG, hb⟩
  clear y
  have yh := H1.out.1.below hb
  have ya := six_cells (yh.get 0 rfl)
  have yb := six_cells (yh.get 1 rfl)
  have H2 := Lib.hid (And.intro (H1.out.1.below hb) (And.intro (H1.out.2.1.keepB hb) (And.intro hG True.intro)))
  clear hb H1 hG yh
  go_wp2_with fail
  refine (HCC.out g h _ _ w2 H2.out.2.1 H2.out.2.2.1).mono ?_
  rintro e w3 ⟨r, rfl, hG, hb⟩
  have H3 := Lib.hid (H2.out.1.below hb)
  have HD := Lib.hid (result_any x r w3 hG.1 hG.2)
  clear hb H2 hG ya yb
  go_wp2_with fail
  refine HD.out.mono ?_
  rintro e w4 ⟨B3, d3, B4, d4, B5, d5, rfl, hM, hb⟩
  have hs := H3.out.below hb
  have hx := hs.get 2 rfl
  have hs3 : w.heap.size + 1 + 1 < w3.heap.size := lt_of_heap (H3.out.get 2 rfl)
  have H4 := Lib.hid (And.intro hs.1 (And.intro hM hs3))
  clear hb H3 hM hs3 hs
  have y := sev_cells hx
  go_wp2_with fail
  have hz := sev_set hx (.int .i64 x.f0) (.int .i64 x.f1) (.string x.f2) (.slice B3 x.f3.length d3) (.slice B4 x.f4.length d4) (.slice B5 x.f5.length d5) (.int .i64 0)
  have hg := sev_grown w4 (w.heap.size + 1 + 1) (.int .i64 x.f0) (.int .i64 x.f1) (.string x.f2) (.slice B3 x.f3.length d3) (.slice B4 x.f4.length d4) (.slice B5 x.f5.length d5) (.int .i64 0)
  obtain ⟨W2, hW⟩ : ∃ W2, W2 = ((((((w4.setCell ⟨w.heap.size + 1 + 1, 0, none⟩ (.int .i64 x.f0)).setCell ⟨w.heap.size + 1 + 1, 1, none⟩ (.int .i64 x.f1)).setCell ⟨w.heap.size + 1 + 1, 2, none⟩ (.string x.f2)).setCell ⟨w.heap.size + 1 + 1, 3, none⟩ (.slice B3 x.f3.length d3)).setCell ⟨w.heap.size + 1 + 1, 4, none⟩ (.slice B4 x.f4.length d4)).setCell ⟨w.heap.size + 1 + 1, 5, none⟩ (.slice B5 x.f5.length d5)).setCell ⟨w.heap.size + 1 + 1, 6, none⟩ (.int .i64 0) := ⟨_, rfl⟩
  rw [← hW] at hz hg ⊢
  clear hW y hx
  obtain ⟨q0, q1, q2, q3, q4, q5, q6, _⟩ := sev_cells hz
  refine bodyPost_ret (v := .agg #[.int .i64 x.f0, .int .i64 x.f1, .string x.f2, .slice B3 x.f3.length d3, .slice B4 x.f4.length d4, .slice B5 x.f5.length d5, .int .i64 0]) (by simp [results, Tryz.results27, go_sem, q0, q1, q2, q3, q4, q5, q6]) rfl ?_
  have hs3 := H4.out.2.2
  have hM4 := Kd.M_grown H4.out.2.1 hg (fun k hk e => by cases e; have : w3.heap.size ≤ w.heap.size + 1 + 1 := hk; omega)
  exact ⟨B3, d3, B4, d4, B5, d5, rfl, k26.M_mono (fun k hk => by show w.heap.size ≤ k; have : w3.heap.size ≤ k := hk; omega) (k26.M_lower (by omega) hM4), H4.out.1.grown hg H4.out.1.size (fun k hk => by cases hk; omega)⟩
end Go.Proofs.YtcoahpcjhhnkkaaGreatDoor.NumA
