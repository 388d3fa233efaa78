/-
Parts of the proof, one behind the other: CmpF, CmpG, CmpH.
-/
import Derived.Test.YtbnfeicpjmfooaaGreatDoorCmpE
import Derived.Test.YtbnfeicpjmfooaaGreatDoorM4
/-
gojq.Compare's callback at two lists.
-/
set_option linter.unusedSimpArgs false
set_option linter.unusedVariables false
namespace Go.Proofs.YtbnfeicpjmfooaaGreatDoor.NumA
open Go.RowKit Go.Lib Go.Proofs.YtbnfeicpjmfooaaGreatDoor.ValA Go.Proofs.YtbnfeicpjmfooaaGreatDoor.FloH Go.Proofs.YtbnfeicpjmfooaaGreatDoorW.PrintWords Go.Proofs.YtbnfeicpjmfooaaGreatDoorW.PrintLast Go.Proofs.YtbnfeicpjmfooaaGreatDoorW.PrintMore Go.Proofs.YtbnfeicpjmfooaaGreatDoor.PzzFits1
/-- The head of a round over two lists. -/
def RCl (w : World) (l l' : List V) (p k : Nat) (i : Value) (wr : World) : Prop :=
  ∃ j : Nat, i = .int .i64 j ∧ k + j = p ∧ Below w.heap.size w wr ∧ cmpL (l.drop j) (l'.drop j) = cmpL l l'
set_option maxRecDepth 100000 in
set_option maxHeartbeats 4000000 in
theorem cmp_lists_at (w : World) (b c n m p : Nat) (hp : min n m = p) (hpi : min (n : Int) (m : Int) = (p : Int)) (l l' : List V) (vs us : List Value) (hl : l.length = n) (hl' : l'.length = m) (hn : n ≤ 1000000) (hm : m ≤ 1000000) (hvs : vs.length = n) (hus : us.length = m)
    (hb : w.heap[b]? = some (.cells vs.toArray 20 (0, 0))) (hc : w.heap[c]? = some (.cells us.toArray 20 (0, 0)))
    (IH : ∀ (j : Nat) (v u : Value), vs[j]? = some v → us[j]? = some u → ∀ w', Below w.heap.size w w' → Calls Tryz.prog 163 #[v, u] w' (Gz (cmpV (rd_T26 l j) (rd_T26 l' j)) w')) :
    Calls Tryz.prog 198 #[.slice (some ⟨b, 0, none⟩) n n, .slice (some ⟨c, 0, none⟩) m m] w (Gz (cmpL l l').sign w) := by
  have HI := Lib.hid (fun j v u h h' w' hw => IH j v u h h' w' hw)
  have HBC := Lib.hid (And.intro hb hc)
  have HN := Lib.hid (And.intro hl hl')
  have HM := Lib.hid (And.intro hn hm)
  have HV := Lib.hid (And.intro hvs hus)
  have HP := Lib.hid hp
  clear IH hb hc hl hl' hn hm hvs hus hp
  go_enter Tryz.func198, Tryz.ntmps198
  go_wp2_with fail
  go_loopg [12] p (fun k i wr => RCl w l l' p k i wr)
  case atStart => exact ⟨0, rfl, by omega, Below.refl _ _, rfl⟩
  case round =>
    obtain ⟨j, rfl, hkj, hbr, hcm⟩ := hrel
    have HR := Lib.hid (And.intro hbr (And.intro hcm hkj))
    clear hkj hcm
    by_cases hlt : j < p
    · have hjn : j < n ∧ j < m := by have := HP.out; omega
      obtain ⟨v, hv⟩ : ∃ v, vs[j]? = some v := ⟨_, List.getElem?_eq_getElem (by have := HV.out.1; omega)⟩
      obtain ⟨u, hu⟩ : ∃ u, us[j]? = some u := ⟨_, List.getElem?_eq_getElem (by have := HV.out.2; omega)⟩
      have HL := Lib.hid (fun w' hw => HI.out j v u hv hu w' hw)
      have x0 : wr.cell? ⟨b, j, none⟩ = some v := by
        have h := list_cell ((hbr.block _ (lt_of_heap HBC.out.1)).trans HBC.out.1) (by have := HV.out.1; omega : j < vs.length)
        rw [List.getElem?_eq_getElem (by have := HV.out.1; omega)] at hv
        rw [h.1, Option.some.inj hv]
      have x1 : wr.cell? ⟨c, j, none⟩ = some u := by
        have h := list_cell ((hbr.block _ (lt_of_heap HBC.out.2)).trans HBC.out.2) (by have := HV.out.2; omega : j < us.length)
        rw [List.getElem?_eq_getElem (by have := HV.out.2; omega)] at hu
        rw [h.1, Option.some.inj hu]
      clear hv hu
      have e0 : (j : Int) < (p : Int) := by omega
      have e1 : (j : Int) < (n : Int) := by omega
      have e2 : (j : Int) < (m : Int) := by omega
      have HLT := Lib.hid (And.intro hlt hjn)
      clear hbr hlt hjn hpi
      go_wp2_with fail
      refine start_ (n := 10) (S := fun w' => w'.cell? ⟨b, j, none⟩ = some v ∧ w'.cell? ⟨c, j, none⟩ = some u ∧ Below w.heap.size w w') (ds := []) #[false, false, false, false, false, false, false, false, false, false] (by kernel_rfl) rfl rfl ⟨(pw_cell_below ((Below.refl _ wr).drew) x0), (pw_cell_below ((Below.refl _ wr).drew) x1), (HR.out.1.drew)⟩ (fun hHeld => ?_)
      refine pure_ (i := 0) (N := some 15) (v := ?_) (a' := ?_) #[true, false, false, false, false, false, false, false, false, false] rfl rfl (by kernel_rfl) (fun _ _ _ h => h) (Or.inl ⟨by rfl, ?_⟩) ?_ ?_
      rotate_left
      · intro w'
        go_simp
        with_reducible rfl
      rotate_left
      · simp only [Act.put, List.setIfInBounds_toArray, List.set_cons_zero, List.set_cons_succ, i64_w, i32_w]
        rfl
      refine pure_ (i := 1) (N := some 16) (v := ?_) (a' := ?_) #[true, true, false, false, false, false, false, false, false, false] rfl rfl (by kernel_rfl) (fun _ _ _ h => h) (Or.inl ⟨by rfl, ?_⟩) ?_ ?_
      rotate_left
      · intro w'
        go_simp
        with_reducible rfl
      rotate_left
      · simp only [Act.put, List.setIfInBounds_toArray, List.set_cons_zero, List.set_cons_succ, i64_w, i32_w]
        rfl
      refine pure_ (i := 2) (N := some 17) (v := ?_) (a' := ?_) #[true, true, true, false, false, false, false, false, false, false] rfl rfl (by kernel_rfl) (fun _ _ _ h => h) (Or.inl ⟨by rfl, ?_⟩) ?_ ?_
      rotate_left
      · intro w'
        go_simp
        with_reducible rfl
      rotate_left
      · simp only [Act.put, List.setIfInBounds_toArray, List.set_cons_zero, List.set_cons_succ, i64_w, i32_w]
        rfl
      refine pure_ (i := 4) (N := some 19) (v := ?_) (a' := ?_) #[true, true, true, false, true, false, false, false, false, false] rfl rfl (by kernel_rfl) (fun _ _ _ h => h) (Or.inl ⟨by rfl, ?_⟩) ?_ ?_
      rotate_left
      · intro w'
        go_simp
        with_reducible rfl
      rotate_left
      · simp only [Act.put, List.setIfInBounds_toArray, List.set_cons_zero, List.set_cons_succ, i64_w, i32_w]
        rfl
      refine pure_ (i := 5) (N := some 20) (v := ?_) (a' := ?_) #[true, true, true, false, true, true, false, false, false, false] rfl rfl (by kernel_rfl) (fun _ _ _ h => h) (Or.inl ⟨by rfl, ?_⟩) ?_ ?_
      rotate_left
      · intro w'
        go_simp
        with_reducible rfl
      rotate_left
      · simp only [Act.put, List.setIfInBounds_toArray, List.set_cons_zero, List.set_cons_succ, i64_w, i32_w]
        rfl
      refine pure_ (i := 6) (N := some 21) (v := ?_) (a' := ?_) #[true, true, true, false, true, true, true, false, false, false] rfl rfl (by kernel_rfl) (fun _ _ _ h => h) (Or.inl ⟨by rfl, ?_⟩) ?_ ?_
      rotate_left
      · intro w'
        go_simp
        with_reducible rfl
      rotate_left
      · simp only [Act.put, List.setIfInBounds_toArray, List.set_cons_zero, List.set_cons_succ, i64_w, i32_w]
        rfl
      refine take_ (i := 3) (N := some 18) (v := ?_) (a' := ?_) #[true, true, true, true, true, true, true, false, false, false] rfl rfl (by kernel_rfl) (fun _ _ _ h => h) (Or.inl ⟨by rfl, ?_⟩) hHeld ?_ ?_
      rotate_left
      · rintro w' ⟨s0, s1, s2⟩
        go_simp
        with_reducible rfl
      rotate_left
      · simp only [Act.put, List.setIfInBounds_toArray, List.set_cons_zero, List.set_cons_succ, i64_w, i32_w]
        rfl
      refine take_ (i := 7) (N := some 22) (v := ?_) (a' := ?_) #[true, true, true, true, true, true, true, true, false, false] rfl rfl (by kernel_rfl) (fun _ _ _ h => h) (Or.inl ⟨by rfl, ?_⟩) hHeld ?_ ?_
      rotate_left
      · rintro w' ⟨s0, s1, s2⟩
        go_simp
        with_reducible rfl
      rotate_left
      · simp only [Act.put, List.setIfInBounds_toArray, List.set_cons_zero, List.set_cons_succ, i64_w, i32_w]
        rfl
      refine one_ (i := 8) (N := some 23) #[true, true, true, true, true, true, true, true, true, false] rfl rfl (by kernel_rfl) (by decide) (fun K hK => ?_)
      refine goes_ Tryz.func163 (by kernel_rfl) rfl #[v, u] (by rfl) rfl rfl (by simp only [List.map_toArray, List.map_cons, List.map_nil]; rfl) ?_
      with_reducible refine ((HL.out _ hHeld.2.2)).mono ?_
      rintro e w3 ⟨rfl, hb⟩
      refine ⟨_, rfl, ?_⟩
      have hbz := hHeld.2.2.trans (hb.mono hHeld.2.2.size)
      refine hK.out _ _ ⟨(pw_cell_below hb hHeld.1), (pw_cell_below hb hHeld.2.1), hbz⟩ (fun hHeld => ?_)
      clear hK K
      refine norm_ (a' := ?_) ?_ ?_
      rotate_left
      · show Act.put _ (some 23) _ = _
        simp only [Act.put, List.setIfInBounds_toArray, List.set_cons_zero, List.set_cons_succ, i64_w, i32_w]
        rfl
      refine pure_ (i := 9) (N := some 6) (v := ?_) (a' := ?_) #[true, true, true, true, true, true, true, true, true, true] rfl rfl (by kernel_rfl) (fun _ _ _ h => h) (Or.inl ⟨by rfl, ?_⟩) ?_ ?_
      rotate_left
      · intro w'
        go_simp
        with_reducible rfl
      rotate_left
      · simp only [Act.put, List.setIfInBounds_toArray, List.set_cons_zero, List.set_cons_succ, i64_w, i32_w]
        rfl
      refine done_ (by kernel_rfl) ?_
      cases hz : (cmpV (rd_T26 l j) (rd_T26 l' j) != 0) with
      | true =>
        go_wp2_with fail
        go_ret
        refine ⟨?_, hbz⟩
        have h := cmpL_first l l' j (by have := HN.out.1; have := HLT.out; omega) (by have := HN.out.2; have := HLT.out; omega) (by simpa using hz)
        rw [← HR.out.2.1, h, cmpV_sign]
        rfl
      | false =>
        have HZ := Lib.hid (show cmpV (rd_T26 l j) (rd_T26 l' j) = 0 by simpa using hz)
        go_wp2_with fail
        go_roundg (gk - 1)
        case measure => have := HR.out.2.2; have := HLT.out.1; omega
        case rel =>
          have hw : wrap64 ((j : Int) + 1) = ((j + 1 : Nat) : Int) := by have := HM.out.1; have := HLT.out; unfold wrap64; omega
          try rw [hw]
          exact ⟨j + 1, rfl, by have := HR.out.2.2; have := HLT.out.1; omega, hbz, by rw [← HR.out.2.1, cmpL_zero l l' j (by have := HN.out.1; have := HLT.out; omega) (by have := HN.out.2; have := HLT.out; omega) HZ.out]⟩
    · have q2 : ¬ (j : Int) < (p : Int) := by omega
      have q4 : decide ((j : Int) < (p : Int)) = false := decide_eq_false q2
      have q5 : decide (j < p) = false := decide_eq_false hlt
      have HE := Lib.hid hlt
      clear hbr hlt q2 hpi
      go_wp2_with fail
      refine (cmp_ints _ _ _).mono ?_
      rintro e w1 ⟨rfl, hb⟩
      have H1 := Lib.hid (HR.out.1.trans (hb.mono HR.out.1.size))
      clear hb
      go_wp2_with fail
      go_ret
      refine ⟨?_, H1.out⟩
      have h := cmpL_end l l' j (by have := HN.out.1; have := HP.out; have := HE.out; have := HR.out.2.2; omega) (by have := HN.out.2; have := HP.out; have := HE.out; have := HR.out.2.2; omega) (by have := HN.out; have := HP.out; have := HE.out; have := HR.out.2.2; omega)
      rw [← HR.out.2.1, h, HN.out.1, HN.out.2]
      rfl
theorem cmp_lists_any (w : World) (b c n m : Nat) (l l' : List V) (vs us : List Value) (hl : l.length = n) (hl' : l'.length = m) (hn : n ≤ 1000000) (hm : m ≤ 1000000) (hvs : vs.length = n) (hus : us.length = m)
    (hb : w.heap[b]? = some (.cells vs.toArray 20 (0, 0))) (hc : w.heap[c]? = some (.cells us.toArray 20 (0, 0)))
    (IH : ∀ (j : Nat) (v u : Value), vs[j]? = some v → us[j]? = some u → ∀ w', Below w.heap.size w w' → Calls Tryz.prog 163 #[v, u] w' (Gz (cmpV (rd_T26 l j) (rd_T26 l' j)) w')) :
    Calls Tryz.prog 163 #[.iface 81 (.slice (some ⟨b, 0, none⟩) n n), .iface 81 (.slice (some ⟨c, 0, none⟩) m m)] w (Gz (cmpL l l').sign w) :=
  compare_of _ _ _ w (bin_cmp_ll _ _ _ n m w (cmp_lists_at w b c n m _ rfl (by omega) l l' vs us hl hl' hn hm hvs hus hb hc IH))
end Go.Proofs.YtbnfeicpjmfooaaGreatDoor.NumA
/-
gojq.Compare at any two values of JSON.
-/
set_option linter.unusedSimpArgs false
set_option linter.unusedVariables false
namespace Go.Proofs.YtbnfeicpjmfooaaGreatDoor.NumA
open Go.RowKit Go.Lib Go.Proofs.YtbnfeicpjmfooaaGreatDoor.ValA Go.Proofs.YtbnfeicpjmfooaaGreatDoor.FloH Go.Proofs.YtbnfeicpjmfooaaGreatDoorW.PrintWords Go.Proofs.YtbnfeicpjmfooaaGreatDoorW.PrintLast Go.Proofs.YtbnfeicpjmfooaaGreatDoorW.PrintMore Go.Proofs.YtbnfeicpjmfooaaGreatDoor.PzzFits1
theorem qSs (v : Value) (w : World) : (Instr.typeAssert (.iface 9 v) 20 9 false).run Tryz.prog w = .ok v w := by kernel_rfl
theorem qLs (v : Value) (w : World) : (Instr.typeAssert (.iface 81 v) 20 81 false).run Tryz.prog w = .ok v w := by kernel_rfl
/-- A key as a value. -/
def txV (s : ByteArray) : V := ⟨4, 0, s, [], [], []⟩
theorem cmpV_tx (s t : ByteArray) : cmpV (txV s) (txV t) = tx s t := by
  rw [cmpV_eq]
  rfl
theorem cmpL_tx : ∀ l l' : List ByteArray, cmpL (l.map txV) (l'.map txV) = cmpK l l'
  | [], l => by simp only [List.map_nil]; rw [cmpK, cmpL, List.length_map]
  | x :: l, [] => by simp only [List.map_nil, List.map_cons]; rw [cmpK, cmpL]; simp
  | x :: l, y :: l' => by simp only [List.map_cons]; rw [cmpK, cmpL, cmpV_tx, cmpL_tx l l']
theorem cmpK_zero_eq : ∀ l l' : List ByteArray, cmpK l l' = 0 → l = l'
  | [], l, h => by
    rw [cmpK] at h
    cases l with
    | nil => rfl
    | cons x t => simp at h; omega
  | x :: l, [], h => by rw [cmpK] at h; simp at h; omega
  | x :: l, y :: l', h => by
    rw [cmpK] at h
    by_cases c : tx x y = 0
    · rw [if_pos c] at h
      have e : (tx x y == 0) = true := by simpa using c
      rw [tx_zero, decide_eq_true_eq] at e
      rw [e, cmpK_zero_eq l l' h]
    · rw [if_neg c] at h
      exact absurd h c
/-- Two maps' lists of keys. -/
theorem compare_keys (w : World) (b c n m : Nat) (l l' : List ByteArray) (hl : l.length = n) (hl' : l'.length = m) (hn : n ≤ 1000000) (hm : m ≤ 1000000)
    (hb : w.heap[b]? = some (.cells (l.map skey).toArray 20 (0, 0))) (hc : w.heap[c]? = some (.cells (l'.map skey).toArray 20 (0, 0))) :
    Calls Tryz.prog 163 #[.iface 81 (.slice (some ⟨b, 0, none⟩) n n), .iface 81 (.slice (some ⟨c, 0, none⟩) m m)] w (Gz (cmpK l l').sign w) := by
  have h := cmp_lists_any w b c n m (l.map txV) (l'.map txV) (l.map skey) (l'.map skey) (by simpa using hl) (by simpa using hl') hn hm (by simpa using hl) (by simpa using hl') hb hc ?_
  · rwa [cmpL_tx] at h
  · intro j v u hv hu w' _
    have h1 : j < l.length := by have := (List.getElem?_eq_some_iff.1 hv).1; simpa using this
    have h2 : j < l'.length := by have := (List.getElem?_eq_some_iff.1 hu).1; simpa using this
    have e1 := rd_at (l.map txV) j (by simpa using h1)
    have e2 := rd_at (l'.map txV) j (by simpa using h2)
    rw [List.getElem?_map, List.getElem?_eq_getElem h1, Option.map_some] at e1 hv
    rw [List.getElem?_map, List.getElem?_eq_getElem h2, Option.map_some] at e2 hu
    rw [← Option.some.inj e1, ← Option.some.inj e2, ← Option.some.inj hv, ← Option.some.inj hu, cmpV_tx]
    exact compare_strs _ _ w'
/-- The head of a round over two maps' keys. -/
def RCm (w : World) (g : Nat) (l : List ByteArray) (l5 m5 : List V) (n k : Nat) (i : Value) (wr : World) : Prop :=
  ∃ j : Nat, i = .int .i64 j ∧ k + j = n ∧ Below w.heap.size w wr ∧ wr.heap[g]? = some (.cells (l.map skey).toArray 20 (0, 0)) ∧ cmpL (l5.drop j) (m5.drop j) = cmpL l5 m5
set_option maxRecDepth 100000 in
set_option maxHeartbeats 4000000 in
theorem cmp_maps_at (w : World) (b c cb cc n m : Nat) (es fs : List MapEntry) (l l' : List ByteArray) (l5 m5 : List V) (hl : l.length = n) (hl' : l'.length = m) (hn : n ≤ 1000000) (hm : m ≤ 1000000) (h5 : l5.length = n) (h5' : m5.length = m)
    (hb : w.heap[b]? = some (.map es.toArray cb)) (hst : MapKept.Stamped es.toArray cb) (hk : KeysAre es l)
    (hrise : ∀ i : Nat, 0 < i → i < l.length → Op.bytesLess (rdOf ByteArray.empty l (i - 1 : Nat)).toList (rdOf ByteArray.empty l i).toList = true)
    (hc : w.heap[c]? = some (.map fs.toArray cc)) (hst' : MapKept.Stamped fs.toArray cc) (hk' : KeysAre fs l')
    (hrise' : ∀ i : Nat, 0 < i → i < l'.length → Op.bytesLess (rdOf ByteArray.empty l' (i - 1 : Nat)).toList (rdOf ByteArray.empty l' i).toList = true)
    (IH : ∀ (j : Nat) (e f : MapEntry), e ∈ es → e.key = .string (rdOf ByteArray.empty l j) → f ∈ fs → f.key = .string (rdOf ByteArray.empty l' j) → j < l5.length → j < m5.length → ∀ w', Below w.heap.size w w' → Calls Tryz.prog 163 #[e.val, f.val] w' (Gz (cmpV (rd_T26 l5 j) (rd_T26 m5 j)) w')) :
    Calls Tryz.prog 199 #[.map (some b), .map (some c)] w (Gz (if cmpK l l' = 0 then (cmpL l5 m5).sign else (cmpK l l').sign) w) := by
  have HI := Lib.hid (fun j e f h hh h' hh' g g' w' hw => IH j e f h hh h' hh' g g' w' hw)
  have HA := Lib.hid (fun (w' : World) (hw : Below w.heap.size w w') => funcKeys_map w' b cb n es l hl ((hw.block _ (lt_of_heap hb)).trans hb) hst hn hk hrise)
  have HB := Lib.hid (fun (w' : World) (hw : Below w.heap.size w w') => funcKeys_map w' c cc m fs l' hl' ((hw.block _ (lt_of_heap hc)).trans hc) hst' hm hk' hrise')
  have HKA := Lib.hid (And.intro hb (And.intro hst hk))
  have HKB := Lib.hid (And.intro hc (And.intro hst' hk'))
  have HL := Lib.hid (And.intro hl hl')
  have HN := Lib.hid (And.intro hn hm)
  have H5 := Lib.hid (And.intro h5 h5')
  obtain ⟨rr, hrr⟩ : ∃ rr, rr = (if cmpK l l' = 0 then (cmpL l5 m5).sign else (cmpK l l').sign) := ⟨_, rfl⟩
  rw [← hrr]
  have HRR := Lib.hid hrr
  clear hrr
  clear IH hb hst hk hrise hc hst' hk' hrise' hl hl' hn hm h5 h5'
  go_enter Tryz.func199, Tryz.ntmps199
  go_wp2_with fail
  refine (HA.out _ (Below.refl _ _)).mono ?_
  rintro e w1 ⟨rfl, hbl, hbb⟩
  have H1 := Lib.hid (And.intro hbb hbl)
  rw [HL.out.1]
  clear hbl hbb
  go_wp2_with fail
  refine (HB.out _ H1.out.1).mono ?_
  rintro e w2 ⟨rfl, hbl, hbb⟩
  have H2 := Lib.hid (And.intro (H1.out.1.trans (hbb.mono H1.out.1.size)) (And.intro ((hbb.block _ (lt_of_heap H1.out.2)).trans H1.out.2) hbl))
  rw [HL.out.2]
  clear hbl hbb H1
  have HC := Lib.hid (compare_keys w2 _ _ n m l l' HL.out.1 HL.out.2 HN.out.1 HN.out.2 H2.out.2.1 H2.out.2.2)
  go_wp2_with fail
  refine HC.out.mono ?_
  rintro e w3 ⟨rfl, hbb⟩
  have H3 := Lib.hid (And.intro (H2.out.1.trans (hbb.mono H2.out.1.size)) ((hbb.block _ (lt_of_heap H2.out.2.1)).trans H2.out.2.1))
  clear hbb H2 HC
  cases hz : ((cmpK l l').sign != 0) with
  | true =>
    have HZ := Lib.hid (show cmpK l l' ≠ 0 by intro h; rw [h] at hz; simp at hz)
    go_wp2_with fail
    go_ret
    exact ⟨by rw [HRR.out, if_neg HZ.out]; rfl, H3.out.1⟩
  | false =>
    have hz0 : cmpK l l' = 0 := by
      have : (cmpK l l').sign = 0 := by simpa using hz
      have := sg (cmpK l l')
      omega
    have HZ := Lib.hid hz0
    obtain rfl := cmpK_zero_eq l l' hz0
    have hmn : m = n := by rw [← HL.out.2, HL.out.1]
    subst hmn
    clear hz0
    have hLs := qLs (.slice (some ⟨w.heap.size, 0, none⟩) m m)
    go_wp2_with fail
    clear hz hLs
    go_loopg [26] m (fun k i wr => RCm w w.heap.size l l5 m5 m k i wr)
    case atStart => exact ⟨0, rfl, by omega, H3.out.1, H3.out.2, rfl⟩
    case round =>
      clear H3
      obtain ⟨j, rfl, hkj, hbr, hbl, hcm⟩ := hrel
      have HR := Lib.hid (And.intro hbr (And.intro hcm (And.intro hkj hbl)))
      clear hkj hcm
      by_cases hlt : j < m
      · have x0 : wr.cell? ⟨w.heap.size, j, none⟩ = some (skey (rdOf ByteArray.empty l j)) := by
          have h := list_cell hbl (by simp; have := HL.out.1; omega : j < (l.map skey).length)
          rw [h.1]
          have e := key_rd l j (by have := HL.out.1; omega)
          rw [List.getElem?_eq_getElem (by have := HL.out.1; omega)] at e
          rw [List.getElem_map, Option.some.inj e]
        unfold skey at x0
        obtain ⟨ea, a0, a1, a2⟩ := entry_at HKA.out.1 HKA.out.2.1 HKA.out.2.2 j (by have := HL.out.1; omega)
        obtain ⟨eb, b0, b1, b2⟩ := entry_at HKB.out.1 HKB.out.2.1 HKB.out.2.2 j (by have := HL.out.1; omega)
        have HLO := Lib.hid (fun w' hw => HI.out j ea eb a0 a1 b0 b1 (by have := H5.out.1; omega) (by have := H5.out.2; omega) w' hw)
        have HQ := Lib.hid (And.intro a2 b2)
        have gS := fun w => qS (.string (rdOf ByteArray.empty l j)) w
        have hS := qSs (.string (rdOf ByteArray.empty l j))
        have e0 : (j : Int) < (m : Int) := by omega
        have HLT := Lib.hid hlt
        clear hbr hbl hlt a0 b0 a1 b1 a2 b2
        go_wp2_with fail
        refine start_ (n := 10) (S := fun w' => (Instr.lookup 90 (.map (some b)) (.string (rdOf ByteArray.empty l j)) false).run Tryz.prog w' = .ok ea.val w' ∧ (Instr.lookup 90 (.map (some c)) (.string (rdOf ByteArray.empty l j)) false).run Tryz.prog w' = .ok eb.val w' ∧ Below w.heap.size w w' ∧ w'.heap[w.heap.size]? = some (.cells (l.map skey).toArray 20 (0, 0))) (ds := []) #[false, false, false, false, false, false, false, false, false, false] (by kernel_rfl) rfl rfl ⟨(HQ.out.1 _ (HR.out.1.drew)), (HQ.out.2 _ (HR.out.1.drew)), (HR.out.1.drew), HR.out.2.2.2⟩ (fun hHeld => ?_)
        refine pure_ (i := 0) (N := some 30) (v := ?_) (a' := ?_) #[true, false, false, false, false, false, false, false, false, false] rfl rfl (by kernel_rfl) (fun _ _ _ h => h) (Or.inl ⟨by rfl, ?_⟩) ?_ ?_
        rotate_left
        · intro w'
          go_simp
          with_reducible rfl
        rotate_left
        · simp only [Act.put, List.setIfInBounds_toArray, List.set_cons_zero, List.set_cons_succ, i64_w, i32_w]
          rfl
        refine pure_ (i := 1) (N := some 31) (v := ?_) (a' := ?_) #[true, true, false, false, false, false, false, false, false, false] rfl rfl (by kernel_rfl) (fun _ _ _ h => h) (Or.inl ⟨by rfl, ?_⟩) ?_ ?_
        rotate_left
        · intro w'
          go_simp
          with_reducible rfl
        rotate_left
        · simp only [Act.put, List.setIfInBounds_toArray, List.set_cons_zero, List.set_cons_succ, i64_w, i32_w]
          rfl
        refine pure_ (i := 2) (N := some 32) (v := ?_) (a' := ?_) #[true, true, true, false, false, false, false, false, false, false] rfl rfl (by kernel_rfl) (fun _ _ _ h => h) (Or.inl ⟨by rfl, ?_⟩) ?_ ?_
        rotate_left
        · intro w'
          go_simp
          with_reducible rfl
        rotate_left
        · simp only [Act.put, List.setIfInBounds_toArray, List.set_cons_zero, List.set_cons_succ, i64_w, i32_w]
          rfl
        refine pure_ (i := 4) (N := some 34) (v := ?_) (a' := ?_) #[true, true, true, false, true, false, false, false, false, false] rfl rfl (by kernel_rfl) (fun _ _ _ h => h) (Or.inl ⟨by rfl, ?_⟩) ?_ ?_
        rotate_left
        · intro w'
          go_simp
          with_reducible rfl
        rotate_left
        · simp only [Act.put, List.setIfInBounds_toArray, List.set_cons_zero, List.set_cons_succ, i64_w, i32_w]
          rfl
        refine pure_ (i := 5) (N := some 35) (v := ?_) (a' := ?_) #[true, true, true, false, true, true, false, false, false, false] rfl rfl (by kernel_rfl) (fun _ _ _ h => h) (Or.inl ⟨by rfl, ?_⟩) ?_ ?_
        rotate_left
        · intro w'
          go_simp
          with_reducible rfl
        rotate_left
        · simp only [Act.put, List.setIfInBounds_toArray, List.set_cons_zero, List.set_cons_succ, i64_w, i32_w]
          rfl
        refine pure_ (i := 6) (N := some 36) (v := ?_) (a' := ?_) #[true, true, true, false, true, true, true, false, false, false] rfl rfl (by kernel_rfl) (fun _ _ _ h => h) (Or.inl ⟨by rfl, ?_⟩) ?_ ?_
        rotate_left
        · intro w'
          go_simp
          with_reducible rfl
        rotate_left
        · simp only [Act.put, List.setIfInBounds_toArray, List.set_cons_zero, List.set_cons_succ, i64_w, i32_w]
          rfl
        refine take_ (i := 3) (N := some 33) (v := ?_) (a' := ?_) #[true, true, true, true, true, true, true, false, false, false] rfl rfl (by kernel_rfl) (fun _ _ _ h => h) (Or.inl ⟨by rfl, ?_⟩) hHeld ?_ ?_
        rotate_left
        · rintro w' ⟨s0, s1, s2, s3⟩
          go_simp
          with_reducible rfl
        rotate_left
        · simp only [Act.put, List.setIfInBounds_toArray, List.set_cons_zero, List.set_cons_succ, i64_w, i32_w]
          rfl
        refine take_ (i := 7) (N := some 37) (v := ?_) (a' := ?_) #[true, true, true, true, true, true, true, true, false, false] rfl rfl (by kernel_rfl) (fun _ _ _ h => h) (Or.inl ⟨by rfl, ?_⟩) hHeld ?_ ?_
        rotate_left
        · rintro w' ⟨s0, s1, s2, s3⟩
          go_simp
          with_reducible rfl
        rotate_left
        · simp only [Act.put, List.setIfInBounds_toArray, List.set_cons_zero, List.set_cons_succ, i64_w, i32_w]
          rfl
        refine one_ (i := 8) (N := some 38) #[true, true, true, true, true, true, true, true, true, false] rfl rfl (by kernel_rfl) (by decide) (fun K hK => ?_)
        refine goes_ Tryz.func163 (by kernel_rfl) rfl #[ea.val, eb.val] (by rfl) rfl rfl (by simp only [List.map_toArray, List.map_cons, List.map_nil]; rfl) ?_
        with_reducible refine ((HLO.out _ hHeld.2.2.1)).mono ?_
        rintro e w3 ⟨rfl, hb⟩
        refine ⟨_, rfl, ?_⟩
        have hbz := hHeld.2.2.1.trans (hb.mono hHeld.2.2.1.size)
        have hblz := (hb.block _ (lt_of_heap hHeld.2.2.2)).trans hHeld.2.2.2
        refine hK.out _ _ ⟨(HQ.out.1 _ hbz), (HQ.out.2 _ hbz), hbz, hblz⟩ (fun hHeld => ?_)
        clear hK K
        refine norm_ (a' := ?_) ?_ ?_
        rotate_left
        · show Act.put _ (some 38) _ = _
          simp only [Act.put, List.setIfInBounds_toArray, List.set_cons_zero, List.set_cons_succ, i64_w, i32_w]
          rfl
        refine pure_ (i := 9) (N := some 10) (v := ?_) (a' := ?_) #[true, true, true, true, true, true, true, true, true, true] rfl rfl (by kernel_rfl) (fun _ _ _ h => h) (Or.inl ⟨by rfl, ?_⟩) ?_ ?_
        rotate_left
        · intro w'
          go_simp
          with_reducible rfl
        rotate_left
        · simp only [Act.put, List.setIfInBounds_toArray, List.set_cons_zero, List.set_cons_succ, i64_w, i32_w]
          rfl
        refine done_ (by kernel_rfl) ?_
        cases hz : (cmpV (rd_T26 l5 j) (rd_T26 m5 j) != 0) with
        | true =>
          go_wp2_with fail
          go_ret
          refine ⟨?_, hbz⟩
          have h := cmpL_first l5 m5 j (by have := H5.out.1; have := HLT.out; omega) (by have := H5.out.2; have := HLT.out; omega) (by simpa using hz)
          rw [HRR.out, if_pos HZ.out, ← HR.out.2.1, h, cmpV_sign]
          rfl
        | false =>
          have HZZ := Lib.hid (show cmpV (rd_T26 l5 j) (rd_T26 m5 j) = 0 by simpa using hz)
          go_wp2_with fail
          go_roundg (gk - 1)
          case measure => have := HR.out.2.2.1; have := HLT.out; omega
          case rel =>
            have hw : wrap64 ((j : Int) + 1) = ((j + 1 : Nat) : Int) := by have := HN.out.1; have := HLT.out; unfold wrap64; omega
            try rw [hw]
            exact ⟨j + 1, rfl, by have := HR.out.2.2.1; have := HLT.out; omega, hbz, hblz, by rw [← HR.out.2.1, cmpL_zero l5 m5 j (by have := H5.out.1; have := HLT.out; omega) (by have := H5.out.2; have := HLT.out; omega) HZZ.out]⟩
      · have q2 : ¬ (j : Int) < (m : Int) := by omega
        have q4 : decide ((j : Int) < (m : Int)) = false := decide_eq_false q2
        have q5 : decide (j < m) = false := decide_eq_false hlt
        have HE := Lib.hid hlt
        clear hbr hbl hlt q2
        go_wp2_with fail
        go_ret
        refine ⟨?_, HR.out.1⟩
        have h := cmpL_end l5 m5 j (by have := H5.out.1; have := HE.out; have := HR.out.2.2.1; omega) (by have := H5.out.2; have := HE.out; have := HR.out.2.2.1; omega) (.inl (by have := H5.out.1; have := HE.out; have := HR.out.2.2.1; omega))
        rw [HRR.out, if_pos HZ.out, ← HR.out.2.1, h, H5.out.1, H5.out.2, Int.sub_self]
        rfl
end Go.Proofs.YtbnfeicpjmfooaaGreatDoor.NumA
/-
gojq.Compare at any two values of JSON gives their order.
-/
set_option linter.unusedSimpArgs false
set_option linter.unusedVariables false
namespace Go.Proofs.YtbnfeicpjmfooaaGreatDoor.NumA
open Go.RowKit Go.Lib Go.Proofs.YtbnfeicpjmfooaaGreatDoor.ValA Go.Proofs.YtbnfeicpjmfooaaGreatDoor.FloH Go.Proofs.YtbnfeicpjmfooaaGreatDoorW.PrintWords Go.Proofs.YtbnfeicpjmfooaaGreatDoorW.PrintLast Go.Proofs.YtbnfeicpjmfooaaGreatDoorW.PrintMore Go.Proofs.YtbnfeicpjmfooaaGreatDoor.PzzFits1
theorem compare_low (l r : Value) (a : Int) (hl : Cl a l) (hr : Cl a r) (ha : a ≤ 2) (w : World) : Calls Tryz.prog 163 #[l, r] w (Gz 0 w) := by
  refine compare_of _ _ _ w ?_
  have hf : ∀ w, Calls Tryz.prog 201 #[l, r] w fun e w' => e = .returned (.int .i64 0) ∧ Below w.heap.size w w' := fun w => by
    have h := fallback l r a a hl hr w
    rwa [Int.sub_self] at h
  cases hl with
  | nil => exact bo_nil 0 r hr.noJ hf w
  | no => exact bo_bool 0 false r hr.noJ hf w
  | yes => exact bo_bool 0 true r hr.noJ hf w
  | int n => omega
  | flt n => omega
  | str s => omega
  | list A n => omega
  | map b => omega
theorem compare_any : ∀ (N : Nat) (x : V), SizeOf.sizeOf x < N → WL x → Sz x → ∀ (y : V), WL y → Sz y → ∀ (g h : Value) (n m : Nat) (w : World), G n w x g → G m w y h → Calls Tryz.prog 163 #[g, h] w (Gz (cmpV x y) w)
  | 0, _, h, _, _, _, _, _, _, _, _, _, _, _, _ => absurd h (Nat.not_lt_zero _)
  | N + 1, x, hN, hx, zx, y, hy, zy, g, h, n, m, w, hg, hh => by
    obtain ⟨f0, f6, fj, f45⟩ := wf_facts hx
    obtain ⟨h0, h6, hj, h45⟩ := wf_facts hy
    obtain ⟨_, _, _, n3, n4, hk, w3, w5⟩ := hx
    obtain ⟨_, _, _, p3, p4, hk', v3, v5⟩ := hy
    obtain ⟨_, _, z4, z3, z5⟩ := zx
    obtain ⟨_, _, y4, y3, y5⟩ := zy
    have ih3 : ∀ a ∈ x.f3, ∀ b ∈ y.f3, ∀ g h n m w, G n w a g → G m w b h → Calls Tryz.prog 163 #[g, h] w (Gz (cmpV a b) w) := fun a ha b hb => compare_any N a (by
      have h1 := List.sizeOf_lt_of_mem ha
      have h2 := size3 x
      omega) (w3 a ha) (z3 a ha) b (v3 b hb) (y3 b hb)
    have ih5 : ∀ a ∈ x.f5, ∀ b ∈ y.f5, ∀ g h n m w, G n w a g → G m w b h → Calls Tryz.prog 163 #[g, h] w (Gz (cmpV a b) w) := fun a ha b hb => compare_any N a (by
      have h1 := List.sizeOf_lt_of_mem ha
      have h2 := size5 x
      omega) (w5 a ha) (z5 a ha) b (v5 b hb) (y5 b hb)
    rw [cmpV_eq]
    by_cases e : x.f0 = y.f0
    · rw [if_neg (by simpa using e)]
      have hc : x.f0 ≤ 2 ∨ x.f0 = 3 ∨ x.f0 = 4 ∨ x.f0 = 5 ∨ x.f0 = 6 := by omega
      rcases hc with c | c | c | c | c
      · rw [if_neg (by omega), if_neg (by omega), if_neg (by omega), if_neg (by omega)]
        exact compare_low g h x.f0 (hg.cl f0) (e ▸ hh.cl h0) c w
      · rw [if_pos c, hg.flat_inv (by omega), hh.flat_inv (by omega), ← e, c]
        exact cmp_nums _ _ fj hj w
      · rw [if_neg (by omega), if_pos c, hg.flat_inv (by omega), hh.flat_inv (by omega), ← e, c]
        exact compare_strs _ _ w
      · rw [if_neg (by omega), if_neg (by omega), if_pos c]
        obtain ⟨b, l, rfl, _, hl, hw, he⟩ := hg.list_inv c
        obtain ⟨b', l', rfl, _, hl', hw', he'⟩ := hh.list_inv (e ▸ c)
        refine cmp_lists_any w b b' _ _ x.f3 y.f3 l l' rfl rfl n3 p3 hl hl' hw hw' fun j v u hv hu w' hb => ?_
        have hj1 : j < x.f3.length := by have := (List.getElem?_eq_some_iff.1 hv).1; omega
        have hj2 : j < y.f3.length := by have := (List.getElem?_eq_some_iff.1 hu).1; omega
        exact ih3 _ (rd_mem x.f3 j hj1) _ (rd_mem y.f3 j hj2) v u n m w' ((he j _ v (rd_at x.f3 j hj1) hv).keepB hb) ((he' j _ u (rd_at y.f3 j hj2) hu).keepB hb)
      · rw [if_neg (by omega), if_neg (by omega), if_neg (by omega), if_pos c]
        obtain ⟨b, es, cb, rfl, _, hl, hw, hst, hkey, he⟩ := hg.map_inv c
        obtain ⟨b', es', cb', rfl, _, hl', hw', hst', hkey', he'⟩ := hh.map_inv (e ▸ c)
        refine compare_of _ _ _ w (bin_cmp_mm _ _ _ w (cmp_maps_at w b b' cb cb' x.f4.length y.f4.length es es' x.f4 y.f4 x.f5 y.f5 rfl rfl n4 p4 f45.symm h45.symm hw hst ⟨hl, hkey, z4⟩ hk hw' hst' ⟨hl', hkey', y4⟩ hk' fun j e1 e2 hv hkv hu hku hj1 hj2 w' hb => ?_))
        exact ih5 _ (rd_mem x.f5 j hj1) _ (rd_mem y.f5 j hj2) _ _ n m w' ((he j _ _ e1 (key_rd x.f4 j (by omega)) (rd_at x.f5 j hj1) hv hkv).keepB hb) ((he' j _ _ e2 (key_rd y.f4 j (by omega)) (rd_at y.f5 j hj2) hu hku).keepB hb)
    · rw [if_pos e]
      exact compare_dif g h _ _ (hg.cl f0) (hh.cl h0) e w
end Go.Proofs.YtbnfeicpjmfooaaGreatDoor.NumA
