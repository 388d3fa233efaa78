/-
gojq.Compare at any two values of JSON.
-/
import Derived.Test.YtcoahpcjhhnkkaaGreatDoorCmpF
import Derived.Test.YtcoahpcjhhnkkaaGreatDoorKeyC
set_option linter.unusedSimpArgs false
set_option linter.unusedVariables false
namespace Go.Proofs.YtcoahpcjhhnkkaaGreatDoor.NumA
open Go.RowKit Go.Lib Go.Proofs.YtcoahpcjhhnkkaaGreatDoor.ValA Go.Proofs.YtcoahpcjhhnkkaaGreatDoor.FloH Go.Proofs.YtcoahpcjhhnkkaaGreatDoorW.PrintWords Go.Proofs.YtcoahpcjhhnkkaaGreatDoorW.PrintLast Go.Proofs.YtcoahpcjhhnkkaaGreatDoorW.PrintMore Go.Proofs.YtcoahpcjhhnkkaaGreatDoor.PzzFits1
theorem qSs (v : Value) (w : World) : (Instr.typeAssert (.iface 9 v) 20 9 false).run Tryz.prog w = .ok v w := by kernel_rfl
theorem qLs (v : Value) (w : World) : (Instr.typeAssert (.iface 78 v) 20 78 false).run Tryz.prog w = .ok v w := by kernel_rfl
/-- A key as a value. -/
def txV (s : ByteArray) : V := ⟨4, 0, s, [], [], []⟩
theorem cmpV_tx (s t : ByteArray) : cmpV (txV s) (txV t) = tx s t := by
  rw [cmpV_eq]
  rfl
theorem cmpL_tx : ∀ l l' : List ByteArray, cmpL (l.map txV) (l'.map txV) = cmpK l l'
  | [], l => by simp only [List.map_nil]; rw [cmpK, cmpL, List.length_map]
  | x :: l, [] => by simp only [List.map_nil, List.map_cons]; rw [cmpK, cmpL]; simp
  | x :: l, y :: l' => by simp only [List.map_cons]; rw [cmpK, cmpL, cmpV_tx, cmpL_tx l l']
theorem cmpK_zero_eq : ∀ l l' : List ByteArray, cmpK l l' = 0 → l = l'
  | [], l, h => by
    rw [cmpK] at h
    cases l with
    | nil => rfl
    | cons x t => simp at h; omega
  | x :: l, [], h => by rw [cmpK] at h; simp at h; omega
  | x :: l, y :: l', h => by
    rw [cmpK] at h
    by_cases c : tx x y = 0
    · rw [if_pos c] at h
      have e : (tx x y == 0) = true := by simpa using c
      rw [tx_zero, decide_eq_true_eq] at e
      rw [e, cmpK_zero_eq l l' h]
    · rw [if_neg c] at h
      exact absurd h c
/-- Two maps' lists of keys. -/
theorem compare_keys (w : World) (b c n m : Nat) (l l' : List ByteArray) (hl : l.length = n) (hl' : l'.length = m) (hn : n ≤ 1000000) (hm : m ≤ 1000000)
    (hb : w.heap[b]? = some (.cells (l.map skey).toArray 20 (0, 0))) (hc : w.heap[c]? = some (.cells (l'.map skey).toArray 20 (0, 0))) :
    Calls Tryz.prog 38 #[.iface 78 (.slice (some ⟨b, 0, none⟩) n n), .iface 78 (.slice (some ⟨c, 0, none⟩) m m)] w (Gz (cmpK l l').sign w) := by
  have h := cmp_lists_any w b c n m (l.map txV) (l'.map txV) (l.map skey) (l'.map skey) (by simpa using hl) (by simpa using hl') hn hm (by simpa using hl) (by simpa using hl') hb hc ?_
  · rwa [cmpL_tx] at h
  · intro j v u hv hu w' _
    have h1 : j < l.length := by have := (List.getElem?_eq_some_iff.1 hv).1; simpa using this
    have h2 : j < l'.length := by have := (List.getElem?_eq_some_iff.1 hu).1; simpa using this
    have e1 := rd_at (l.map txV) j (by simpa using h1)
    have e2 := rd_at (l'.map txV) j (by simpa using h2)
    rw [List.getElem?_map, List.getElem?_eq_getElem h1, Option.map_some] at e1 hv
    rw [List.getElem?_map, List.getElem?_eq_getElem h2, Option.map_some] at e2 hu
    rw [← Option.some.inj e1, ← Option.some.inj e2, ← Option.some.inj hv, ← Option.some.inj hu, cmpV_tx]
    exact compare_strs _ _ w'
/-- The head of a round over two maps' keys. -/
def RCm (w : World) (g : Nat) (l : List ByteArray) (l5 m5 : List V) (n k : Nat) (i : Value) (wr : World) : Prop :=
  ∃ j : Nat, i = .int .i64 j ∧ k + j = n ∧ Below w.heap.size w wr ∧ wr.heap[g]? = some (.cells (l.map skey).toArray 20 (0, 0)) ∧ cmpL (l5.drop j) (m5.drop j) = cmpL l5 m5
set_option maxRecDepth 100000 in
set_option maxHeartbeats 4000000 in
theorem cmp_maps_at (w : World) (b c cb cc n m : Nat) (es fs : List MapEntry) (l l' : List ByteArray) (l5 m5 : List V) (hl : l.length = n) (hl' : l'.length = m) (hn : n ≤ 1000000) (hm : m ≤ 1000000) (h5 : l5.length = n) (h5' : m5.length = m)
    (hb : w.heap[b]? = some (.map es.toArray cb)) (hst : MapKept.Stamped es.toArray cb) (hk : KeysAre es l)
    (hrise : ∀ i : Nat, 0 < i → i < l.length → Op.bytesLess (rdOf ByteArray.empty l (i - 1 : Nat)).toList (rdOf ByteArray.empty l i).toList = true)
    (hc : w.heap[c]? = some (.map fs.toArray cc)) (hst' : MapKept.Stamped fs.toArray cc) (hk' : KeysAre fs l')
    (hrise' : ∀ i : Nat, 0 < i → i < l'.length → Op.bytesLess (rdOf ByteArray.empty l' (i - 1 : Nat)).toList (rdOf ByteArray.empty l' i).toList = true)
    (IH : ∀ (j : Nat) (e f : MapEntry), e ∈ es → e.key = .string (rdOf ByteArray.empty l j) → f ∈ fs → f.key = .string (rdOf ByteArray.empty l' j) → j < l5.length → j < m5.length → ∀ w', Below w.heap.size w w' → Calls Tryz.prog 38 #[e.val, f.val] w' (Gz (cmpV (rd_T26 l5 j) (rd_T26 m5 j)) w')) :
    Calls Tryz.prog 70 #[.map (some b), .map (some c)] w (Gz (if cmpK l l' = 0 then (cmpL l5 m5).sign else (cmpK l l').sign) w) := by
  have HI := Lib.hid (fun j e f h hh h' hh' g g' w' hw => IH j e f h hh h' hh' g g' w' hw)
  have HA := Lib.hid (fun (w' : World) (hw : Below w.heap.size w w') => funcKeys_map w' b cb n es l hl ((hw.block _ (lt_of_heap hb)).trans hb) hst hn hk hrise)
  have HB := Lib.hid (fun (w' : World) (hw : Below w.heap.size w w') => funcKeys_map w' c cc m fs l' hl' ((hw.block _ (lt_of_heap hc)).trans hc) hst' hm hk' hrise')
  have HKA := Lib.hid (And.intro hb (And.intro hst hk))
  have HKB := Lib.hid (And.intro hc (And.intro hst' hk'))
  have HL := Lib.hid (And.intro hl hl')
  have HN := Lib.hid (And.intro hn hm)
  have H5 := Lib.hid (And.intro h5 h5')
  obtain ⟨rr, hrr⟩ : ∃ rr, rr = (if cmpK l l' = 0 then (cmpL l5 m5).sign else (cmpK l l').sign) := ⟨_, rfl⟩
  rw [← hrr]
  have HRR := Lib.hid hrr
  clear hrr
  clear IH hb hst hk hrise hc hst' hk' hrise' hl hl' hn hm h5 h5'
  go_enter Tryz.func70, Tryz.ntmps70
  go_wp2_with fail
  refine (HA.out _ (Below.refl _ _)).mono ?_
  rintro e w1 ⟨rfl, hbl, hbb⟩
  have H1 := Lib.hid (And.intro hbb hbl)
  rw [HL.out.1]
  clear hbl hbb
  go_wp2_with fail
  refine (HB.out _ H1.out.1).mono ?_
  rintro e w2 ⟨rfl, hbl, hbb⟩
  have H2 := Lib.hid (And.intro (H1.out.1.trans (hbb.mono H1.out.1.size)) (And.intro ((hbb.block _ (lt_of_heap H1.out.2)).trans H1.out.2) hbl))
  rw [HL.out.2]
  clear hbl hbb H1
  have HC := Lib.hid (compare_keys w2 _ _ n m l l' HL.out.1 HL.out.2 HN.out.1 HN.out.2 H2.out.2.1 H2.out.2.2)
  go_wp2_with fail
  refine HC.out.mono ?_
  rintro e w3 ⟨rfl, hbb⟩
  have H3 := Lib.hid (And.intro (H2.out.1.trans (hbb.mono H2.out.1.size)) ((hbb.block _ (lt_of_heap H2.out.2.1)).trans H2.out.2.1))
  clear hbb H2 HC
  cases hz : ((cmpK l l').sign != 0) with
  | true =>
    have HZ := Lib.hid (show cmpK l l' ≠ 0 by intro h; rw [h] at hz; simp at hz)
    go_wp2_with fail
    go_ret
    exact ⟨by rw [HRR.out, if_neg HZ.out]; rfl, H3.out.1⟩
  | false =>
    have hz0 : cmpK l l' = 0 := by
      have : (cmpK l l').sign = 0 := by simpa using hz
      have := sg (cmpK l l')
      omega
    have HZ := Lib.hid hz0
    obtain rfl := cmpK_zero_eq l l' hz0
    have hmn : m = n := by rw [← HL.out.2, HL.out.1]
    subst hmn
    clear hz0
    have hLs := qLs (.slice (some ⟨w.heap.size, 0, none⟩) m m)
    go_wp2_with fail
    clear hz hLs
    go_loopg [26] m (fun k i wr => RCm w w.heap.size l l5 m5 m k i wr)
    case atStart => exact ⟨0, rfl, by omega, H3.out.1, H3.out.2, rfl⟩
    case round =>
      clear H3
      obtain ⟨j, rfl, hkj, hbr, hbl, hcm⟩ := hrel
      have HR := Lib.hid (And.intro hbr (And.intro hcm (And.intro hkj hbl)))
      clear hkj hcm
      by_cases hlt : j < m
      · have x0 : wr.cell? ⟨w.heap.size, j, none⟩ = some (skey (rdOf ByteArray.empty l j)) := by
          have h := list_cell hbl (by simp; have := HL.out.1; omega : j < (l.map skey).length)
          rw [h.1]
          have e := key_rd l j (by have := HL.out.1; omega)
          rw [List.getElem?_eq_getElem (by have := HL.out.1; omega)] at e
          rw [List.getElem_map, Option.some.inj e]
        unfold skey at x0
        obtain ⟨ea, a0, a1, a2⟩ := entry_at HKA.out.1 HKA.out.2.1 HKA.out.2.2 j (by have := HL.out.1; omega)
        obtain ⟨eb, b0, b1, b2⟩ := entry_at HKB.out.1 HKB.out.2.1 HKB.out.2.2 j (by have := HL.out.1; omega)
        have HLO := Lib.hid (fun w' hw => HI.out j ea eb a0 a1 b0 b1 (by have := H5.out.1; omega) (by have := H5.out.2; omega) w' hw)
        have HQ := Lib.hid (And.intro a2 b2)
        have gS := fun w => qS (.string (rdOf ByteArray.empty l j)) w
        have hS := qSs (.string (rdOf ByteArray.empty l j))
        have e0 : (j : Int) < (m : Int) := by omega
        have HLT := Lib.hid hlt
        clear hbr hbl hlt a0 b0 a1 b1 a2 b2
        go_wp2_with fail
        refine start_ (n := 10) (S := fun w' => (Instr.lookup 67 (.map (some b)) (.string (rdOf ByteArray.empty l j)) false).run Tryz.prog w' = .ok ea.val w' ∧ (Instr.lookup 67 (.map (some c)) (.string (rdOf ByteArray.empty l j)) false).run Tryz.prog w' = .ok eb.val w' ∧ Below w.heap.size w w' ∧ w'.heap[w.heap.size]? = some (.cells (l.map skey).toArray 20 (0, 0))) (ds := []) #[false, false, false, false, false, false, false, false, false, false] (by kernel_rfl) rfl rfl ⟨(HQ.out.1 _ (HR.out.1.drew)), (HQ.out.2 _ (HR.out.1.drew)), (HR.out.1.drew), HR.out.2.2.2⟩ (fun hHeld => ?_)
        refine pure_ (i := 0) (N := some 30) (v := ?_) (a' := ?_) #[true, false, false, false, false, false, false, false, false, false] rfl rfl (by kernel_rfl) (fun _ _ _ h => h) (Or.inl ⟨by rfl, ?_⟩) ?_ ?_
        rotate_left
        · intro w'
          go_simp
          with_reducible rfl
        rotate_left
        · simp only [Act.put, List.setIfInBounds_toArray, List.set_cons_zero, List.set_cons_succ, i64_w, i32_w]
          rfl
        refine pure_ (i := 1) (N := some 31) (v := ?_) (a' := ?_) #[true, true, false, false, false, false, false, false, false, false] rfl rfl (by kernel_rfl) (fun _ _ _ h => h) (Or.inl ⟨by rfl, ?_⟩) ?_ ?_
        rotate_left
        · intro w'
          go_simp
          with_reducible rfl
        rotate_left
        · simp only [Act.put, List.setIfInBounds_toArray, List.set_cons_zero, List.set_cons_succ, i64_w, i32_w]
          rfl
        refine pure_ (i := 2) (N := some 32) (v := ?_) (a' := ?_) #[true, true, true, false, false, false, false, false, false, false] rfl rfl (by kernel_rfl) (fun _ _ _ h => h) (Or.inl ⟨by rfl, ?_⟩) ?_ ?_
        rotate_left
        · intro w'
          go_simp
          with_reducible rfl
        rotate_left
        · simp only [Act.put, List.setIfInBounds_toArray, List.set_cons_zero, List.set_cons_succ, i64_w, i32_w]
          rfl
        refine pure_ (i := 4) (N := some 34) (v := ?_) (a' := ?_) #[true, true, true, false, true, false, false, false, false, false] rfl rfl (by kernel_rfl) (fun _ _ _ h => h) (Or.inl ⟨by rfl, ?_⟩) ?_ ?_
        rotate_left
        · intro w'
          go_simp
          with_reducible rfl
        rotate_left
        · simp only [Act.put, List.setIfInBounds_toArray, List.set_cons_zero, List.set_cons_succ, i64_w, i32_w]
          rfl
        refine pure_ (i := 5) (N := some 35) (v := ?_) (a' := ?_) #[true, true, true, false, true, true, false, false, false, false] rfl rfl (by kernel_rfl) (fun _ _ _ h => h) (Or.inl ⟨by rfl, ?_⟩) ?_ ?_
        rotate_left
        · intro w'
          go_simp
          with_reducible rfl
        rotate_left
        · simp only [Act.put, List.setIfInBounds_toArray, List.set_cons_zero, List.set_cons_succ, i64_w, i32_w]
          rfl
        refine pure_ (i := 6) (N := some 36) (v := ?_) (a' := ?_) #[true, true, true, false, true, true, true, false, false, false] rfl rfl (by kernel_rfl) (fun _ _ _ h => h) (Or.inl ⟨by rfl, ?_⟩) ?_ ?_
        rotate_left
        · intro w'
          go_simp
          with_reducible rfl
        rotate_left
        · simp only [Act.put, List.setIfInBounds_toArray, List.set_cons_zero, List.set_cons_succ, i64_w, i32_w]
          rfl
        refine take_ (i := 3) (N := some 33) (v := ?_) (a' := ?_) #[true, true, true, true, true, true, true, false, false, false] rfl rfl (by kernel_rfl) (fun _ _ _ h => h) (Or.inl ⟨by rfl, ?_⟩) hHeld ?_ ?_
        rotate_left
        · rintro w' ⟨s0, s1, s2, s3⟩
          go_simp
          with_reducible rfl
        rotate_left
        · simp only [Act.put, List.setIfInBounds_toArray, List.set_cons_zero, List.set_cons_succ, i64_w, i32_w]
          rfl
        refine take_ (i := 7) (N := some 37) (v := ?_) (a' := ?_) #[true, true, true, true, true, true, true, true, false, false] rfl rfl (by kernel_rfl) (fun _ _ _ h => h) (Or.inl ⟨by rfl, ?_⟩) hHeld ?_ ?_
        rotate_left
        · rintro w' ⟨s0, s1, s2, s3⟩
          go_simp
          with_reducible rfl
        rotate_left
        · simp only [Act.put, List.setIfInBounds_toArray, List.set_cons_zero, List.set_cons_succ, i64_w, i32_w]
          rfl
        refine one_ (i := 8) (N := some 38) #[true, true, true, true, true, true, true, true, true, false] rfl rfl (by kernel_rfl) (by decide) (fun K hK => ?_)
        refine goes_ Tryz.func38 (by kernel_rfl) rfl #[ea.val, eb.val] (by rfl) rfl rfl (by simp only [List.map_toArray, List.map_cons, List.map_nil]; rfl) ?_
        with_reducible refine ((HLO.out _ hHeld.2.2.1)).mono ?_
        rintro e w3 ⟨rfl, hb⟩
        refine ⟨_, rfl, ?_⟩
        have hbz := hHeld.2.2.1.trans (hb.mono hHeld.2.2.1.size)
        have hblz := (hb.block _ (lt_of_heap hHeld.2.2.2)).trans hHeld.2.2.2
        refine hK.out _ _ ⟨(HQ.out.1 _ hbz), (HQ.out.2 _ hbz), hbz, hblz⟩ (fun hHeld => ?_)
        clear hK K
        refine norm_ (a' := ?_) ?_ ?_
        rotate_left
        · show Act.put _ (some 38) _ = _
          simp only [Act.put, List.setIfInBounds_toArray, List.set_cons_zero, List.set_cons_succ, i64_w, i32_w]
          rfl
        refine pure_ (i := 9) (N := some 10) (v := ?_) (a' := ?_) #[true, true, true, true, true, true, true, true, true, true] rfl rfl (by kernel_rfl) (fun _ _ _ h => h) (Or.inl ⟨by rfl, ?_⟩) ?_ ?_
        rotate_left
        · intro w'
          go_simp
          with_reducible rfl
        rotate_left
        · simp only [Act.put, List.setIfInBounds_toArray, List.set_cons_zero, List.set_cons_succ, i64_w, i32_w]
          rfl
        refine done_ (by kernel_rfl) ?_
        cases hz : (cmpV (rd_T26 l5 j) (rd_T26 m5 j) != 0) with
        | true =>
          go_wp2_with fail
          go_ret
          refine ⟨?_, hbz⟩
          have h := cmpL_first l5 m5 j (by have := H5.out.1; have := HLT.out; omega) (by have := H5.out.2; have := HLT.out; omega) (by simpa using hz)
          rw [HRR.out, if_pos HZ.out, ← HR.out.2.1, h, cmpV_sign]
          rfl
        | false =>
          have HZZ := Lib.hid (show cmpV (rd_T26 l5 j) (rd_T26 m5 j) = 0 by simpa using hz)
          go_wp2_with fail
          go_roundg (gk - 1)
          case measure => have := HR.out.2.2.1; have := HLT.out; omega
          case rel =>
            have hw : wrap64 ((j : Int) + 1) = ((j + 1 : Nat) : Int) := by have := HN.out.1; have := HLT.out; unfold wrap64; omega
            try rw [hw]
            exact ⟨j + 1, rfl, by have := HR.out.2.2.1; have := HLT.out; omega, hbz, hblz, by rw [← HR.out.2.1, cmpL_zero l5 m5 j (by have := H5.out.1; have := HLT.out; omega) (by have := H5.out.2; have := HLT.out; omega) HZZ.out]⟩
      · have q2 : ¬ (j : Int) < (m : Int) := by omega
        have q4 : decide ((j : Int) < (m : Int)) = false := decide_eq_false q2
        have q5 : decide (j < m) = false := decide_eq_false hlt
        have HE := Lib.hid hlt
        clear hbr hbl hlt q2
        go_wp2_with fail
        go_ret
        refine ⟨?_, HR.out.1⟩
        have h := cmpL_end l5 m5 j (by have := H5.out.1; have := HE.out; have := HR.out.2.2.1; omega) (by have := H5.out.2; have := HE.out; have := HR.out.2.2.1; omega) (.inl (by have := H5.out.1; have := HE.out; have := HR.out.2.2.1; omega))
        rw [HRR.out, if_pos HZ.out, ← HR.out.2.1, h, H5.out.1, H5.out.2, Int.sub_self]
        rfl
end Go.Proofs.YtcoahpcjhhnkkaaGreatDoor.NumA
