/-
Parts of the proof, one behind the other: GetA, GetB.
-/
import Derived.Test.YtcoahpcjhhnkkaaGreatDoorMJ
import Derived.Test.YtcoahpcjhhnkkaaGreatDoorMK
/-
spec.Get, spec.Has at objects.
-/
set_option linter.unusedSimpArgs false
set_option linter.unusedVariables false
namespace Go.Proofs.YtcoahpcjhhnkkaaGreatDoor.NumA
open Go.RowKit Go.Lib Go.Proofs.YtcoahpcjhhnkkaaGreatDoor.ValA Go.Proofs.YtcoahpcjhhnkkaaGreatDoor.FloH Go.Proofs.YtcoahpcjhhnkkaaGreatDoorW.PrintWords Go.Proofs.YtcoahpcjhhnkkaaGreatDoorW.PrintLast Go.Proofs.YtcoahpcjhhnkkaaGreatDoorW.PrintMore Go.Proofs.YtcoahpcjhhnkkaaGreatDoor.PzzFits1
/-- How many keys come before a key. -/
def plc (l : List ByteArray) (k : ByteArray) : Nat := (l.takeWhile fun s => bl s k).length
theorem plc_eq (k : ByteArray) : ∀ (l : List ByteArray) (j : Nat), j ≤ l.length → (∀ (i : Nat) (s : ByteArray), i < j → l[i]? = some s → bl s k = true) → (∀ s : ByteArray, l[j]? = some s → bl s k = false) → plc l k = j
  | [], j, hj, _, _ => by simp at hj; subst hj; rfl
  | a :: r, 0, _, _, h => by
    have := h a rfl
    simp [plc, List.takeWhile_cons, this]
  | a :: r, j + 1, hj, h1, h2 => by
    have h0 := h1 0 a (by omega) rfl
    have ih := plc_eq k r j (by simpa using hj) (fun i s hi hs => h1 (i + 1) s (by omega) (by simpa using hs)) (fun s hs => h2 s (by simpa using hs))
    unfold plc at ih ⊢
    rw [List.takeWhile_cons, if_pos h0, List.length_cons, ih]
theorem plc_le (k : ByteArray) (l : List ByteArray) : plc l k ≤ l.length := (List.takeWhile_sublist _).length_le
/-- The value of a key is the one at that place. -/
theorem get_plc (k : ByteArray) : ∀ l : List (ByteArray × V), Rise l → getKV l k = (l[plc (l.map (·.1)) k]?).bind fun p => if p.1 = k then some p.2 else none
  | [], _ => rfl
  | p :: r, h => by
    obtain ⟨h1, h2⟩ := List.pairwise_cons.1 h
    have ih := get_plc k r h2
    rw [getKV]
    cases hb : bl p.1 k with
    | true =>
      have hne : p.1 ≠ k := fun e => by rw [e, bl_self] at hb; cases hb
      rw [if_neg hne, ih]
      simp [plc, List.takeWhile_cons, hb]
    | false =>
      have e : plc ((p :: r).map (·.1)) k = 0 := by simp [plc, List.takeWhile_cons, hb]
      rw [e]
      by_cases c : p.1 = k
      · simp [c]
      · simp only [c, if_false, List.getElem?_cons_zero, Option.bind_some]
        have h3 := bl_other hb c
        exact get_none.2 fun q hq e2 => by
          have := bl_trans h3 (h1 q hq)
          rw [e2, bl_self] at this
          cases this
def getV (x : V) (k : ByteArray) : V := (getKV (kv x) k).getD nullV
def hsV (x : V) (k : ByteArray) : Bool := (getKV (kv x) k).isSome
end Go.Proofs.YtcoahpcjhhnkkaaGreatDoor.NumA
/-
spec.place, spec.Get, spec.Has.
-/

set_option linter.unusedSimpArgs false
set_option linter.unusedVariables false
namespace Go.Proofs.YtcoahpcjhhnkkaaGreatDoor.ValA
open Go.RowKit Go.Lib Go.Proofs.YtcoahpcjhhnkkaaGreatDoorW.PrintWords Go.Proofs.YtcoahpcjhhnkkaaGreatDoorW.PrintLast Go.Proofs.YtcoahpcjhhnkkaaGreatDoorW.PrintMore Go.Proofs.YtcoahpcjhhnkkaaGreatDoor.PzzFits1 Go.Proofs.YtcoahpcjhhnkkaaGreatDoor.NumA
theorem rd_key (l : List ByteArray) (j : Nat) (hj : j < l.length) {s : ByteArray} (h : l[j]? = some s) : rdOf ByteArray.empty l j = s := by
  have := key_rd l j hj
  rw [h] at this
  exact (Option.some.inj this).symm
theorem has_end {x : V} (hx : WL x) {key : ByteArray} (h : plc x.f4 key = x.f4.length) : hsV x key = false := by
  have hf := (wf_facts hx).2.2.2
  unfold hsV
  rw [get_plc key (kv x) (kv_rise hx), kv_keys hf, h]
  have : (kv x)[x.f4.length]? = none := List.getElem?_eq_none (by unfold kv; rw [List.length_zip]; omega)
  rw [this]
  rfl
theorem has_at {x : V} (hx : WL x) {key : ByteArray} {j : Nat} (hj : j < x.f4.length) (h : plc x.f4 key = j) : hsV x key = ((rdOf ByteArray.empty x.f4 j).toList == key.toList) ∧ (hsV x key = true → getV x key = rd_T26 x.f5 j) := by
  have hf := (wf_facts hx).2.2.2
  have e4 := key_rd x.f4 j hj
  have e5 := rd_at x.f5 j (by omega)
  have e : (kv x)[j]? = some (rdOf ByteArray.empty x.f4 j, rd_T26 x.f5 j) := by
    unfold kv
    rw [List.getElem?_zip_eq_some]
    exact ⟨e4, e5⟩
  have g : getKV (kv x) key = if rdOf ByteArray.empty x.f4 j = key then some (rd_T26 x.f5 j) else none := by
    rw [get_plc key (kv x) (kv_rise hx), kv_keys hf, h, e]
    rfl
  have hb : ((rdOf ByteArray.empty x.f4 j).toList == key.toList) = decide (rdOf ByteArray.empty x.f4 j = key) := by
    rw [Bool.eq_iff_iff, beq_iff_eq, decide_eq_true_eq]
    constructor
    · intro h
      rw [Lib.toList_data, Lib.toList_data] at h
      generalize rdOf ByteArray.empty x.f4 j = s at h ⊢
      cases s; cases key
      simp only [ByteArray.mk.injEq]
      exact Array.toList_inj.1 h
    · intro h; rw [h]
  unfold hsV getV
  rw [g, hb]
  by_cases c : rdOf ByteArray.empty x.f4 j = key
  · rw [if_pos c]; simp [c]
  · rw [if_neg c]; simp [c]
set_option maxRecDepth 100000 in
set_option maxHeartbeats 8000000 in
theorem place_any (w0 : World) (x : V) (hx : WL x) (A3 A4 A5 : Option Addr) (c3 c4 c5 : Nat) (hK : k26.K w0 x [.int .i64 x.f0, .int .i64 x.f1, .string x.f2, .slice A3 x.f3.length c3, .slice A4 x.f4.length c4, .slice A5 x.f5.length c5]) (key : ByteArray) (w : World) (hb : Below w0.heap.size w0 w) :
    Calls Tryz.prog 41 #[.agg #[.int .i64 x.f0, .int .i64 x.f1, .string x.f2, .slice A3 x.f3.length c3, .slice A4 x.f4.length c4, .slice A5 x.f5.length c5], .string key] w fun e w' => ∃ j : Nat, j = plc x.f4 key ∧ e = .returned (.tuple #[.int .i64 j, .bool (hsV x key)]) ∧ Below w.heap.size w w' := by
  have hn : x.f4.length ≤ 1000000 := by cases hx; assumption
  obtain ⟨B3, e3, B4, e4, B5, e5, he, l3, g3, l4, g4, l5, g5⟩ := k26_open hK
  simp only [List.cons.injEq, Value.int.injEq, Value.string.injEq, Value.slice.injEq, true_and, and_true] at he
  obtain ⟨⟨rfl, rfl⟩, ⟨rfl, rfl⟩, ⟨rfl, rfl⟩⟩ := he
  have HC := Lib.hid g4
  have HB := Lib.hid hb
  have HN := Lib.hid (And.intro hx hn)
  obtain ⟨n, hn2⟩ : ∃ n, n = x.f4.length := ⟨_, rfl⟩
  have HNN := Lib.hid hn2
  clear g3 l3 g4 l4 g5 l5 hK hb hx hn
  rw [← hn2] at HC ⊢
  clear hn2
  go_enter Tryz.func41, Tryz.ntmps41
  go_wp2_with fail
  obtain ⟨B, hB⟩ : ∃ B, B = w.heap.size := ⟨_, rfl⟩
  obtain ⟨W0, hW0⟩ : ∃ W0, W0 = w.alloc (.cells #[.int .i64 x.f0, .int .i64 x.f1, .string x.f2, .slice A3 x.f3.length c3, .slice A4 n c4, .slice A5 x.f5.length c5] 26) := ⟨_, rfl⟩
  have hS : SPL w [(B, #[.int .i64 x.f0, .int .i64 x.f1, .string x.f2, .slice A3 x.f3.length c3, .slice A4 n c4, .slice A5 x.f5.length c5], 26)] W0 := by rw [hB, hW0]; exact SPL.box w _ _
  rw [← hW0, ← hB]
  have H0 := Lib.hid hS
  clear hS hW0 hB
  go_loopg [6] n (fun k i wr => ∃ j : Nat, i = .int .i64 j ∧ k + j = n ∧ SPL w [(B, #[.int .i64 x.f0, .int .i64 x.f1, .string x.f2, .slice A3 x.f3.length c3, .slice A4 n c4, .slice A5 x.f5.length c5], 26)] wr ∧ ∀ i : Nat, i < j → bl (rdOf ByteArray.empty x.f4 i) key = true)
  case atStart => exact ⟨0, rfl, by omega, H0.out, fun i hi => absurd hi (by omega)⟩
  case round =>
    clear H0
    obtain ⟨j, rfl, hkj, hS, hG⟩ := hrel
    have HR := Lib.hid (And.intro hS (And.intro hG hkj))
    have yb := six_cells (hS.get 0 rfl)
    by_cases hlt : j < n
    · obtain ⟨ak, rfl, xk⟩ := key_at HC.out (HB.out.trans (hS.1.mono HB.out.size)) j hlt
      have hlt2 : (j : Int) < (n : Int) := by omega
      have HLT := Lib.hid hlt
      clear hkj hS hG hlt
      cases hc : Op.bytesLess (rdOf ByteArray.empty x.f4 j).toList key.toList with
      | true =>
        go_wp2_with fail
        go_roundg (gk - 1)
        case measure => have := HR.out.2.2; have := HLT.out; omega
        case rel =>
          have hw : wrap64 ((j : Int) + 1) = ((j + 1 : Nat) : Int) := by have := HLT.out; have := HN.out.2; have := HNN.out; unfold wrap64; omega
          rw [hw]
          refine ⟨j + 1, rfl, by have := HR.out.2.2; have := HLT.out; omega, HR.out.1, fun i hi => ?_⟩
          by_cases e : i = j
          · rw [e]; exact hc
          · exact HR.out.2.1 i (by omega)
      | false =>
        have HP : Hid (plc x.f4 key = j) := Lib.hid (plc_eq key x.f4 j (by have := HLT.out; have := HNN.out; omega) (fun i s hi hs => by rw [← rd_key x.f4 i (by have := HLT.out; have := HNN.out; omega) hs]; exact HR.out.2.1 i hi) (fun s hs => by rw [← rd_key x.f4 j (by have := HLT.out; have := HNN.out; omega) hs]; exact hc))
        have HQ := Lib.hid (has_at HN.out.1 (by have := HLT.out; have := HNN.out; omega) HP.out)
        obtain ⟨r, hr⟩ : ∃ r, r = hsV x key := ⟨_, rfl⟩
        have qr : ((rdOf ByteArray.empty x.f4 j).toList == key.toList) = r := by rw [hr]; exact HQ.out.1.symm
        have HR0 := Lib.hid hr
        clear hr
        go_wp2_with fail
        refine start_ (n := 17) (S := fun w' => w'.cell? ⟨B, 0, none⟩ = some (.int .i64 x.f0) ∧ w'.cell? ⟨B, 1, none⟩ = some (.int .i64 x.f1) ∧ w'.cell? ⟨B, 2, none⟩ = some (.string x.f2) ∧ w'.cell? ⟨B, 3, none⟩ = some (.slice A3 x.f3.length c3) ∧ w'.cell? ⟨B, 4, none⟩ = some (.slice (some ak) n c4) ∧ w'.cell? ⟨B, 5, none⟩ = some (.slice A5 x.f5.length c5) ∧ w'.cell? (ak.add j) = some (.string (rdOf ByteArray.empty x.f4 j))) (ds := []) #[false, false, false, false, false, false, false, false, false, false, false, false, false, false, false, false, false] (by kernel_rfl) rfl rfl ⟨(six_cells (HR.out.1.get 0 rfl)).1, (six_cells (HR.out.1.get 0 rfl)).2.1, (six_cells (HR.out.1.get 0 rfl)).2.2.1, (six_cells (HR.out.1.get 0 rfl)).2.2.2.1, (six_cells (HR.out.1.get 0 rfl)).2.2.2.2.1, (six_cells (HR.out.1.get 0 rfl)).2.2.2.2.2.1, xk⟩ (fun hHeld => ?_)
        refine pure_ (i := 0) (N := some 23) (v := ?_) (a' := ?_) #[true, false, false, false, false, false, false, false, false, false, false, false, false, false, false, false, false] rfl rfl (by kernel_rfl) (fun _ _ _ h => h) (Or.inl ⟨by rfl, ?_⟩) ?_ ?_
        rotate_left
        · intro w'
          go_simp
          with_reducible rfl
        rotate_left
        · simp only [Act.put, List.setIfInBounds_toArray, List.set_cons_zero, List.set_cons_succ, i64_w, i32_w]
          rfl
        refine pure_ (i := 1) (N := some 24) (v := ?_) (a' := ?_) #[true, true, false, false, false, false, false, false, false, false, false, false, false, false, false, false, false] rfl rfl (by kernel_rfl) (fun _ _ _ h => h) (Or.inl ⟨by rfl, ?_⟩) ?_ ?_
        rotate_left
        · intro w'
          go_simp
          with_reducible rfl
        rotate_left
        · simp only [Act.put, List.setIfInBounds_toArray, List.set_cons_zero, List.set_cons_succ, i64_w, i32_w]
          rfl
        refine pure_ (i := 2) (N := some 25) (v := ?_) (a' := ?_) #[true, true, true, false, false, false, false, false, false, false, false, false, false, false, false, false, false] rfl rfl (by kernel_rfl) (fun _ _ _ h => h) (Or.inl ⟨by rfl, ?_⟩) ?_ ?_
        rotate_left
        · intro w'
          go_simp
          with_reducible rfl
        rotate_left
        · simp only [Act.put, List.setIfInBounds_toArray, List.set_cons_zero, List.set_cons_succ, i64_w, i32_w]
          rfl
        refine take_ (i := 3) (N := some 26) (v := ?_) (a' := ?_) #[true, true, true, true, false, false, false, false, false, false, false, false, false, false, false, false, false] rfl rfl (by kernel_rfl) (fun _ _ _ h => h) (Or.inl ⟨by rfl, ?_⟩) hHeld ?_ ?_
        rotate_left
        · rintro w' ⟨s0, s1, s2, s3, s4, s5, s6⟩
          go_simp
          with_reducible rfl
        rotate_left
        · simp only [Act.put, List.setIfInBounds_toArray, List.set_cons_zero, List.set_cons_succ, i64_w, i32_w]
          rfl
        refine pure_ (i := 4) (N := some 27) (v := ?_) (a' := ?_) #[true, true, true, true, true, false, false, false, false, false, false, false, false, false, false, false, false] rfl rfl (by kernel_rfl) (fun _ _ _ h => h) (Or.inl ⟨by rfl, ?_⟩) ?_ ?_
        rotate_left
        · intro w'
          go_simp
          with_reducible rfl
        rotate_left
        · simp only [Act.put, List.setIfInBounds_toArray, List.set_cons_zero, List.set_cons_succ, i64_w, i32_w]
          rfl
        refine pure_ (i := 5) (N := some 28) (v := ?_) (a' := ?_) #[true, true, true, true, true, true, false, false, false, false, false, false, false, false, false, false, false] rfl rfl (by kernel_rfl) (fun _ _ _ h => h) (Or.inl ⟨by rfl, ?_⟩) ?_ ?_
        rotate_left
        · intro w'
          go_simp
          with_reducible rfl
        rotate_left
        · simp only [Act.put, List.setIfInBounds_toArray, List.set_cons_zero, List.set_cons_succ, i64_w, i32_w]
          rfl
        refine pure_ (i := 6) (N := some 29) (v := ?_) (a' := ?_) #[true, true, true, true, true, true, true, false, false, false, false, false, false, false, false, false, false] rfl rfl (by kernel_rfl) (fun _ _ _ h => h) (Or.inl ⟨by rfl, ?_⟩) ?_ ?_
        rotate_left
        · intro w'
          go_simp
          with_reducible rfl
        rotate_left
        · simp only [Act.put, List.setIfInBounds_toArray, List.set_cons_zero, List.set_cons_succ, i64_w, i32_w]
          rfl
        refine pure_ (i := 7) (N := some 30) (v := ?_) (a' := ?_) #[true, true, true, true, true, true, true, true, false, false, false, false, false, false, false, false, false] rfl rfl (by kernel_rfl) (fun _ _ _ h => h) (Or.inl ⟨by rfl, ?_⟩) ?_ ?_
        rotate_left
        · intro w'
          go_simp
          with_reducible rfl
        rotate_left
        · simp only [Act.put, List.setIfInBounds_toArray, List.set_cons_zero, List.set_cons_succ, i64_w, i32_w]
          rfl
        refine pure_ (i := 9) (N := some 32) (v := ?_) (a' := ?_) #[true, true, true, true, true, true, true, true, false, true, false, false, false, false, false, false, false] rfl rfl (by kernel_rfl) (fun _ _ _ h => h) (Or.inl ⟨by rfl, ?_⟩) ?_ ?_
        rotate_left
        · intro w'
          go_simp
          with_reducible rfl
        rotate_left
        · simp only [Act.put, List.setIfInBounds_toArray, List.set_cons_zero, List.set_cons_succ, i64_w, i32_w]
          rfl
        refine pure_ (i := 12) (N := some 35) (v := ?_) (a' := ?_) #[true, true, true, true, true, true, true, true, false, true, false, false, true, false, false, false, false] rfl rfl (by kernel_rfl) (fun _ _ _ h => h) (Or.inl ⟨by rfl, ?_⟩) ?_ ?_
        rotate_left
        · intro w'
          go_simp
          with_reducible rfl
        rotate_left
        · simp only [Act.put, List.setIfInBounds_toArray, List.set_cons_zero, List.set_cons_succ, i64_w, i32_w]
          rfl
        refine pure_ (i := 15) (N := some 4) (v := ?_) (a' := ?_) #[true, true, true, true, true, true, true, true, false, true, false, false, true, false, false, true, false] rfl rfl (by kernel_rfl) (fun _ _ _ h => h) (Or.inl ⟨by rfl, ?_⟩) ?_ ?_
        rotate_left
        · intro w'
          go_simp
          with_reducible rfl
        rotate_left
        · simp only [Act.put, List.setIfInBounds_toArray, List.set_cons_zero, List.set_cons_succ, i64_w, i32_w]
          rfl
        refine take_ (i := 8) (N := some 31) (v := ?_) (a' := ?_) #[true, true, true, true, true, true, true, true, true, true, false, false, true, false, false, true, false] rfl rfl (by kernel_rfl) (fun _ _ _ h => h) (Or.inl ⟨by rfl, ?_⟩) hHeld ?_ ?_
        rotate_left
        · rintro w' ⟨s0, s1, s2, s3, s4, s5, s6⟩
          go_simp
          with_reducible rfl
        rotate_left
        · simp only [Act.put, List.setIfInBounds_toArray, List.set_cons_zero, List.set_cons_succ, i64_w, i32_w]
          rfl
        refine pure_ (i := 10) (N := some 33) (v := ?_) (a' := ?_) #[true, true, true, true, true, true, true, true, true, true, true, false, true, false, false, true, false] rfl rfl (by kernel_rfl) (fun _ _ _ h => h) (Or.inl ⟨by rfl, ?_⟩) ?_ ?_
        rotate_left
        · intro w'
          go_simp
          with_reducible rfl
        rotate_left
        · simp only [Act.put, List.setIfInBounds_toArray, List.set_cons_zero, List.set_cons_succ, i64_w, i32_w]
          rfl
        refine take_ (i := 11) (N := some 34) (v := ?_) (a' := ?_) #[true, true, true, true, true, true, true, true, true, true, true, true, true, false, false, true, false] rfl rfl (by kernel_rfl) (fun _ _ _ h => h) (Or.inl ⟨by rfl, ?_⟩) hHeld ?_ ?_
        rotate_left
        · rintro w' ⟨s0, s1, s2, s3, s4, s5, s6⟩
          go_simp
          with_reducible rfl
        rotate_left
        · simp only [Act.put, List.setIfInBounds_toArray, List.set_cons_zero, List.set_cons_succ, i64_w, i32_w]
          rfl
        refine pure_ (i := 13) (N := some 36) (v := ?_) (a' := ?_) #[true, true, true, true, true, true, true, true, true, true, true, true, true, true, false, true, false] rfl rfl (by kernel_rfl) (fun _ _ _ h => h) (Or.inl ⟨by rfl, ?_⟩) ?_ ?_
        rotate_left
        · intro w'
          go_simp
          with_reducible rfl
        rotate_left
        · simp only [Act.put, List.setIfInBounds_toArray, List.set_cons_zero, List.set_cons_succ, i64_w, i32_w]
          rfl
        refine pure_ (i := 14) (N := some 37) (v := ?_) (a' := ?_) #[true, true, true, true, true, true, true, true, true, true, true, true, true, true, true, true, false] rfl rfl (by kernel_rfl) (fun _ _ _ h => h) (Or.inl ⟨by rfl, ?_⟩) ?_ ?_
        rotate_left
        · intro w'
          go_simp
          with_reducible rfl
        rotate_left
        · simp only [Act.put, List.setIfInBounds_toArray, List.set_cons_zero, List.set_cons_succ, i64_w, i32_w]
          rfl
        refine pure_ (i := 16) (N := some 5) (v := ?_) (a' := ?_) #[true, true, true, true, true, true, true, true, true, true, true, true, true, true, true, true, true] rfl rfl (by kernel_rfl) (fun _ _ _ h => h) (Or.inl ⟨by rfl, ?_⟩) ?_ ?_
        rotate_left
        · intro w'
          go_simp
          with_reducible rfl
        rotate_left
        · simp only [Act.put, List.setIfInBounds_toArray, List.set_cons_zero, List.set_cons_succ, i64_w, i32_w]
          rfl
        refine done_ (by kernel_rfl) ?_
        go_wp2_with fail
        go_ret2
        exact ⟨j, HP.out.symm, by rw [← HR0.out]; rfl, pw_below_drewN HR.out.1.1 1⟩
    · have hlt2 : ¬ (j : Int) < (n : Int) := by omega
      have hlt3 : decide ((j : Int) < (n : Int)) = false := decide_eq_false hlt2
      have hlt4 : decide (j < n) = false := decide_eq_false hlt
      have HNL := Lib.hid hlt
      have HP : Hid (plc x.f4 key = j) := Lib.hid (plc_eq key x.f4 j (by have := HNN.out; omega) (fun i s hi hs => by rw [← rd_key x.f4 i (by have := HNN.out; omega) hs]; exact hG i hi) (fun s hs => by have := (List.getElem?_eq_some_iff.1 hs).1; have := HNN.out; omega))
      have HH : Hid (hsV x key = false) := Lib.hid (has_end HN.out.1 (by have := HP.out; have := HNN.out; omega))
      clear hkj hS hG hlt hlt2
      go_wp2_with fail
      refine start_ (n := 17) (S := fun w' => w'.cell? ⟨B, 0, none⟩ = some (.int .i64 x.f0) ∧ w'.cell? ⟨B, 1, none⟩ = some (.int .i64 x.f1) ∧ w'.cell? ⟨B, 2, none⟩ = some (.string x.f2) ∧ w'.cell? ⟨B, 3, none⟩ = some (.slice A3 x.f3.length c3) ∧ w'.cell? ⟨B, 4, none⟩ = some (.slice A4 n c4) ∧ w'.cell? ⟨B, 5, none⟩ = some (.slice A5 x.f5.length c5)) (ds := []) #[false, false, false, false, false, false, false, false, false, false, false, false, false, false, false, false, false] (by kernel_rfl) rfl rfl ⟨(six_cells (HR.out.1.get 0 rfl)).1, (six_cells (HR.out.1.get 0 rfl)).2.1, (six_cells (HR.out.1.get 0 rfl)).2.2.1, (six_cells (HR.out.1.get 0 rfl)).2.2.2.1, (six_cells (HR.out.1.get 0 rfl)).2.2.2.2.1, (six_cells (HR.out.1.get 0 rfl)).2.2.2.2.2.1⟩ (fun hHeld => ?_)
      refine pure_ (i := 0) (N := some 23) (v := ?_) (a' := ?_) #[true, false, false, false, false, false, false, false, false, false, false, false, false, false, false, false, false] rfl rfl (by kernel_rfl) (fun _ _ _ h => h) (Or.inl ⟨by rfl, ?_⟩) ?_ ?_
      rotate_left
      · intro w'
        go_simp
        with_reducible rfl
      rotate_left
      · simp only [Act.put, List.setIfInBounds_toArray, List.set_cons_zero, List.set_cons_succ, i64_w, i32_w]
        rfl
      refine pure_ (i := 1) (N := some 24) (v := ?_) (a' := ?_) #[true, true, false, false, false, false, false, false, false, false, false, false, false, false, false, false, false] rfl rfl (by kernel_rfl) (fun _ _ _ h => h) (Or.inl ⟨by rfl, ?_⟩) ?_ ?_
      rotate_left
      · intro w'
        go_simp
        with_reducible rfl
      rotate_left
      · simp only [Act.put, List.setIfInBounds_toArray, List.set_cons_zero, List.set_cons_succ, i64_w, i32_w]
        rfl
      refine pure_ (i := 2) (N := some 25) (v := ?_) (a' := ?_) #[true, true, true, false, false, false, false, false, false, false, false, false, false, false, false, false, false] rfl rfl (by kernel_rfl) (fun _ _ _ h => h) (Or.inl ⟨by rfl, ?_⟩) ?_ ?_
      rotate_left
      · intro w'
        go_simp
        with_reducible rfl
      rotate_left
      · simp only [Act.put, List.setIfInBounds_toArray, List.set_cons_zero, List.set_cons_succ, i64_w, i32_w]
        rfl
      refine take_ (i := 3) (N := some 26) (v := ?_) (a' := ?_) #[true, true, true, true, false, false, false, false, false, false, false, false, false, false, false, false, false] rfl rfl (by kernel_rfl) (fun _ _ _ h => h) (Or.inl ⟨by rfl, ?_⟩) hHeld ?_ ?_
      rotate_left
      · rintro w' ⟨s0, s1, s2, s3, s4, s5⟩
        go_simp
        with_reducible rfl
      rotate_left
      · simp only [Act.put, List.setIfInBounds_toArray, List.set_cons_zero, List.set_cons_succ, i64_w, i32_w]
        rfl
      refine pure_ (i := 4) (N := some 27) (v := ?_) (a' := ?_) #[true, true, true, true, true, false, false, false, false, false, false, false, false, false, false, false, false] rfl rfl (by kernel_rfl) (fun _ _ _ h => h) (Or.inl ⟨by rfl, ?_⟩) ?_ ?_
      rotate_left
      · intro w'
        go_simp
        with_reducible rfl
      rotate_left
      · simp only [Act.put, List.setIfInBounds_toArray, List.set_cons_zero, List.set_cons_succ, i64_w, i32_w]
        rfl
      refine pure_ (i := 5) (N := some 28) (v := ?_) (a' := ?_) #[true, true, true, true, true, true, false, false, false, false, false, false, false, false, false, false, false] rfl rfl (by kernel_rfl) (fun _ _ _ h => h) (Or.inl ⟨by rfl, ?_⟩) ?_ ?_
      rotate_left
      · intro w'
        go_simp
        with_reducible rfl
      rotate_left
      · simp only [Act.put, List.setIfInBounds_toArray, List.set_cons_zero, List.set_cons_succ, i64_w, i32_w]
        rfl
      refine pure_ (i := 6) (N := some 29) (v := ?_) (a' := ?_) #[true, true, true, true, true, true, true, false, false, false, false, false, false, false, false, false, false] rfl rfl (by kernel_rfl) (fun _ _ _ h => h) (Or.inl ⟨by rfl, ?_⟩) ?_ ?_
      rotate_left
      · intro w'
        go_simp
        with_reducible rfl
      rotate_left
      · simp only [Act.put, List.setIfInBounds_toArray, List.set_cons_zero, List.set_cons_succ, i64_w, i32_w]
        rfl
      refine pure_ (i := 7) (N := some 30) (v := undef) (a' := ?_) #[true, true, true, true, true, true, true, true, false, false, false, false, false, false, false, false, false] rfl rfl (by kernel_rfl) (fun _ _ _ h => h) (Or.inr ⟨by rfl, rfl⟩) ?_ ?_
      rotate_left
      · simp only [Act.put, List.setIfInBounds_toArray, List.set_cons_zero, List.set_cons_succ, i64_w, i32_w]
        rfl
      refine pure_ (i := 8) (N := some 31) (v := undef) (a' := ?_) #[true, true, true, true, true, true, true, true, true, false, false, false, false, false, false, false, false] rfl rfl (by kernel_rfl) (fun _ _ _ h => h) (Or.inr ⟨by rfl, rfl⟩) ?_ ?_
      rotate_left
      · simp only [Act.put, List.setIfInBounds_toArray, List.set_cons_zero, List.set_cons_succ, i64_w, i32_w]
        rfl
      refine pure_ (i := 9) (N := some 32) (v := undef) (a' := ?_) #[true, true, true, true, true, true, true, true, true, true, false, false, false, false, false, false, false] rfl rfl (by kernel_rfl) (fun _ _ _ h => h) (Or.inr ⟨by rfl, rfl⟩) ?_ ?_
      rotate_left
      · simp only [Act.put, List.setIfInBounds_toArray, List.set_cons_zero, List.set_cons_succ, i64_w, i32_w]
        rfl
      refine pure_ (i := 10) (N := some 33) (v := undef) (a' := ?_) #[true, true, true, true, true, true, true, true, true, true, true, false, false, false, false, false, false] rfl rfl (by kernel_rfl) (fun _ _ _ h => h) (Or.inr ⟨by rfl, rfl⟩) ?_ ?_
      rotate_left
      · simp only [Act.put, List.setIfInBounds_toArray, List.set_cons_zero, List.set_cons_succ, i64_w, i32_w]
        rfl
      refine pure_ (i := 11) (N := some 34) (v := undef) (a' := ?_) #[true, true, true, true, true, true, true, true, true, true, true, true, false, false, false, false, false] rfl rfl (by kernel_rfl) (fun _ _ _ h => h) (Or.inr ⟨by rfl, rfl⟩) ?_ ?_
      rotate_left
      · simp only [Act.put, List.setIfInBounds_toArray, List.set_cons_zero, List.set_cons_succ, i64_w, i32_w]
        rfl
      refine pure_ (i := 12) (N := some 35) (v := undef) (a' := ?_) #[true, true, true, true, true, true, true, true, true, true, true, true, true, false, false, false, false] rfl rfl (by kernel_rfl) (fun _ _ _ h => h) (Or.inr ⟨by rfl, rfl⟩) ?_ ?_
      rotate_left
      · simp only [Act.put, List.setIfInBounds_toArray, List.set_cons_zero, List.set_cons_succ, i64_w, i32_w]
        rfl
      refine pure_ (i := 13) (N := some 36) (v := undef) (a' := ?_) #[true, true, true, true, true, true, true, true, true, true, true, true, true, true, false, false, false] rfl rfl (by kernel_rfl) (fun _ _ _ h => h) (Or.inr ⟨by rfl, rfl⟩) ?_ ?_
      rotate_left
      · simp only [Act.put, List.setIfInBounds_toArray, List.set_cons_zero, List.set_cons_succ, i64_w, i32_w]
        rfl
      refine pure_ (i := 14) (N := some 37) (v := ?_) (a' := ?_) #[true, true, true, true, true, true, true, true, true, true, true, true, true, true, true, false, false] rfl rfl (by kernel_rfl) (fun _ _ _ h => h) (Or.inl ⟨by rfl, ?_⟩) ?_ ?_
      rotate_left
      · intro w'
        go_simp
        with_reducible rfl
      rotate_left
      · simp only [Act.put, List.setIfInBounds_toArray, List.set_cons_zero, List.set_cons_succ, i64_w, i32_w]
        rfl
      refine pure_ (i := 15) (N := some 4) (v := ?_) (a' := ?_) #[true, true, true, true, true, true, true, true, true, true, true, true, true, true, true, true, false] rfl rfl (by kernel_rfl) (fun _ _ _ h => h) (Or.inl ⟨by rfl, ?_⟩) ?_ ?_
      rotate_left
      · intro w'
        go_simp
        with_reducible rfl
      rotate_left
      · simp only [Act.put, List.setIfInBounds_toArray, List.set_cons_zero, List.set_cons_succ, i64_w, i32_w]
        rfl
      refine pure_ (i := 16) (N := some 5) (v := ?_) (a' := ?_) #[true, true, true, true, true, true, true, true, true, true, true, true, true, true, true, true, true] rfl rfl (by kernel_rfl) (fun _ _ _ h => h) (Or.inl ⟨by rfl, ?_⟩) ?_ ?_
      rotate_left
      · intro w'
        go_simp
        with_reducible rfl
      rotate_left
      · simp only [Act.put, List.setIfInBounds_toArray, List.set_cons_zero, List.set_cons_succ, i64_w, i32_w]
        rfl
      refine done_ (by kernel_rfl) ?_
      go_wp2_with fail
      go_ret2
      exact ⟨j, HP.out.symm, by rw [HH.out]; rfl, pw_below_drewN HR.out.1.1 1⟩
set_option maxHeartbeats 4000000 in
theorem has_any (w0 : World) (x : V) (hx : WL x) (A3 A4 A5 : Option Addr) (c3 c4 c5 : Nat) (hK : k26.K w0 x [.int .i64 x.f0, .int .i64 x.f1, .string x.f2, .slice A3 x.f3.length c3, .slice A4 x.f4.length c4, .slice A5 x.f5.length c5]) (key : ByteArray) (w : World) (hb : Below w0.heap.size w0 w) :
    Calls Tryz.prog 136 #[.agg #[.int .i64 x.f0, .int .i64 x.f1, .string x.f2, .slice A3 x.f3.length c3, .slice A4 x.f4.length c4, .slice A5 x.f5.length c5], .string key] w fun e w' => e = .returned (.bool (hsV x key)) ∧ Below w.heap.size w w' := by
  have HP := Lib.hid (fun w1 hb1 => place_any w0 x hx A3 A4 A5 c3 c4 c5 hK key w1 hb1)
  have HB := Lib.hid hb
  clear hK hb hx
  go_enter Tryz.func136, Tryz.ntmps136
  go_wp2_with fail
  refine (HP.out _ (HB.out.trans (((Below.refl _ w).alloc (Nat.le_refl _) _).mono HB.out.size))).mono ?_
  rintro e w1 ⟨j, hj, rfl, hb1⟩
  have H1 := Lib.hid (((Below.refl _ w).alloc (Nat.le_refl _) (.cells #[.int .i64 x.f0, .int .i64 x.f1, .string x.f2, .slice A3 x.f3.length c3, .slice A4 x.f4.length c4, .slice A5 x.f5.length c5] 26)).trans (hb1.mono (by rw [World.size_alloc]; omega)))
  clear hb1 hj
  go_wp2_with fail
  go_ret
  exact ⟨rfl, H1.out⟩
/-- A value as it is read, in memory of w0. -/
def ReadAs (w0 : World) (y : V) (w : World) (e : Ending) (w' : World) : Prop := ∃ (B3 : Option Addr) (d3 : Nat) (B4 : Option Addr) (d4 : Nat) (B5 : Option Addr) (d5 : Nat), e = .returned (.agg #[.int .i64 y.f0, .int .i64 y.f1, .string y.f2, .slice B3 y.f3.length d3, .slice B4 y.f4.length d4, .slice B5 y.f5.length d5]) ∧ k26.K w0 y [.int .i64 y.f0, .int .i64 y.f1, .string y.f2, .slice B3 y.f3.length d3, .slice B4 y.f4.length d4, .slice B5 y.f5.length d5] ∧ Below w.heap.size w w'
set_option maxRecDepth 100000 in
set_option maxHeartbeats 4000000 in
theorem get_any (w0 : World) (x : V) (hx : WL x) (A3 A4 A5 : Option Addr) (c3 c4 c5 : Nat) (hK : k26.K w0 x [.int .i64 x.f0, .int .i64 x.f1, .string x.f2, .slice A3 x.f3.length c3, .slice A4 x.f4.length c4, .slice A5 x.f5.length c5]) (key : ByteArray) (w : World) (hb : Below w0.heap.size w0 w) :
    Calls Tryz.prog 23 #[.agg #[.int .i64 x.f0, .int .i64 x.f1, .string x.f2, .slice A3 x.f3.length c3, .slice A4 x.f4.length c4, .slice A5 x.f5.length c5], .string key] w (ReadAs w0 (getV x key) w) := by
  have HP := Lib.hid (fun w1 hb1 => place_any w0 x hx A3 A4 A5 c3 c4 c5 hK key w1 hb1)
  obtain ⟨B3, e3, B4, e4, B5, e5, he, l3, g3, l4, g4, l5, g5⟩ := k26_open hK
  simp only [List.cons.injEq, Value.int.injEq, Value.string.injEq, Value.slice.injEq, true_and, and_true] at he
  obtain ⟨⟨rfl, rfl⟩, ⟨rfl, rfl⟩, ⟨rfl, rfl⟩⟩ := he
  have HC := Lib.hid g5
  have HB := Lib.hid hb
  have HX := Lib.hid (And.intro hx (wf_facts hx).2.2.2)
  clear g3 l3 g4 l4 g5 l5 hK hb hx
  go_enter Tryz.func23, Tryz.ntmps23
  go_wp2_with fail
  obtain ⟨W0, hW0⟩ : ∃ W0, W0 = (w.alloc (.cells #[.int .i64 x.f0, .int .i64 x.f1, .string x.f2, .slice A3 x.f3.length c3, .slice A4 x.f4.length c4, .slice A5 x.f5.length c5] 26)).alloc (.cells #[.int .i64 0, .int .i64 0, .string ⟨#[]⟩, .slice none 0 0, .slice none 0 0, .slice none 0 0] 26) := ⟨_, rfl⟩
  obtain ⟨B, hB⟩ : ∃ B, B = w.heap.size := ⟨_, rfl⟩
  obtain ⟨R, hR⟩ : ∃ R, R = w.heap.size + 1 := ⟨_, rfl⟩
  have hS : SPL w [(B, #[.int .i64 x.f0, .int .i64 x.f1, .string x.f2, .slice A3 x.f3.length c3, .slice A4 x.f4.length c4, .slice A5 x.f5.length c5], 26), (R, #[.int .i64 0, .int .i64 0, .string ⟨#[]⟩, .slice none 0 0, .slice none 0 0, .slice none 0 0], 26)] W0 := by rw [hB, hR, hW0]; exact SPL.two w _ _ _ _
  have hRw : w.heap.size ≤ R := by omega
  rw [← hW0]
  try rw [← hR]
  try rw [← hB]
  have H0 := Lib.hid hS
  have HRW := Lib.hid hRw
  clear hS hW0 hB hR hRw
  refine (HP.out _ (HB.out.trans (H0.out.1.mono HB.out.size))).mono ?_
  rintro e w1 ⟨j, hj, rfl, hb1⟩
  have H1 := Lib.hid (H0.out.below hb1)
  have HJ := Lib.hid hj
  clear hb1 hj H0
  have yb := six_cells (H1.out.get 0 rfl)
  have yr := six_cells (H1.out.get 1 rfl)
  cases hh : hsV x key with
  | false =>
    have HY : Hid (getV x key = nullV) := Lib.hid (by
      unfold getV
      unfold hsV at hh
      cases hg : getKV (kv x) key with
      | none => rfl
      | some v => rw [hg] at hh; cases hh)
    clear hh
    go_wp2_with fail
    have hz := six_set (H1.out.get 1 rfl) (.int .i64 0) (.int .i64 0) (.string ⟨#[]⟩) (.slice none 0 0) (.slice none 0 0) (.slice none 0 0)
    have hg := six_grown w1 R (.int .i64 0) (.int .i64 0) (.string ⟨#[]⟩) (.slice none 0 0) (.slice none 0 0) (.slice none 0 0)
    obtain ⟨W2, hW⟩ : ∃ W2, W2 = (((((w1.setCell ⟨R, 0, none⟩ (.int .i64 0)).setCell ⟨R, 1, none⟩ (.int .i64 0)).setCell ⟨R, 2, none⟩ (.string ⟨#[]⟩)).setCell ⟨R, 3, none⟩ (.slice none 0 0)).setCell ⟨R, 4, none⟩ (.slice none 0 0)).setCell ⟨R, 5, none⟩ (.slice none 0 0) := ⟨_, rfl⟩
    rw [← hW] at hz hg ⊢
    clear hW yb yr
    obtain ⟨q0, q1, q2, q3, q4, q5, _⟩ := six_cells hz
    refine bodyPost_ret (v := .agg #[.int .i64 0, .int .i64 0, .string ⟨#[]⟩, .slice none 0 0, .slice none 0 0, .slice none 0 0]) (by simp [results, Tryz.results23, go_sem, q0, q1, q2, q3, q4, q5]) rfl ?_
    rw [HY.out]
    exact ⟨none, 0, none, 0, none, 0, rfl, k26_mk w0 nullV (Nat.le_refl _) (Kd.C_nil _ _) (Nat.le_refl _) (Kd.C_nil _ _) (Nat.le_refl _) (Kd.C_nil _ _), H1.out.1.grown hg H1.out.1.size (fun k hk => by cases hk; exact HRW.out)⟩
  | true =>
    have hlt : j < x.f4.length := by
      have h1 := plc_le key x.f4
      by_cases c : j < x.f4.length
      · exact c
      · have := has_end HX.out.1 (key := key) (by have := HJ.out; omega)
        rw [hh] at this
        cases this
    have HY : Hid (getV x key = rd_T26 x.f5 j) := Lib.hid ((has_at HX.out.1 hlt HJ.out.symm).2 hh)
    obtain ⟨ad, D3, e3, D4, e4, D5, e5, rfl, x0, x1, x2, x3, x4, x5, hE⟩ := elem_at HC.out (HB.out.trans (H1.out.1.mono HB.out.size)) j (by have := HX.out.2; omega)
    have HE := Lib.hid hE
    have hlt2 : (j : Int) < (x.f5.length : Int) := by have := HX.out.2; omega
    obtain ⟨y, hy⟩ : ∃ y, y = rd_T26 x.f5 j := ⟨_, rfl⟩
    rw [← hy] at x0 x1 x2 x3 x4 x5 HE HY
    clear hE hlt hy
    go_wp2_with fail
    have hz := six_set (H1.out.get 1 rfl) (.int .i64 y.f0) (.int .i64 y.f1) (.string y.f2) (.slice D3 y.f3.length e3) (.slice D4 y.f4.length e4) (.slice D5 y.f5.length e5)
    have hg := six_grown w1 R (.int .i64 y.f0) (.int .i64 y.f1) (.string y.f2) (.slice D3 y.f3.length e3) (.slice D4 y.f4.length e4) (.slice D5 y.f5.length e5)
    obtain ⟨W2, hW⟩ : ∃ W2, W2 = (((((w1.setCell ⟨R, 0, none⟩ (.int .i64 y.f0)).setCell ⟨R, 1, none⟩ (.int .i64 y.f1)).setCell ⟨R, 2, none⟩ (.string y.f2)).setCell ⟨R, 3, none⟩ (.slice D3 y.f3.length e3)).setCell ⟨R, 4, none⟩ (.slice D4 y.f4.length e4)).setCell ⟨R, 5, none⟩ (.slice D5 y.f5.length e5) := ⟨_, rfl⟩
    rw [← hW] at hz hg ⊢
    clear hW yb yr x0 x1 x2 x3 x4 x5
    obtain ⟨q0, q1, q2, q3, q4, q5, _⟩ := six_cells hz
    refine bodyPost_ret (v := .agg #[.int .i64 y.f0, .int .i64 y.f1, .string y.f2, .slice D3 y.f3.length e3, .slice D4 y.f4.length e4, .slice D5 y.f5.length e5]) (by simp [results, Tryz.results23, go_sem, q0, q1, q2, q3, q4, q5]) rfl ?_
    rw [HY.out]
    exact ⟨D3, e3, D4, e4, D5, e5, rfl, HE.out, H1.out.1.grown hg H1.out.1.size (fun k hk => by cases hk; exact HRW.out)⟩
end Go.Proofs.YtcoahpcjhhnkkaaGreatDoor.ValA
