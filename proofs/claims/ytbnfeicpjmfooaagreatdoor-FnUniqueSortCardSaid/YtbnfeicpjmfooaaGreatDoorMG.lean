/-
Parts of the proof, one behind the other: OrdA, OrdB, OrdC, OrdD, OrdE, OrdF, OrdG.
-/
import Derived.Test.YtbnfeicpjmfooaaGreatDoorMF
import Derived.Test.YtbnfeicpjmfooaaGreatDoorMD
/-
The order of values, as a plain function.
-/
set_option linter.unusedSimpArgs false
set_option linter.unusedVariables false
namespace Go.Proofs.YtbnfeicpjmfooaaGreatDoor.NumA
open Go.RowKit Go.Lib Go.Proofs.YtbnfeicpjmfooaaGreatDoor.ValA Go.Proofs.YtbnfeicpjmfooaaGreatDoor.FloH Go.Proofs.YtbnfeicpjmfooaaGreatDoorW.PrintWords Go.Proofs.YtbnfeicpjmfooaaGreatDoorW.PrintLast Go.Proofs.YtbnfeicpjmfooaaGreatDoorW.PrintMore Go.Proofs.YtbnfeicpjmfooaaGreatDoor.PzzFits1
/-- Two lists of keys. -/
def cmpK : List ByteArray → List ByteArray → Int
  | [], l => -(l.length : Int)
  | x :: l, [] => ((x :: l).length : Int)
  | x :: l, y :: l' => if tx x y = 0 then cmpK l l' else tx x y
mutual
/-- Two values. -/
def cmpV : V → V → Int
  | ⟨k, h, s, l, ks, vs⟩, y =>
    if k ≠ y.f0 then (k - y.f0).sign else if k = 3 then (h - y.f1).sign else if k = 4 then tx s y.f2 else if k = 5 then (cmpL l y.f3).sign
    else if k = 6 then (if cmpK ks y.f4 = 0 then (cmpL vs y.f5).sign else (cmpK ks y.f4).sign) else 0
/-- Two lists of values. -/
def cmpL : List V → List V → Int
  | [], l => -(l.length : Int)
  | x :: l, [] => ((x :: l).length : Int)
  | x :: l, y :: l' => if cmpV x y = 0 then cmpL l l' else cmpV x y
end
theorem cmpK_zero : ∀ (l l' : List ByteArray) (j : Nat), j < l.length → j < l'.length → tx (rdOf ByteArray.empty l j) (rdOf ByteArray.empty l' j) = 0 → cmpK (l.drop j) (l'.drop j) = cmpK (l.drop (j + 1)) (l'.drop (j + 1)) := by
  intro l l' j h h' e
  rw [List.drop_eq_getElem_cons h, List.drop_eq_getElem_cons h', cmpK]
  have e1 := key_rd l j h
  have e2 := key_rd l' j h'
  rw [List.getElem?_eq_getElem h] at e1
  rw [List.getElem?_eq_getElem h'] at e2
  rw [Option.some.inj e1, Option.some.inj e2, if_pos e]
theorem cmpK_first : ∀ (l l' : List ByteArray) (j : Nat), j < l.length → j < l'.length → tx (rdOf ByteArray.empty l j) (rdOf ByteArray.empty l' j) ≠ 0 → cmpK (l.drop j) (l'.drop j) = tx (rdOf ByteArray.empty l j) (rdOf ByteArray.empty l' j) := by
  intro l l' j h h' e
  rw [List.drop_eq_getElem_cons h, List.drop_eq_getElem_cons h', cmpK]
  have e1 := key_rd l j h
  have e2 := key_rd l' j h'
  rw [List.getElem?_eq_getElem h] at e1
  rw [List.getElem?_eq_getElem h'] at e2
  rw [Option.some.inj e1, Option.some.inj e2, if_neg e]
theorem cmpK_end : ∀ (l l' : List ByteArray) (j : Nat), j ≤ l.length → j ≤ l'.length → (j = l.length ∨ j = l'.length) → cmpK (l.drop j) (l'.drop j) = (l.length : Int) - l'.length := by
  intro l l' j h h' e
  rcases e with rfl | rfl
  · rw [List.drop_length, cmpK, List.length_drop]; omega
  · rw [List.drop_length]
    cases hl : l.drop l'.length with
    | nil =>
      have := congrArg List.length hl
      rw [List.length_drop] at this
      simp at this
      rw [cmpK]
      simp
      omega
    | cons x t =>
      have := congrArg List.length hl
      rw [List.length_drop] at this
      rw [cmpK, ← this]
      omega
end Go.Proofs.YtbnfeicpjmfooaaGreatDoor.NumA
/-
spec.keys.
-/
set_option linter.unusedSimpArgs false
set_option linter.unusedVariables false
namespace Go.Proofs.YtbnfeicpjmfooaaGreatDoor.NumA
open Go.RowKit Go.Lib Go.Proofs.YtbnfeicpjmfooaaGreatDoor.ValA Go.Proofs.YtbnfeicpjmfooaaGreatDoor.FloH Go.Proofs.YtbnfeicpjmfooaaGreatDoorW.PrintWords Go.Proofs.YtbnfeicpjmfooaaGreatDoorW.PrintLast Go.Proofs.YtbnfeicpjmfooaaGreatDoorW.PrintMore Go.Proofs.YtbnfeicpjmfooaaGreatDoor.PzzFits1
/-- The head of keys' round. -/
def RK (w : World) (l l' : List ByteArray) (k : Nat) (i : Value) (wr : World) : Prop :=
  ∃ j : Nat, i = .int .i64 j ∧ k + j = l.length ∧ j ≤ l.length ∧ j ≤ l'.length ∧ Below w.heap.size w wr ∧ cmpK (l.drop j) (l'.drop j) = cmpK l l'
set_option maxRecDepth 100000 in
set_option maxHeartbeats 4000000 in
theorem keys_any (w0 : World) (A B : Option Addr) (n c m d : Nat) (l l' : List ByteArray) (hA : Kd.C Kd.string w0 A n l) (hB : Kd.C Kd.string w0 B m l') (hl : l.length = n) (hl' : l'.length = m) (hn : n ≤ 1000000) (hm : m ≤ 1000000) (w : World) (hb : Below w0.heap.size w0 w) :
    Calls Tryz.prog 56 #[.slice A n c, .slice B m d] w fun e w' => e = .returned (.int .i64 (cmpK l l')) ∧ Below w.heap.size w w' := by
  have HC := Lib.hid (And.intro hA hB)
  have HB := Lib.hid hb
  have HN := Lib.hid (And.intro hl hl')
  have HM := Lib.hid (And.intro hn hm)
  clear hA hB hb hl hl'
  go_enter Tryz.func56, Tryz.ntmps56
  go_wp2_with fail
  go_loopg [5] n (fun k i wr => RK w l l' k i wr)
  case atStart => exact ⟨0, rfl, by have := HN.out.1; omega, Nat.zero_le _, Nat.zero_le _, Below.refl _ _, rfl⟩
  case round =>
    obtain ⟨j, rfl, hkj, hj1, hj2, hbr, hcm⟩ := hrel
    have HR := Lib.hid (And.intro hbr (And.intro hcm hkj))
    have HJ := Lib.hid (And.intro hj1 hj2)
    clear hkj hcm hj1 hj2
    by_cases hlt : j < n
    · by_cases hlt' : j < m
      · obtain ⟨a1, rfl, x1⟩ := key_at HC.out.1 (HB.out.trans (hbr.mono HB.out.size)) j hlt
        obtain ⟨a2, rfl, x2⟩ := key_at HC.out.2 (HB.out.trans (hbr.mono HB.out.size)) j hlt'
        have e1 : (j : Int) < (n : Int) := by omega
        have e2 : (j : Int) < (m : Int) := by omega
        have HLT := Lib.hid (And.intro hlt hlt')
        clear hbr hlt hlt'
        go_wp2_with fail
        refine start_ (n := 10) (S := fun w' => w'.cell? (a1.add j) = some (.string (rdOf ByteArray.empty l j)) ∧ w'.cell? (a2.add j) = some (.string (rdOf ByteArray.empty l' j)) ∧ Below w.heap.size w w') (ds := []) #[false, false, false, false, false, false, false, false, false, false] (by kernel_rfl) rfl rfl ⟨(pw_cell_below ((Below.refl _ wr).drew) x1), (pw_cell_below ((Below.refl _ wr).drew) x2), (HR.out.1.drew)⟩ (fun hHeld => ?_)
        refine pure_ (i := 0) (N := some 19) (v := ?_) (a' := ?_) #[true, false, false, false, false, false, false, false, false, false] rfl rfl (by kernel_rfl) (fun _ _ _ h => h) (Or.inl ⟨by rfl, ?_⟩) ?_ ?_
        rotate_left
        · intro w'
          go_simp
          with_reducible rfl
        rotate_left
        · simp only [Act.put, List.setIfInBounds_toArray, List.set_cons_zero, List.set_cons_succ, i64_w, i32_w]
          rfl
        refine pure_ (i := 1) (N := some 20) (v := ?_) (a' := ?_) #[true, true, false, false, false, false, false, false, false, false] rfl rfl (by kernel_rfl) (fun _ _ _ h => h) (Or.inl ⟨by rfl, ?_⟩) ?_ ?_
        rotate_left
        · intro w'
          go_simp
          with_reducible rfl
        rotate_left
        · simp only [Act.put, List.setIfInBounds_toArray, List.set_cons_zero, List.set_cons_succ, i64_w, i32_w]
          rfl
        refine pure_ (i := 2) (N := some 21) (v := ?_) (a' := ?_) #[true, true, true, false, false, false, false, false, false, false] rfl rfl (by kernel_rfl) (fun _ _ _ h => h) (Or.inl ⟨by rfl, ?_⟩) ?_ ?_
        rotate_left
        · intro w'
          go_simp
          with_reducible rfl
        rotate_left
        · simp only [Act.put, List.setIfInBounds_toArray, List.set_cons_zero, List.set_cons_succ, i64_w, i32_w]
          rfl
        refine pure_ (i := 4) (N := some 23) (v := ?_) (a' := ?_) #[true, true, true, false, true, false, false, false, false, false] rfl rfl (by kernel_rfl) (fun _ _ _ h => h) (Or.inl ⟨by rfl, ?_⟩) ?_ ?_
        rotate_left
        · intro w'
          go_simp
          with_reducible rfl
        rotate_left
        · simp only [Act.put, List.setIfInBounds_toArray, List.set_cons_zero, List.set_cons_succ, i64_w, i32_w]
          rfl
        refine pure_ (i := 5) (N := some 24) (v := ?_) (a' := ?_) #[true, true, true, false, true, true, false, false, false, false] rfl rfl (by kernel_rfl) (fun _ _ _ h => h) (Or.inl ⟨by rfl, ?_⟩) ?_ ?_
        rotate_left
        · intro w'
          go_simp
          with_reducible rfl
        rotate_left
        · simp only [Act.put, List.setIfInBounds_toArray, List.set_cons_zero, List.set_cons_succ, i64_w, i32_w]
          rfl
        refine pure_ (i := 6) (N := some 25) (v := ?_) (a' := ?_) #[true, true, true, false, true, true, true, false, false, false] rfl rfl (by kernel_rfl) (fun _ _ _ h => h) (Or.inl ⟨by rfl, ?_⟩) ?_ ?_
        rotate_left
        · intro w'
          go_simp
          with_reducible rfl
        rotate_left
        · simp only [Act.put, List.setIfInBounds_toArray, List.set_cons_zero, List.set_cons_succ, i64_w, i32_w]
          rfl
        refine take_ (i := 3) (N := some 22) (v := ?_) (a' := ?_) #[true, true, true, true, true, true, true, false, false, false] rfl rfl (by kernel_rfl) (fun _ _ _ h => h) (Or.inl ⟨by rfl, ?_⟩) hHeld ?_ ?_
        rotate_left
        · rintro w' ⟨s0, s1, s2⟩
          go_simp
          with_reducible rfl
        rotate_left
        · simp only [Act.put, List.setIfInBounds_toArray, List.set_cons_zero, List.set_cons_succ, i64_w, i32_w]
          rfl
        refine take_ (i := 7) (N := some 26) (v := ?_) (a' := ?_) #[true, true, true, true, true, true, true, true, false, false] rfl rfl (by kernel_rfl) (fun _ _ _ h => h) (Or.inl ⟨by rfl, ?_⟩) hHeld ?_ ?_
        rotate_left
        · rintro w' ⟨s0, s1, s2⟩
          go_simp
          with_reducible rfl
        rotate_left
        · simp only [Act.put, List.setIfInBounds_toArray, List.set_cons_zero, List.set_cons_succ, i64_w, i32_w]
          rfl
        refine one_ (i := 8) (N := some 27) #[true, true, true, true, true, true, true, true, true, false] rfl rfl (by kernel_rfl) (by decide) (fun K hK => ?_)
        refine goes_ Tryz.func54 (by kernel_rfl) rfl #[.string (rdOf ByteArray.empty l j), .string (rdOf ByteArray.empty l' j)] (by rfl) rfl rfl (by simp only [List.map_toArray, List.map_cons, List.map_nil]; rfl) ?_
        with_reducible refine ((texts_any _ _ _)).mono ?_
        rintro e w3 ⟨rfl, rfl⟩
        refine ⟨_, rfl, ?_⟩
        refine hK.out _ _ ⟨hHeld.1, hHeld.2.1, hHeld.2.2⟩ (fun hHeld => ?_)
        clear hK K
        refine norm_ (a' := ?_) ?_ ?_
        rotate_left
        · show Act.put _ (some 27) _ = _
          simp only [Act.put, List.setIfInBounds_toArray, List.set_cons_zero, List.set_cons_succ, i64_w, i32_w]
          rfl
        refine pure_ (i := 9) (N := some 6) (v := ?_) (a' := ?_) #[true, true, true, true, true, true, true, true, true, true] rfl rfl (by kernel_rfl) (fun _ _ _ h => h) (Or.inl ⟨by rfl, ?_⟩) ?_ ?_
        rotate_left
        · intro w'
          go_simp
          with_reducible rfl
        rotate_left
        · simp only [Act.put, List.setIfInBounds_toArray, List.set_cons_zero, List.set_cons_succ, i64_w, i32_w]
          rfl
        refine done_ (by kernel_rfl) ?_
        cases hz : (tx (rdOf ByteArray.empty l j) (rdOf ByteArray.empty l' j) != 0) with
        | true =>
          go_wp2_with fail
          go_ret
          refine ⟨?_, HR.out.1.drew⟩
          have h := cmpK_first l l' j (by have := HN.out.1; have := HLT.out.1; omega) (by have := HN.out.2; have := HLT.out.2; omega) (by simpa using hz)
          rw [← HR.out.2.1, h]
          rfl
        | false =>
          have HZ := Lib.hid (show tx (rdOf ByteArray.empty l j) (rdOf ByteArray.empty l' j) = 0 by simpa using hz)
          go_wp2_with fail
          go_roundg (gk - 1)
          case measure => have := HR.out.2.2; have := HLT.out.1; have := HN.out.1; omega
          case rel =>
            have hw : wrap64 ((j : Int) + 1) = ((j + 1 : Nat) : Int) := by have := HM.out.1; have := HLT.out.1; unfold wrap64; omega
            try rw [hw]
            exact ⟨j + 1, rfl, by have := HR.out.2.2; have := HLT.out.1; have := HN.out.1; omega, by have := HN.out.1; have := HLT.out.1; omega, by have := HN.out.2; have := HLT.out.2; omega, HR.out.1.drew, by rw [← HR.out.2.1, cmpK_zero l l' j (by have := HN.out.1; have := HLT.out.1; omega) (by have := HN.out.2; have := HLT.out.2; omega) HZ.out]⟩
      · have q1 : (j : Int) < (n : Int) := by omega
        have q2 : ¬ (j : Int) < (m : Int) := by omega
        have q3 : decide ((j : Int) < (n : Int)) = true := decide_eq_true q1
        have q4 : decide ((j : Int) < (m : Int)) = false := decide_eq_false q2
        have q5 : decide (j < n) = true := decide_eq_true hlt
        have q6 : decide (j < m) = false := decide_eq_false hlt'
        have HE := Lib.hid hlt'
        clear hbr hlt hlt' q1 q2
        go_wp2_with fail
        go_ret
        refine ⟨?_, HR.out.1⟩
        have h := cmpK_end l l' j HJ.out.1 HJ.out.2 (.inr (by have := HJ.out.2; have := HN.out.2; have := HE.out; omega))
        rw [← HR.out.2.1, h, HN.out.1, HN.out.2]
        rfl
    · have q2 : ¬ (j : Int) < (n : Int) := by omega
      have q4 : decide ((j : Int) < (n : Int)) = false := decide_eq_false q2
      have q5 : decide (j < n) = false := decide_eq_false hlt
      have HE := Lib.hid hlt
      clear hbr hlt q2
      go_wp2_with fail
      go_ret
      refine ⟨?_, HR.out.1⟩
      have h := cmpK_end l l' j HJ.out.1 HJ.out.2 (.inl (by have := HJ.out.1; have := HN.out.1; have := HE.out; omega))
      rw [← HR.out.2.1, h, HN.out.1, HN.out.2]
      rfl
end Go.Proofs.YtbnfeicpjmfooaaGreatDoor.NumA
/-
spec.lists.
-/
set_option linter.unusedSimpArgs false
set_option linter.unusedVariables false
namespace Go.Proofs.YtbnfeicpjmfooaaGreatDoor.NumA
open Go.RowKit Go.Lib Go.Proofs.YtbnfeicpjmfooaaGreatDoor.ValA Go.Proofs.YtbnfeicpjmfooaaGreatDoor.FloH Go.Proofs.YtbnfeicpjmfooaaGreatDoorW.PrintWords Go.Proofs.YtbnfeicpjmfooaaGreatDoorW.PrintLast Go.Proofs.YtbnfeicpjmfooaaGreatDoorW.PrintMore Go.Proofs.YtbnfeicpjmfooaaGreatDoor.PzzFits1
/-- spec.Cmp at two values. -/
def CmpOk (w0 : World) (x y : V) (cx cy : List Value) : Prop := ∀ w, Below w0.heap.size w0 w → Calls Tryz.prog 21 #[.agg cx.toArray, .agg cy.toArray] w fun e w' => e = .returned (.int .i64 (cmpV x y)) ∧ Below w.heap.size w w'
theorem cmpL_zero : ∀ (l l' : List V) (j : Nat), j < l.length → j < l'.length → cmpV (rd_T26 l j) (rd_T26 l' j) = 0 → cmpL (l.drop j) (l'.drop j) = cmpL (l.drop (j + 1)) (l'.drop (j + 1)) := by
  intro l l' j h h' e
  rw [List.drop_eq_getElem_cons h, List.drop_eq_getElem_cons h', cmpL]
  have e1 := rd_at l j h
  have e2 := rd_at l' j h'
  rw [List.getElem?_eq_getElem h] at e1
  rw [List.getElem?_eq_getElem h'] at e2
  rw [Option.some.inj e1, Option.some.inj e2, if_pos e]
theorem cmpL_first : ∀ (l l' : List V) (j : Nat), j < l.length → j < l'.length → cmpV (rd_T26 l j) (rd_T26 l' j) ≠ 0 → cmpL (l.drop j) (l'.drop j) = cmpV (rd_T26 l j) (rd_T26 l' j) := by
  intro l l' j h h' e
  rw [List.drop_eq_getElem_cons h, List.drop_eq_getElem_cons h', cmpL]
  have e1 := rd_at l j h
  have e2 := rd_at l' j h'
  rw [List.getElem?_eq_getElem h] at e1
  rw [List.getElem?_eq_getElem h'] at e2
  rw [Option.some.inj e1, Option.some.inj e2, if_neg e]
theorem cmpL_end : ∀ (l l' : List V) (j : Nat), j ≤ l.length → j ≤ l'.length → (j = l.length ∨ j = l'.length) → cmpL (l.drop j) (l'.drop j) = (l.length : Int) - l'.length := by
  intro l l' j h h' e
  rcases e with rfl | rfl
  · rw [List.drop_length, cmpL, List.length_drop]; omega
  · rw [List.drop_length]
    cases hl : l.drop l'.length with
    | nil =>
      have := congrArg List.length hl
      rw [List.length_drop] at this
      simp at this
      rw [cmpL]
      simp
      omega
    | cons x t =>
      have := congrArg List.length hl
      rw [List.length_drop] at this
      rw [cmpL, ← this]
      omega
/-- The head of lists' round. -/
def RLs (w : World) (l l' : List V) (k : Nat) (i : Value) (wr : World) : Prop :=
  ∃ j : Nat, i = .int .i64 j ∧ k + j = l.length ∧ j ≤ l.length ∧ j ≤ l'.length ∧ Below w.heap.size w wr ∧ cmpL (l.drop j) (l'.drop j) = cmpL l l'
set_option maxRecDepth 100000 in
set_option maxHeartbeats 4000000 in
theorem lists_any (w0 : World) (A B : Option Addr) (n c m d : Nat) (l l' : List V) (hA : Kd.C k26 w0 A n l) (hB : Kd.C k26 w0 B m l') (hl : l.length = n) (hl' : l'.length = m) (hn : n ≤ 1000000) (hm : m ≤ 1000000) (ih : ∀ y ∈ l, ∀ y' ∈ l', ∀ cs cs', k26.K w0 y cs → k26.K w0 y' cs' → CmpOk w0 y y' cs cs') (w : World) (hb : Below w0.heap.size w0 w) :
    Calls Tryz.prog 55 #[.slice A n c, .slice B m d] w fun e w' => e = .returned (.int .i64 (cmpL l l')) ∧ Below w.heap.size w w' := by
  have HC := Lib.hid (And.intro hA hB)
  have HB := Lib.hid hb
  have HI := Lib.hid (fun y hy y' hy' cs cs' hc hc' => ih y hy y' hy' cs cs' hc hc')
  have HN := Lib.hid (And.intro hl hl')
  have HM := Lib.hid (And.intro hn hm)
  clear hA hB hb ih
  clear hl hl'
  go_enter Tryz.func55, Tryz.ntmps55
  go_wp2_with fail
  go_loopg [5] n (fun k i wr => RLs w l l' k i wr)
  case atStart => exact ⟨0, rfl, by have := HN.out.1; omega, Nat.zero_le _, Nat.zero_le _, Below.refl _ _, rfl⟩
  case round =>
    obtain ⟨j, rfl, hkj, hj1, hj2, hbr, hcm⟩ := hrel
    have HR := Lib.hid (And.intro hbr (And.intro hcm hkj))
    have HJ := Lib.hid (And.intro hj1 hj2)
    clear hkj hcm hj1 hj2
    by_cases hlt : j < n
    · by_cases hlt' : j < m
      · obtain ⟨a1, B3, e3, B4, e4, B5, e5, rfl, x0, x1, x2, x3, x4, x5, hK1⟩ := elem_at HC.out.1 (HB.out.trans (hbr.mono HB.out.size)) j hlt
        obtain ⟨a2, D3, f3, D4, f4, D5, f5, rfl, y0, y1, y2, y3, y4, y5, hK2⟩ := elem_at HC.out.2 (HB.out.trans (hbr.mono HB.out.size)) j hlt'
        have HL := Lib.hid (fun w hw => HI.out _ (rd_mem l j (by have := HN.out.1; omega)) _ (rd_mem l' j (by have := HN.out.2; omega)) _ _ hK1 hK2 w hw)

        clear hK1 hK2
        have e1 : (j : Int) < (n : Int) := by omega
        have e2 : (j : Int) < (m : Int) := by omega
        have HLT := Lib.hid (And.intro hlt hlt')
        clear hbr hlt hlt'
        go_wp2_with fail
        refine start_ (n := 10) (S := fun w' => w'.cell? (a1.add (j * 6)) = some (.int .i64 (rd_T26 l j).f0) ∧ w'.cell? ⟨(a1.add (j * 6)).block, (a1.add (j * 6)).off + 1, none⟩ = some (.int .i64 (rd_T26 l j).f1) ∧ w'.cell? ⟨(a1.add (j * 6)).block, (a1.add (j * 6)).off + 2, none⟩ = some (.string (rd_T26 l j).f2) ∧ w'.cell? ⟨(a1.add (j * 6)).block, (a1.add (j * 6)).off + 3, none⟩ = some (.slice B3 (rd_T26 l j).f3.length e3) ∧ w'.cell? ⟨(a1.add (j * 6)).block, (a1.add (j * 6)).off + 4, none⟩ = some (.slice B4 (rd_T26 l j).f4.length e4) ∧ w'.cell? ⟨(a1.add (j * 6)).block, (a1.add (j * 6)).off + 5, none⟩ = some (.slice B5 (rd_T26 l j).f5.length e5) ∧ w'.cell? (a2.add (j * 6)) = some (.int .i64 (rd_T26 l' j).f0) ∧ w'.cell? ⟨(a2.add (j * 6)).block, (a2.add (j * 6)).off + 1, none⟩ = some (.int .i64 (rd_T26 l' j).f1) ∧ w'.cell? ⟨(a2.add (j * 6)).block, (a2.add (j * 6)).off + 2, none⟩ = some (.string (rd_T26 l' j).f2) ∧ w'.cell? ⟨(a2.add (j * 6)).block, (a2.add (j * 6)).off + 3, none⟩ = some (.slice D3 (rd_T26 l' j).f3.length f3) ∧ w'.cell? ⟨(a2.add (j * 6)).block, (a2.add (j * 6)).off + 4, none⟩ = some (.slice D4 (rd_T26 l' j).f4.length f4) ∧ w'.cell? ⟨(a2.add (j * 6)).block, (a2.add (j * 6)).off + 5, none⟩ = some (.slice D5 (rd_T26 l' j).f5.length f5) ∧ Below w.heap.size w w') (ds := []) #[false, false, false, false, false, false, false, false, false, false] (by kernel_rfl) rfl rfl ⟨(pw_cell_below ((Below.refl _ wr).drew) x0), (pw_cell_below ((Below.refl _ wr).drew) x1), (pw_cell_below ((Below.refl _ wr).drew) x2), (pw_cell_below ((Below.refl _ wr).drew) x3), (pw_cell_below ((Below.refl _ wr).drew) x4), (pw_cell_below ((Below.refl _ wr).drew) x5), (pw_cell_below ((Below.refl _ wr).drew) y0), (pw_cell_below ((Below.refl _ wr).drew) y1), (pw_cell_below ((Below.refl _ wr).drew) y2), (pw_cell_below ((Below.refl _ wr).drew) y3), (pw_cell_below ((Below.refl _ wr).drew) y4), (pw_cell_below ((Below.refl _ wr).drew) y5), (HR.out.1.drew)⟩ (fun hHeld => ?_)
        refine pure_ (i := 0) (N := some 19) (v := ?_) (a' := ?_) #[true, false, false, false, false, false, false, false, false, false] rfl rfl (by kernel_rfl) (fun _ _ _ h => h) (Or.inl ⟨by rfl, ?_⟩) ?_ ?_
        rotate_left
        · intro w'
          go_simp
          with_reducible rfl
        rotate_left
        · simp only [Act.put, List.setIfInBounds_toArray, List.set_cons_zero, List.set_cons_succ, i64_w, i32_w]
          rfl
        refine pure_ (i := 1) (N := some 20) (v := ?_) (a' := ?_) #[true, true, false, false, false, false, false, false, false, false] rfl rfl (by kernel_rfl) (fun _ _ _ h => h) (Or.inl ⟨by rfl, ?_⟩) ?_ ?_
        rotate_left
        · intro w'
          go_simp
          with_reducible rfl
        rotate_left
        · simp only [Act.put, List.setIfInBounds_toArray, List.set_cons_zero, List.set_cons_succ, i64_w, i32_w]
          rfl
        refine pure_ (i := 2) (N := some 21) (v := ?_) (a' := ?_) #[true, true, true, false, false, false, false, false, false, false] rfl rfl (by kernel_rfl) (fun _ _ _ h => h) (Or.inl ⟨by rfl, ?_⟩) ?_ ?_
        rotate_left
        · intro w'
          go_simp
          with_reducible rfl
        rotate_left
        · simp only [Act.put, List.setIfInBounds_toArray, List.set_cons_zero, List.set_cons_succ, i64_w, i32_w]
          rfl
        refine pure_ (i := 4) (N := some 23) (v := ?_) (a' := ?_) #[true, true, true, false, true, false, false, false, false, false] rfl rfl (by kernel_rfl) (fun _ _ _ h => h) (Or.inl ⟨by rfl, ?_⟩) ?_ ?_
        rotate_left
        · intro w'
          go_simp
          with_reducible rfl
        rotate_left
        · simp only [Act.put, List.setIfInBounds_toArray, List.set_cons_zero, List.set_cons_succ, i64_w, i32_w]
          rfl
        refine pure_ (i := 5) (N := some 24) (v := ?_) (a' := ?_) #[true, true, true, false, true, true, false, false, false, false] rfl rfl (by kernel_rfl) (fun _ _ _ h => h) (Or.inl ⟨by rfl, ?_⟩) ?_ ?_
        rotate_left
        · intro w'
          go_simp
          with_reducible rfl
        rotate_left
        · simp only [Act.put, List.setIfInBounds_toArray, List.set_cons_zero, List.set_cons_succ, i64_w, i32_w]
          rfl
        refine pure_ (i := 6) (N := some 25) (v := ?_) (a' := ?_) #[true, true, true, false, true, true, true, false, false, false] rfl rfl (by kernel_rfl) (fun _ _ _ h => h) (Or.inl ⟨by rfl, ?_⟩) ?_ ?_
        rotate_left
        · intro w'
          go_simp
          with_reducible rfl
        rotate_left
        · simp only [Act.put, List.setIfInBounds_toArray, List.set_cons_zero, List.set_cons_succ, i64_w, i32_w]
          rfl
        refine take_ (i := 3) (N := some 22) (v := ?_) (a' := ?_) #[true, true, true, true, true, true, true, false, false, false] rfl rfl (by kernel_rfl) (fun _ _ _ h => h) (Or.inl ⟨by rfl, ?_⟩) hHeld ?_ ?_
        rotate_left
        · rintro w' ⟨s0, s1, s2, s3, s4, s5, s6, s7, s8, s9, s10, s11, s12⟩
          go_simp
          with_reducible rfl
        rotate_left
        · simp only [Act.put, List.setIfInBounds_toArray, List.set_cons_zero, List.set_cons_succ, i64_w, i32_w]
          rfl
        refine take_ (i := 7) (N := some 26) (v := ?_) (a' := ?_) #[true, true, true, true, true, true, true, true, false, false] rfl rfl (by kernel_rfl) (fun _ _ _ h => h) (Or.inl ⟨by rfl, ?_⟩) hHeld ?_ ?_
        rotate_left
        · rintro w' ⟨s0, s1, s2, s3, s4, s5, s6, s7, s8, s9, s10, s11, s12⟩
          go_simp
          with_reducible rfl
        rotate_left
        · simp only [Act.put, List.setIfInBounds_toArray, List.set_cons_zero, List.set_cons_succ, i64_w, i32_w]
          rfl
        refine one_ (i := 8) (N := some 27) #[true, true, true, true, true, true, true, true, true, false] rfl rfl (by kernel_rfl) (by decide) (fun K hK => ?_)
        refine goes_ Tryz.func21 (by kernel_rfl) rfl #[.agg #[.int .i64 (rd_T26 l j).f0, .int .i64 (rd_T26 l j).f1, .string (rd_T26 l j).f2, .slice B3 (rd_T26 l j).f3.length e3, .slice B4 (rd_T26 l j).f4.length e4, .slice B5 (rd_T26 l j).f5.length e5], .agg #[.int .i64 (rd_T26 l' j).f0, .int .i64 (rd_T26 l' j).f1, .string (rd_T26 l' j).f2, .slice D3 (rd_T26 l' j).f3.length f3, .slice D4 (rd_T26 l' j).f4.length f4, .slice D5 (rd_T26 l' j).f5.length f5]] (by rfl) rfl rfl (by simp only [List.map_toArray, List.map_cons, List.map_nil]; rfl) ?_
        with_reducible refine ((HL.out _ (HB.out.trans ((hHeld.2.2.2.2.2.2.2.2.2.2.2.2).mono HB.out.size)))).mono ?_
        rintro e w3 ⟨rfl, hb⟩
        refine ⟨_, rfl, ?_⟩
        have hbz := (hHeld.2.2.2.2.2.2.2.2.2.2.2.2).trans (hb.mono (hHeld.2.2.2.2.2.2.2.2.2.2.2.2).size)
        refine hK.out _ _ ⟨(pw_cell_below hb hHeld.1), (pw_cell_below hb hHeld.2.1), (pw_cell_below hb hHeld.2.2.1), (pw_cell_below hb hHeld.2.2.2.1), (pw_cell_below hb hHeld.2.2.2.2.1), (pw_cell_below hb hHeld.2.2.2.2.2.1), (pw_cell_below hb hHeld.2.2.2.2.2.2.1), (pw_cell_below hb hHeld.2.2.2.2.2.2.2.1), (pw_cell_below hb hHeld.2.2.2.2.2.2.2.2.1), (pw_cell_below hb hHeld.2.2.2.2.2.2.2.2.2.1), (pw_cell_below hb hHeld.2.2.2.2.2.2.2.2.2.2.1), (pw_cell_below hb hHeld.2.2.2.2.2.2.2.2.2.2.2.1), (hHeld.2.2.2.2.2.2.2.2.2.2.2.2.trans (hb.mono (hHeld.2.2.2.2.2.2.2.2.2.2.2.2).size))⟩ (fun hHeld => ?_)
        clear hK K
        refine norm_ (a' := ?_) ?_ ?_
        rotate_left
        · show Act.put _ (some 27) _ = _
          simp only [Act.put, List.setIfInBounds_toArray, List.set_cons_zero, List.set_cons_succ, i64_w, i32_w]
          rfl
        refine pure_ (i := 9) (N := some 6) (v := ?_) (a' := ?_) #[true, true, true, true, true, true, true, true, true, true] rfl rfl (by kernel_rfl) (fun _ _ _ h => h) (Or.inl ⟨by rfl, ?_⟩) ?_ ?_
        rotate_left
        · intro w'
          go_simp
          with_reducible rfl
        rotate_left
        · simp only [Act.put, List.setIfInBounds_toArray, List.set_cons_zero, List.set_cons_succ, i64_w, i32_w]
          rfl
        refine done_ (by kernel_rfl) ?_
        cases hz : (cmpV (rd_T26 l j) (rd_T26 l' j) != 0) with
        | true =>
          go_wp2_with fail
          go_ret
          refine ⟨?_, hbz⟩
          have h := cmpL_first l l' j (by have := HN.out.1; have := HLT.out.1; omega) (by have := HN.out.2; have := HLT.out.2; omega) (by simpa using hz)
          rw [← HR.out.2.1, h]
          rfl
        | false =>
          have HZ := Lib.hid (show cmpV (rd_T26 l j) (rd_T26 l' j) = 0 by simpa using hz)
          go_wp2_with fail
          go_roundg (gk - 1)
          case measure => have := HR.out.2.2; have := HLT.out.1; have := HN.out.1; omega
          case rel =>
            have hw : wrap64 ((j : Int) + 1) = ((j + 1 : Nat) : Int) := by have := HM.out.1; have := HLT.out.1; unfold wrap64; omega
            try rw [hw]
            exact ⟨j + 1, rfl, by have := HR.out.2.2; have := HLT.out.1; have := HN.out.1; omega, by have := HN.out.1; have := HLT.out.1; omega, by have := HN.out.2; have := HLT.out.2; omega, hbz, by rw [← HR.out.2.1, cmpL_zero l l' j (by have := HN.out.1; have := HLT.out.1; omega) (by have := HN.out.2; have := HLT.out.2; omega) HZ.out]⟩
      · have q1 : (j : Int) < (n : Int) := by omega
        have q2 : ¬ (j : Int) < (m : Int) := by omega
        have q3 : decide ((j : Int) < (n : Int)) = true := decide_eq_true q1
        have q4 : decide ((j : Int) < (m : Int)) = false := decide_eq_false q2
        have q5 : decide (j < n) = true := decide_eq_true hlt
        have q6 : decide (j < m) = false := decide_eq_false hlt'
        have HE := Lib.hid hlt'
        clear hbr hlt hlt' q1 q2
        go_wp2_with fail
        go_ret
        refine ⟨?_, HR.out.1⟩
        have h := cmpL_end l l' j HJ.out.1 HJ.out.2 (.inr (by have := HJ.out.2; have := HN.out.2; have := HE.out; omega))
        rw [← HR.out.2.1, h, HN.out.1, HN.out.2]
        rfl
    · have q2 : ¬ (j : Int) < (n : Int) := by omega
      have q4 : decide ((j : Int) < (n : Int)) = false := decide_eq_false q2
      have q5 : decide (j < n) = false := decide_eq_false hlt
      have HE := Lib.hid hlt
      clear hbr hlt q2
      go_wp2_with fail
      go_ret
      refine ⟨?_, HR.out.1⟩
      have h := cmpL_end l l' j HJ.out.1 HJ.out.2 (.inl (by have := HJ.out.1; have := HN.out.1; have := HE.out; omega))
      rw [← HR.out.2.1, h, HN.out.1, HN.out.2]
      rfl
end Go.Proofs.YtbnfeicpjmfooaaGreatDoor.NumA
/-
spec.Cmp at two lists, two objects, two kinds.
-/
set_option linter.unusedSimpArgs false
set_option linter.unusedVariables false
namespace Go.Proofs.YtbnfeicpjmfooaaGreatDoor.NumA
open Go.RowKit Go.Lib Go.Proofs.YtbnfeicpjmfooaaGreatDoor.ValA Go.Proofs.YtbnfeicpjmfooaaGreatDoor.FloH Go.Proofs.YtbnfeicpjmfooaaGreatDoorW.PrintWords Go.Proofs.YtbnfeicpjmfooaaGreatDoorW.PrintLast Go.Proofs.YtbnfeicpjmfooaaGreatDoorW.PrintMore Go.Proofs.YtbnfeicpjmfooaaGreatDoor.PzzFits1
set_option maxHeartbeats 4000000 in
theorem cmp_list (w0 : World) (Ha : Int) (sa : ByteArray) (A3a A4a A5a : Option Addr) (n3a c3a n4a c4a n5a c5a : Nat) (Hb : Int) (sb : ByteArray) (A3b A4b A5b : Option Addr) (n3b c3b n4b c4b n5b c5b : Nat) (z : Int) (HL : (∀ w, Below w0.heap.size w0 w → Calls Tryz.prog 55 #[.slice A3a n3a c3a, .slice A3b n3b c3b] w fun e w' => e = .returned (.int .i64 z) ∧ Below w.heap.size w w')) (w : World) (hb : Below w0.heap.size w0 w) :
    Calls Tryz.prog 21 #[.agg #[.int .i64 5, .int .i64 Ha, .string sa, .slice A3a n3a c3a, .slice A4a n4a c4a, .slice A5a n5a c5a], .agg #[.int .i64 5, .int .i64 Hb, .string sb, .slice A3b n3b c3b, .slice A4b n4b c4b, .slice A5b n5b c5b]] w fun e w' => e = .returned (.int .i64 z.sign) ∧ Below w.heap.size w w' := by
  replace HL := Lib.hid HL
  have HB := Lib.hid hb
  clear hb
  go_enter Tryz.func21, Tryz.ntmps21
  go_wp2_with fail
  obtain ⟨W0, hW0⟩ : ∃ W0, W0 = (w.alloc (.cells #[.int .i64 5, .int .i64 Ha, .string sa, .slice A3a n3a c3a, .slice A4a n4a c4a, .slice A5a n5a c5a] 26)).alloc (.cells #[.int .i64 5, .int .i64 Hb, .string sb, .slice A3b n3b c3b, .slice A4b n4b c4b, .slice A5b n5b c5b] 26) := ⟨_, rfl⟩
  have H0 := Lib.hid (show SPL w [(w.heap.size, #[.int .i64 5, .int .i64 Ha, .string sa, .slice A3a n3a c3a, .slice A4a n4a c4a, .slice A5a n5a c5a], 26), (w.heap.size + 1, #[.int .i64 5, .int .i64 Hb, .string sb, .slice A3b n3b c3b, .slice A4b n4b c4b, .slice A5b n5b c5b], 26)] W0 by rw [hW0]; exact SPL.two w _ _ _ _)
  rw [← hW0]
  clear hW0
  refine (HL.out W0 (HB.out.trans (H0.out.1.mono HB.out.size))).mono ?_
  rintro e w1 ⟨rfl, hb⟩
  have H1 := Lib.hid (H0.out.below hb)
  clear hb H0
  go_wp2_with fail
  refine (sign_any _ _).mono ?_
  rintro e w2 ⟨rfl, rfl⟩
  go_wp2_with fail
  go_ret
  exact ⟨rfl, H1.out.1⟩
set_option maxHeartbeats 4000000 in
theorem cmp_map (w0 : World) (Ha : Int) (sa : ByteArray) (A3a A4a A5a : Option Addr) (n3a c3a n4a c4a n5a c5a : Nat) (Hb : Int) (sb : ByteArray) (A3b A4b A5b : Option Addr) (n3b c3b n4b c4b n5b c5b : Nat) (c z : Int) (HK : (∀ w, Below w0.heap.size w0 w → Calls Tryz.prog 56 #[.slice A4a n4a c4a, .slice A4b n4b c4b] w fun e w' => e = .returned (.int .i64 c) ∧ Below w.heap.size w w')) (HL : (∀ w, Below w0.heap.size w0 w → Calls Tryz.prog 55 #[.slice A5a n5a c5a, .slice A5b n5b c5b] w fun e w' => e = .returned (.int .i64 z) ∧ Below w.heap.size w w')) (w : World) (hb : Below w0.heap.size w0 w) :
    Calls Tryz.prog 21 #[.agg #[.int .i64 6, .int .i64 Ha, .string sa, .slice A3a n3a c3a, .slice A4a n4a c4a, .slice A5a n5a c5a], .agg #[.int .i64 6, .int .i64 Hb, .string sb, .slice A3b n3b c3b, .slice A4b n4b c4b, .slice A5b n5b c5b]] w fun e w' => e = .returned (.int .i64 (if c = 0 then z.sign else c.sign)) ∧ Below w.heap.size w w' := by
  replace HL := Lib.hid HL
  replace HK := Lib.hid HK
  obtain ⟨rr, hrr⟩ : ∃ rr, rr = (if c = 0 then z.sign else c.sign) := ⟨_, rfl⟩
  rw [← hrr]
  have HRR := Lib.hid hrr
  clear hrr
  have HB := Lib.hid hb
  clear hb
  go_enter Tryz.func21, Tryz.ntmps21
  go_wp2_with fail
  obtain ⟨W0, hW0⟩ : ∃ W0, W0 = (w.alloc (.cells #[.int .i64 6, .int .i64 Ha, .string sa, .slice A3a n3a c3a, .slice A4a n4a c4a, .slice A5a n5a c5a] 26)).alloc (.cells #[.int .i64 6, .int .i64 Hb, .string sb, .slice A3b n3b c3b, .slice A4b n4b c4b, .slice A5b n5b c5b] 26) := ⟨_, rfl⟩
  have H0 := Lib.hid (show SPL w [(w.heap.size, #[.int .i64 6, .int .i64 Ha, .string sa, .slice A3a n3a c3a, .slice A4a n4a c4a, .slice A5a n5a c5a], 26), (w.heap.size + 1, #[.int .i64 6, .int .i64 Hb, .string sb, .slice A3b n3b c3b, .slice A4b n4b c4b, .slice A5b n5b c5b], 26)] W0 by rw [hW0]; exact SPL.two w _ _ _ _)
  rw [← hW0]
  clear hW0
  refine (HK.out W0 (HB.out.trans (H0.out.1.mono HB.out.size))).mono ?_
  rintro e w1 ⟨rfl, hb⟩
  have H1 := Lib.hid (H0.out.below hb)
  clear hb H0
  have ya := six_cells (H1.out.get 0 rfl)
  have yb := six_cells (H1.out.get 1 rfl)
  cases hz : (c != 0) with
  | true =>
    have HZ := Lib.hid (show c ≠ 0 by simpa using hz)
    go_wp2_with fail
    refine (sign_any _ _).mono ?_
    rintro e w2 ⟨rfl, rfl⟩
    go_wp2_with fail
    go_ret
    exact ⟨by rw [HRR.out, if_neg HZ.out]; rfl, H1.out.1⟩
  | false =>
    have HZ := Lib.hid (show c = 0 by simpa using hz)
    go_wp2_with fail
    refine (HL.out w1 (HB.out.trans (H1.out.1.mono HB.out.size))).mono ?_
    rintro e w2 ⟨rfl, hb⟩
    have H2 := Lib.hid (H1.out.below hb)
    clear hb H1 ya yb
    go_wp2_with fail
    refine (sign_any _ _).mono ?_
    rintro e w3 ⟨rfl, rfl⟩
    go_wp2_with fail
    go_ret
    exact ⟨by rw [HRR.out, if_pos HZ.out]; rfl, H2.out.1⟩
end Go.Proofs.YtbnfeicpjmfooaaGreatDoor.NumA
/-
spec.Cmp at any two values of JSON.
-/
set_option linter.unusedSimpArgs false
set_option linter.unusedVariables false
namespace Go.Proofs.YtbnfeicpjmfooaaGreatDoor.NumA
open Go.RowKit Go.Lib Go.Proofs.YtbnfeicpjmfooaaGreatDoor.ValA Go.Proofs.YtbnfeicpjmfooaaGreatDoor.FloH Go.Proofs.YtbnfeicpjmfooaaGreatDoorW.PrintWords Go.Proofs.YtbnfeicpjmfooaaGreatDoorW.PrintLast Go.Proofs.YtbnfeicpjmfooaaGreatDoorW.PrintMore Go.Proofs.YtbnfeicpjmfooaaGreatDoor.PzzFits1
theorem cmp_ne (k k' h h' : Int) (r r' : Rest) (hne : k ≠ k') (a1 : 0 ≤ k) (a2 : k ≤ 6) (b1 : 0 ≤ k') (b2 : k' ≤ 6) (w : World) :
    Calls Tryz.prog 21 #[vl k h r, vl k' h' r'] w fun e w' => e = .returned (.int .i64 (k - k').sign) ∧ Below w.heap.size w w' := by
  obtain ⟨s, a, l, c, a1, l1, c1, a2, l2, c2⟩ := r
  obtain ⟨s', a', l', c', a1', l1', c1', a2', l2', c2'⟩ := r'
  simp only [vl]
  have e1 : (k != k') = true := by simpa using hne
  have HW := Lib.hid (show wrap64 (k - k') = k - k' by unfold wrap64; omega)
  clear hne
  go_enter Tryz.func21, Tryz.ntmps21
  go_wp2_with fail
  refine (sign_any _ _).mono ?_
  rintro e w1 ⟨rfl, rfl⟩
  go_wp2_with fail
  go_ret
  exact ⟨by first | rfl | (rw [HW.out]; rfl), ((Below.refl _ w).alloc (Nat.le_refl _) _).alloc (by simp) _⟩
end Go.Proofs.YtbnfeicpjmfooaaGreatDoor.NumA
/-
spec.Cmp at any two values of JSON.
-/
set_option linter.unusedSimpArgs false
set_option linter.unusedVariables false
namespace Go.Proofs.YtbnfeicpjmfooaaGreatDoor.NumA
open Go.RowKit Go.Lib Go.Proofs.YtbnfeicpjmfooaaGreatDoor.ValA Go.Proofs.YtbnfeicpjmfooaaGreatDoor.FloH Go.Proofs.YtbnfeicpjmfooaaGreatDoorW.PrintWords Go.Proofs.YtbnfeicpjmfooaaGreatDoorW.PrintLast Go.Proofs.YtbnfeicpjmfooaaGreatDoorW.PrintMore Go.Proofs.YtbnfeicpjmfooaaGreatDoor.PzzFits1
theorem cmpV_eq (x y : V) : cmpV x y = if x.f0 ≠ y.f0 then (x.f0 - y.f0).sign else if x.f0 = 3 then (x.f1 - y.f1).sign else if x.f0 = 4 then tx x.f2 y.f2 else if x.f0 = 5 then (cmpL x.f3 y.f3).sign
    else if x.f0 = 6 then (if cmpK x.f4 y.f4 = 0 then (cmpL x.f5 y.f5).sign else (cmpK x.f4 y.f4).sign) else 0 := by
  cases x
  rw [cmpV]
theorem cmp_any (w0 : World) : ∀ (N : Nat) (x : V), SizeOf.sizeOf x < N → WL x → ∀ (y : V), WL y → ∀ cx cy, k26.K w0 x cx → k26.K w0 y cy → CmpOk w0 x y cx cy
  | 0, _, h, _, _, _, _, _, _, _ => absurd h (Nat.not_lt_zero _)
  | N + 1, x, hN, hx, y, hy, cx, cy, hKx, hKy => by
    obtain ⟨A3, c3, A4, c4, A5, c5, rfl, l3, g3, l4, g4, l5, g5⟩ := k26_open hKx
    obtain ⟨B3, d3, B4, d4, B5, d5, rfl, m3, k3, m4, k4, m5, k5⟩ := k26_open hKy
    obtain ⟨f0, f6, fj, f45⟩ := wf_facts hx
    obtain ⟨h0, h6, hj, h45⟩ := wf_facts hy
    obtain ⟨_, _, _, n3, n4, hk, w3, w5⟩ := hx
    obtain ⟨_, _, _, p3, p4, hk', v3, v5⟩ := hy
    have ih3 : ∀ a ∈ x.f3, ∀ b ∈ y.f3, ∀ cs cs', k26.K w0 a cs → k26.K w0 b cs' → CmpOk w0 a b cs cs' := fun a ha b hb cs cs' h h' => cmp_any w0 N a (by
      have h1 := List.sizeOf_lt_of_mem ha
      have h2 : SizeOf.sizeOf x.f3 < SizeOf.sizeOf x := by cases x; simp; omega
      omega) (w3 a ha) b (v3 b hb) cs cs' h h'
    have ih5 : ∀ a ∈ x.f5, ∀ b ∈ y.f5, ∀ cs cs', k26.K w0 a cs → k26.K w0 b cs' → CmpOk w0 a b cs cs' := fun a ha b hb cs cs' h h' => cmp_any w0 N a (by
      have h1 := List.sizeOf_lt_of_mem ha
      have h2 : SizeOf.sizeOf x.f5 < SizeOf.sizeOf x := by cases x; simp; omega
      omega) (w5 a ha) b (v5 b hb) cs cs' h h'
    intro w hb
    rw [cmpV_eq]
    have vx : ∀ k, (Value.agg (List.toArray [.int .i64 k, .int .i64 x.f1, .string x.f2, .slice A3 x.f3.length c3, .slice A4 x.f4.length c4, .slice A5 x.f5.length c5])) = vl k x.f1 ⟨x.f2, A3, x.f3.length, c3, A4, x.f4.length, c4, A5, x.f5.length, c5⟩ := fun _ => rfl
    have vy : ∀ k, (Value.agg (List.toArray [.int .i64 k, .int .i64 y.f1, .string y.f2, .slice B3 y.f3.length d3, .slice B4 y.f4.length d4, .slice B5 y.f5.length d5])) = vl k y.f1 ⟨y.f2, B3, y.f3.length, d3, B4, y.f4.length, d4, B5, y.f5.length, d5⟩ := fun _ => rfl
    by_cases e : x.f0 = y.f0
    · rw [if_neg (by simpa using e), ← e]
      have hc : x.f0 = 0 ∨ x.f0 = 1 ∨ x.f0 = 2 ∨ x.f0 = 3 ∨ x.f0 = 4 ∨ x.f0 = 5 ∨ x.f0 = 6 := by omega
      rcases hc with c | c | c | c | c | c | c <;> rw [c]
      · rw [vx, vy]; exact cmp_k0 _ _ _ _ w
      · rw [vx, vy]; exact cmp_k1 _ _ _ _ w
      · rw [vx, vy]; exact cmp_k2 _ _ _ _ w
      · rw [vx, vy]
        obtain ⟨⟨a1, a2⟩, _⟩ := fj
        obtain ⟨⟨b1, b2⟩, _⟩ := hj
        exact cmp_num _ _ _ _ w (by omega) (by omega) (by omega) (by omega)
      · rw [vx, vy]; exact cmp_k4 _ _ _ _ w
      · exact cmp_list w0 _ _ _ _ _ _ _ _ _ _ _ _ _ _ _ _ _ _ _ _ _ _ _ (fun w hb => lists_any w0 _ _ _ _ _ _ _ _ g3 k3 rfl rfl n3 p3 ih3 w hb) w hb
      · exact cmp_map w0 _ _ _ _ _ _ _ _ _ _ _ _ _ _ _ _ _ _ _ _ _ _ _ _ (fun w hb => keys_any w0 _ _ _ _ _ _ _ _ g4 k4 rfl rfl n4 p4 w hb) (fun w hb => lists_any w0 _ _ _ _ _ _ _ _ g5 k5 rfl rfl (by omega) (by omega) ih5 w hb) w hb
    · rw [if_pos e, vx, vy]
      exact cmp_ne _ _ _ _ _ _ e f0 f6 h0 h6 w
end Go.Proofs.YtbnfeicpjmfooaaGreatDoor.NumA
/-
The order of values: it turns with its sides, and it is transitive. Plain.
-/
set_option linter.unusedSimpArgs false
set_option linter.unusedVariables false
namespace Go.Proofs.YtbnfeicpjmfooaaGreatDoor.NumA
open Go.RowKit Go.Lib Go.Proofs.YtbnfeicpjmfooaaGreatDoor.ValA Go.Proofs.YtbnfeicpjmfooaaGreatDoor.FloH
/-- The signs of three comparisons fit. -/
def Chain (x y z : Int) : Prop := (x = 0 → (z < 0 ↔ y < 0) ∧ (0 < z ↔ 0 < y)) ∧ (y = 0 → (z < 0 ↔ x < 0) ∧ (0 < z ↔ 0 < x)) ∧ (x < 0 → y < 0 → z < 0) ∧ (0 < x → 0 < y → 0 < z)
theorem sg (x : Int) : (x < 0 ∧ x.sign = -1) ∨ (x = 0 ∧ x.sign = 0) ∨ (0 < x ∧ x.sign = 1) := by
  rcases Int.lt_trichotomy x 0 with h | h | h
  · exact .inl ⟨h, Int.sign_eq_neg_one_of_neg h⟩
  · exact .inr (.inl ⟨h, by rw [h]; rfl⟩)
  · exact .inr (.inr ⟨h, Int.sign_eq_one_of_pos h⟩)
theorem Chain.sign {x y z : Int} (h : Chain x y z) : Chain x.sign y.sign z.sign := by
  have a := sg x
  have b := sg y
  have c := sg z
  generalize x.sign = p at *
  generalize y.sign = q at *
  generalize z.sign = r at *
  unfold Chain at *
  omega
theorem Chain.pair {x1 y1 z1 x2 y2 z2 : Int} (h1 : Chain x1 y1 z1) (h2 : x1 = 0 → y1 = 0 → z1 = 0 → Chain x2 y2 z2) : Chain (if x1 = 0 then x2 else x1) (if y1 = 0 then y2 else y1) (if z1 = 0 then z2 else z1) := by
  unfold Chain at *
  split <;> split <;> split <;> omega
theorem Chain.zero : Chain 0 0 0 := by unfold Chain; omega
theorem Chain.sub (a b c : Int) : Chain (a - b) (b - c) (a - c) := by unfold Chain; omega
theorem tri (a b : List UInt8) : a < b ∨ a = b ∨ b < a := by
  by_cases h : a < b
  · exact .inl h
  · by_cases h' : b < a
    · exact .inr (.inr h')
    · exact .inr (.inl (List.le_antisymm (List.not_lt.1 h') (List.not_lt.1 h)))
theorem tx_lt {s t : ByteArray} (h : s.toList < t.toList) : tx s t = -1 := by
  unfold tx
  rw [if_neg (fun e => by rw [e] at h; exact List.lt_irrefl _ h), if_pos (by rw [bytesLess_eq, decide_eq_true_eq]; exact h)]
theorem tx_eq {s t : ByteArray} (h : s.toList = t.toList) : tx s t = 0 := by
  unfold tx
  rw [if_pos h]
theorem tx_gt {s t : ByteArray} (h : t.toList < s.toList) : tx s t = 1 := by
  unfold tx
  rw [if_neg (fun e => by rw [e] at h; exact List.lt_irrefl _ h), if_neg (by rw [bytesLess_eq, decide_eq_true_eq]; exact fun h' => List.lt_irrefl _ (List.lt_trans h h'))]
theorem tx_anti (s t : ByteArray) : tx s t = - tx t s := by
  rcases tri s.toList t.toList with h | h | h
  · rw [tx_lt h, tx_gt h]
  · rw [tx_eq h, tx_eq h.symm]; rfl
  · rw [tx_gt h, tx_lt h]; rfl
theorem tx_chain (a b c : ByteArray) : Chain (tx a b) (tx b c) (tx a c) := by
  rcases tri a.toList b.toList with h1 | h1 | h1 <;> rcases tri b.toList c.toList with h2 | h2 | h2
  · rw [tx_lt h1, tx_lt h2, tx_lt (List.lt_trans h1 h2)]; unfold Chain; omega
  · rw [tx_lt h1, tx_eq h2, tx_lt (h2 ▸ h1)]; unfold Chain; omega
  · rw [tx_lt h1, tx_gt h2]; unfold Chain; omega
  · rw [tx_eq h1, tx_lt h2, tx_lt (h1 ▸ h2)]; unfold Chain; omega
  · rw [tx_eq h1, tx_eq h2, tx_eq (h1.trans h2)]; unfold Chain; omega
  · rw [tx_eq h1, tx_gt h2, tx_gt (h1 ▸ h2)]; unfold Chain; omega
  · rw [tx_gt h1, tx_lt h2]; unfold Chain; omega
  · rw [tx_gt h1, tx_eq h2, tx_gt (h2 ▸ h1)]; unfold Chain; omega
  · rw [tx_gt h1, tx_gt h2, tx_gt (List.lt_trans h2 h1)]; unfold Chain; omega
/-- Two lists, element by element; the shorter one first. -/
def lexC {α : Type} (f : α → α → Int) : List α → List α → Int
  | [], l => -(l.length : Int)
  | x :: l, [] => ((x :: l).length : Int)
  | x :: l, y :: l' => if f x y = 0 then lexC f l l' else f x y
theorem cmpK_lex : ∀ l l' : List ByteArray, cmpK l l' = lexC tx l l'
  | [], l => by rw [cmpK, lexC]
  | x :: l, [] => by rw [cmpK, lexC]
  | x :: l, y :: l' => by rw [cmpK, lexC, cmpK_lex l l']
theorem cmpL_lex : ∀ l l' : List V, cmpL l l' = lexC cmpV l l'
  | [], l => by rw [cmpL, lexC]
  | x :: l, [] => by rw [cmpL, lexC]
  | x :: l, y :: l' => by rw [cmpL, lexC, cmpL_lex l l']
theorem lexC_anti {α : Type} {f : α → α → Int} : ∀ {l l' : List α}, (∀ a ∈ l, ∀ b ∈ l', f a b = - f b a) → lexC f l l' = - lexC f l' l
  | [], [], _ => by simp [lexC]
  | [], y :: l', _ => by simp [lexC]
  | x :: l, [], _ => by simp [lexC]
  | x :: l, y :: l', h => by
    have h1 := h x (List.mem_cons_self ..) y (List.mem_cons_self ..)
    have h2 := lexC_anti (f := f) (l := l) (l' := l') fun a ha b hb => h a (List.mem_cons_of_mem _ ha) b (List.mem_cons_of_mem _ hb)
    rw [lexC, lexC]
    split <;> split <;> omega
theorem lexC_chain {α : Type} {f : α → α → Int} : ∀ {l l' l'' : List α}, (∀ a ∈ l, ∀ b ∈ l', ∀ c ∈ l'', Chain (f a b) (f b c) (f a c)) → Chain (lexC f l l') (lexC f l' l'') (lexC f l l'')
  | [], [], c, _ => by simp only [lexC, List.length_nil]; unfold Chain; omega
  | [], y :: l', [], _ => by simp only [lexC, List.length_nil, List.length_cons]; unfold Chain; omega
  | [], y :: l', z :: l'', _ => by
    simp only [lexC]
    unfold Chain
    simp only [List.length_cons]
    omega
  | x :: l, [], [], _ => by simp only [lexC, List.length_cons, List.length_nil]; unfold Chain; omega
  | x :: l, [], z :: l'', _ => by
    simp only [lexC]
    unfold Chain
    simp only [List.length_cons]
    omega
  | x :: l, y :: l', [], _ => by
    simp only [lexC]
    unfold Chain
    simp only [List.length_cons]
    omega
  | x :: l, y :: l', z :: l'', h => by
    simp only [lexC]
    exact Chain.pair (h x (List.mem_cons_self ..) y (List.mem_cons_self ..) z (List.mem_cons_self ..)) fun _ _ _ =>
      lexC_chain fun a ha b hb c hc => h a (List.mem_cons_of_mem _ ha) b (List.mem_cons_of_mem _ hb) c (List.mem_cons_of_mem _ hc)
/-- Two values of one kind. -/
def inn (x y : V) : Int :=
  if x.f0 = 3 then x.f1 - y.f1 else if x.f0 = 4 then tx x.f2 y.f2 else if x.f0 = 5 then cmpL x.f3 y.f3
    else if x.f0 = 6 then (if cmpK x.f4 y.f4 = 0 then cmpL x.f5 y.f5 else cmpK x.f4 y.f4) else 0
theorem tx_sign (s t : ByteArray) : (tx s t).sign = tx s t := by
  rcases tri s.toList t.toList with h | h | h
  · rw [tx_lt h]; rfl
  · rw [tx_eq h]; rfl
  · rw [tx_gt h]; rfl
theorem cmpV_inn (x y : V) : cmpV x y = (if x.f0 - y.f0 = 0 then inn x y else x.f0 - y.f0).sign := by
  rw [cmpV_eq]
  by_cases h : x.f0 = y.f0
  · have h' : x.f0 - y.f0 = 0 := by rw [h]; exact Int.sub_self _
    rw [if_neg (by simpa using h), if_pos h']
    unfold inn
    split
    · rfl
    · split
      · rw [tx_sign]
      · split
        · rfl
        · split
          · split <;> rfl
          · rfl
  · rw [if_pos h, if_neg (by omega)]
theorem cmpV_sign (x y : V) : (cmpV x y).sign = cmpV x y := by
  rw [cmpV_inn, Int.sign_sign]
theorem size3 (x : V) : SizeOf.sizeOf x.f3 < SizeOf.sizeOf x := by cases x; simp; omega
theorem size5 (x : V) : SizeOf.sizeOf x.f5 < SizeOf.sizeOf x := by cases x; simp; omega
theorem cmpV_anti : ∀ (N : Nat) (x : V), SizeOf.sizeOf x < N → ∀ y : V, cmpV x y = - cmpV y x
  | 0, _, h, _ => absurd h (Nat.not_lt_zero _)
  | N + 1, x, hN, y => by
    have ih3 : cmpL x.f3 y.f3 = - cmpL y.f3 x.f3 := by
      rw [cmpL_lex, cmpL_lex]
      exact lexC_anti fun a ha b hb => cmpV_anti N a (by have h1 := List.sizeOf_lt_of_mem ha; have h2 := size3 x; omega) b
    have ih5 : cmpL x.f5 y.f5 = - cmpL y.f5 x.f5 := by
      rw [cmpL_lex, cmpL_lex]
      exact lexC_anti fun a ha b hb => cmpV_anti N a (by have h1 := List.sizeOf_lt_of_mem ha; have h2 := size5 x; omega) b
    have ik : cmpK x.f4 y.f4 = - cmpK y.f4 x.f4 := by
      rw [cmpK_lex, cmpK_lex]
      exact lexC_anti fun a ha b hb => tx_anti a b
    have it := tx_anti x.f2 y.f2
    rw [cmpV_inn, cmpV_inn]
    have : (if x.f0 - y.f0 = 0 then inn x y else x.f0 - y.f0) = - (if y.f0 - x.f0 = 0 then inn y x else y.f0 - x.f0) := by
      by_cases h : x.f0 = y.f0
      · rw [if_pos (by omega), if_pos (by omega)]
        unfold inn
        rw [← h]
        split
        · omega
        · split
          · exact it
          · split
            · exact ih3
            · split
              · split <;> split <;> omega
              · rfl
      · rw [if_neg (by omega), if_neg (by omega)]; omega
    rw [this, Int.sign_neg]
theorem cmpV_self (x : V) : cmpV x x = 0 := by
  have := cmpV_anti _ x (Nat.lt_succ_self _) x
  omega
theorem cmpV_chain : ∀ (N : Nat) (a : V), SizeOf.sizeOf a < N → ∀ b c : V, Chain (cmpV a b) (cmpV b c) (cmpV a c)
  | 0, _, h, _, _ => absurd h (Nat.not_lt_zero _)
  | N + 1, a, hN, b, c => by
    have ih3 : Chain (cmpL a.f3 b.f3) (cmpL b.f3 c.f3) (cmpL a.f3 c.f3) := by
      rw [cmpL_lex, cmpL_lex, cmpL_lex]
      exact lexC_chain fun x hx y _ z _ => cmpV_chain N x (by have h1 := List.sizeOf_lt_of_mem hx; have h2 := size3 a; omega) y z
    have ih5 : Chain (cmpL a.f5 b.f5) (cmpL b.f5 c.f5) (cmpL a.f5 c.f5) := by
      rw [cmpL_lex, cmpL_lex, cmpL_lex]
      exact lexC_chain fun x hx y _ z _ => cmpV_chain N x (by have h1 := List.sizeOf_lt_of_mem hx; have h2 := size5 a; omega) y z
    have ik : Chain (cmpK a.f4 b.f4) (cmpK b.f4 c.f4) (cmpK a.f4 c.f4) := by
      rw [cmpK_lex, cmpK_lex, cmpK_lex]
      exact lexC_chain fun x _ y _ z _ => tx_chain x y z
    rw [cmpV_inn, cmpV_inn, cmpV_inn]
    refine Chain.sign (Chain.pair (Chain.sub _ _ _) fun h1 h2 _ => ?_)
    unfold inn
    have e1 : b.f0 = a.f0 := by omega
    rw [e1]
    split
    · exact Chain.sub _ _ _
    · split
      · exact tx_chain _ _ _
      · split
        · exact ih3
        · split
          · exact Chain.pair ik fun _ _ _ => ih5
          · exact Chain.zero
end Go.Proofs.YtbnfeicpjmfooaaGreatDoor.NumA
