/-
Parts of the proof, one behind the other: SrtM.
-/
import Derived.Test.YtbnfeicpjmfooaaGreatDoorMY
/-
gojq's min and max of an array.
-/
set_option linter.unusedSimpArgs false
set_option linter.unusedVariables false
namespace Go.Proofs.YtbnfeicpjmfooaaGreatDoor.NumA
open Go.RowKit Go.Lib Go.Sort Go.Proofs.YtbnfeicpjmfooaaGreatDoor.ValA Go.Proofs.YtbnfeicpjmfooaaGreatDoor.FloH Go.Proofs.YtbnfeicpjmfooaaGreatDoorW.PrintWords Go.Proofs.YtbnfeicpjmfooaaGreatDoorW.PrintLast Go.Proofs.YtbnfeicpjmfooaaGreatDoorW.PrintMore Go.Proofs.YtbnfeicpjmfooaaGreatDoor.PzzFits1 Go.Proofs.YtbnfeicpjmfooaaGreatDoor.Stb
/-- Does the later element take the earlier one's place. -/
def takes (mn : Bool) (x y : V) : Bool := decide (cmpV x y > 0) == mn
/-- The place of the least, or greatest, of the first elements. -/
def mmI (mn : Bool) (l : List V) : Nat → Nat
  | 0 => 0
  | i + 1 => if takes mn (rd_T26 l (mmI mn l i : Nat)) (rd_T26 l ((i + 1 : Nat) : Int)) = true then i + 1 else mmI mn l i
theorem mmI_le (mn : Bool) (l : List V) : ∀ i, mmI mn l i ≤ i
  | 0 => Nat.le_refl _
  | i + 1 => by
    unfold mmI
    have := mmI_le mn l i
    split <;> omega
/-- No element ahead of i is beyond it. -/
theorem mmI_best (mn : Bool) (l : List V) : ∀ i t, t ≤ i → (if mn then cmpV (rd_T26 l (mmI mn l i : Nat)) (rd_T26 l (t : Nat)) ≤ 0 else 0 ≤ cmpV (rd_T26 l (mmI mn l i : Nat)) (rd_T26 l (t : Nat)))
  | 0, t, h => by
    obtain rfl : t = 0 := by omega
    show if mn then cmpV (rd_T26 l ((0 : Nat) : Int)) (rd_T26 l ((0 : Nat) : Int)) ≤ 0 else 0 ≤ cmpV (rd_T26 l ((0 : Nat) : Int)) (rd_T26 l ((0 : Nat) : Int))
    rw [cmpV_self]
    split <;> omega
  | i + 1, t, h => by
    have ih := mmI_best mn l i
    unfold mmI
    generalize hx : rd_T26 l (mmI mn l i : Nat) = x at ih ⊢
    generalize hy : rd_T26 l ((i + 1 : Nat) : Int) = y at ih ⊢
    have h2 := cmpV_anti _ x (Nat.lt_succ_self _) y
    by_cases c : takes mn x y = true
    · rw [if_pos c, hy]
      by_cases e : t = i + 1
      · subst e
        rw [hy, cmpV_self]
        split <;> omega
      · have h1 := ih t (by omega)
        have h3 := cmpV_chain _ y (Nat.lt_succ_self _) x (rd_T26 l (t : Nat))
        unfold Chain at h3
        unfold takes at c
        rw [beq_iff_eq] at c
        cases mn with
        | true =>
          have := of_decide_eq_true c
          rw [if_pos rfl] at h1 ⊢
          omega
        | false =>
          have := of_decide_eq_false c
          rw [if_neg (by simp)] at h1 ⊢
          omega
    · rw [if_neg c, hx]
      by_cases e : t = i + 1
      · subst e
        rw [hy]
        unfold takes at c
        rw [Bool.not_eq_true, beq_eq_false_iff_ne] at c
        cases mn with
        | true =>
          have := of_decide_eq_false (Bool.eq_false_iff.2 c)
          rw [if_pos rfl]
          omega
        | false =>
          have : decide (cmpV x y > 0) = true := by cases h : decide (cmpV x y > 0) with | true => rfl | false => exact absurd h c
          have := of_decide_eq_true this
          rw [if_neg (by simp)]
          omega
      · exact ih t (by omega)
def mmV (mn : Bool) (l : List V) : V := if l = [] then nullV else rd_T26 l (mmI mn l (l.length - 1) : Nat)
/-- The loop. -/
def RMm (w : World) (n : Nat) (mn : Bool) (l : List V) (xs : List Value) (k : Nat) (i j x : Value) (wr : World) : Prop := ∃ c : Nat, i = .int .i64 c ∧ 1 ≤ c ∧ k + c = n ∧ j = .int .i64 (mmI mn l (c - 1) : Nat) ∧ xs[mmI mn l (c - 1)]? = some x ∧ Below w.heap.size w wr
set_option maxRecDepth 100000 in
set_option maxHeartbeats 4000000 in
theorem min_max (w : World) (b n m : Nat) (mn : Bool) (xs : List Value) (l : List V) (hn : n ≤ 1000000) (h0 : 0 < n) (hxs : xs.length = n) (hl : l.length = n) (hb : w.heap[b]? = some (.cells xs.toArray 20 (0, 0))) (hw : ∀ y ∈ l, WL y ∧ Sz y) (hG : ∀ (j : Nat) (v : Value), xs[j]? = some v → G m w (rd_T26 l j) v) :
    Calls Tryz.prog 119 #[.slice (some ⟨b, 0, none⟩) n n, .slice (some ⟨b, 0, none⟩) n n, .bool mn] w fun e w' => ∃ v, e = .returned v ∧ xs[mmI mn l (n - 1)]? = some v ∧ Below w.heap.size w w' := by
  have HC : Hid (∀ (a c : Nat) (u v : Value) (w' : World), xs[a]? = some u → xs[c]? = some v → Below w.heap.size w w' → Calls Tryz.prog 163 #[u, v] w' (Gz (cmpV (rd_T26 l a) (rd_T26 l c)) w')) := Lib.hid (fun a c u v w' hu hv hb' => by
    have ha := (List.getElem?_eq_some_iff.1 hu).1
    have hc := (List.getElem?_eq_some_iff.1 hv).1
    have h1 := hw _ (rd_mem l a (by omega))
    have h2 := hw _ (rd_mem l c (by omega))
    exact compare_any _ _ (Nat.lt_succ_self _) h1.1 h1.2 _ h2.1 h2.2 _ _ m m w' ((hG a u hu).keepB hb') ((hG c v hv).keepB hb'))
  have HX : Hid (∀ (a : Nat) (wr : World), a < n → Below w.heap.size w wr → ∃ v, xs[a]? = some v ∧ wr.cell? ⟨b, a, none⟩ = some v ∧ (v = .nilIface ∨ ∃ t u, v = .iface t u)) := Lib.hid (fun a wr ha hbr => by
    have h := list_cell ((hbr.block _ (ValA.lt_of_heap hb)).trans hb) (by omega : a < xs.length)
    exact ⟨_, List.getElem?_eq_getElem (by omega), h.1, (hG a _ (List.getElem?_eq_getElem (by omega))).shape⟩)
  obtain ⟨v0, hv0, x0, hs0⟩ := HX.out 0 w h0 (Below.refl _ _)
  have hn0 : ((n : Int) == 0) = false := by rw [Bool.eq_false_iff]; intro h; rw [beq_iff_eq] at h; omega
  have hn1 : (0 : Int) < (n : Int) := by omega
  have hn2 : 0 < n := h0
  have HV0 := Lib.hid hv0
  have HN := Lib.hid (And.intro hn h0)
  clear hn h0 hxs hl hb hw hG hv0
  cases mn
  · go_enter Tryz.func119, Tryz.ntmps119
    go_wp2_with fail
    refine start_ (n := 6) (S := fun w' => w'.cell? ⟨b, 0, none⟩ = some (v0)) (ds := []) #[false, false, false, false, false, false] (by kernel_rfl) rfl rfl (x0) (fun hHeld => ?_)
    refine pure_ (i := 0) (N := some 13) (v := ?_) (a' := ?_) #[true, false, false, false, false, false] rfl rfl (by kernel_rfl) (fun _ _ _ h => h) (Or.inl ⟨by rfl, ?_⟩) ?_ ?_
    rotate_left
    · intro w'
      go_simp
      with_reducible rfl
    rotate_left
    · simp only [Act.put, List.setIfInBounds_toArray, List.set_cons_zero, List.set_cons_succ, i64_w, i32_w]
      rfl
    refine pure_ (i := 1) (N := some 14) (v := ?_) (a' := ?_) #[true, true, false, false, false, false] rfl rfl (by kernel_rfl) (fun _ _ _ h => h) (Or.inl ⟨by rfl, ?_⟩) ?_ ?_
    rotate_left
    · intro w'
      go_simp
      with_reducible rfl
    rotate_left
    · simp only [Act.put, List.setIfInBounds_toArray, List.set_cons_zero, List.set_cons_succ, i64_w, i32_w]
      rfl
    refine pure_ (i := 3) (N := some 7) (v := ?_) (a' := ?_) #[true, true, false, true, false, false] rfl rfl (by kernel_rfl) (fun _ _ _ h => h) (Or.inl ⟨by rfl, ?_⟩) ?_ ?_
    rotate_left
    · intro w'
      go_simp
      with_reducible rfl
    rotate_left
    · simp only [Act.put, List.setIfInBounds_toArray, List.set_cons_zero, List.set_cons_succ, i64_w, i32_w]
      rfl
    refine pure_ (i := 4) (N := some 8) (v := ?_) (a' := ?_) #[true, true, false, true, true, false] rfl rfl (by kernel_rfl) (fun _ _ _ h => h) (Or.inl ⟨by rfl, ?_⟩) ?_ ?_
    rotate_left
    · intro w'
      go_simp
      with_reducible rfl
    rotate_left
    · simp only [Act.put, List.setIfInBounds_toArray, List.set_cons_zero, List.set_cons_succ, i64_w, i32_w]
      rfl
    refine take_ (i := 2) (N := some 15) (v := ?_) (a' := ?_) #[true, true, true, true, true, false] rfl rfl (by kernel_rfl) (fun _ _ _ h => h) (Or.inl ⟨by rfl, ?_⟩) hHeld ?_ ?_
    rotate_left
    · intro w' s0
      go_simp
      with_reducible rfl
    rotate_left
    · simp only [Act.put, List.setIfInBounds_toArray, List.set_cons_zero, List.set_cons_succ, i64_w, i32_w]
      rfl
    refine pure_ (i := 5) (N := some 9) (v := ?_) (a' := ?_) #[true, true, true, true, true, true] rfl rfl (by kernel_rfl) (fun _ _ _ h => h) (Or.inl ⟨by rfl, ?_⟩) ?_ ?_
    rotate_left
    · intro w'
      go_simp
      with_reducible rfl
    rotate_left
    · simp only [Act.put, List.setIfInBounds_toArray, List.set_cons_zero, List.set_cons_succ, i64_w, i32_w]
      rfl
    refine done_ (by kernel_rfl) ?_
    go_wp2_with fail
    go_loopg [7, 8, 9] (n - 1) (fun k i j x wr => RMm w n false l xs k i j x wr)
    case atStart => exact ⟨1, rfl, Nat.le_refl _, by have := HN.out.2; omega, rfl, HV0.out, pw_below_drewN (Below.refl _ _) 1⟩
    case round =>
      obtain ⟨c, rfl, hc1, hkc, rfl, hxa, hbr⟩ := hrel
      obtain ⟨j, hj⟩ : ∃ j, j = mmI false l (c - 1) := ⟨_, rfl⟩
      rw [← hj] at hxa ⊢
      have HK := Lib.hid (And.intro hc1 (And.intro hkc (And.intro hj (And.intro hxa hbr))))
      by_cases hlt : c < n
      · obtain ⟨v, hv, y0, hs⟩ := HX.out c wr hlt hbr
        obtain ⟨z, hz⟩ : ∃ z, z = cmpV (rd_T26 l j) (rd_T26 l c) := ⟨_, rfl⟩
        have hc2 := HC.out j c _ v wr hxa hv hbr
        rw [← hz] at hc2
        have HC2 := Lib.hid hc2
        have HZ := Lib.hid hz
        have hlt2 : (c : Int) < (n : Int) := by omega
        have hc0 : (0 : Int) ≤ (c : Int) := by omega
        have HLT := Lib.hid (And.intro hlt hv)
        have HST : Hid (mmI false l c = if takes false (rd_T26 l j) (rd_T26 l c) = true then c else j) := Lib.hid (by
          obtain ⟨a, rfl⟩ : ∃ a, c = a + 1 := ⟨c - 1, by omega⟩
          rw [hj]
          rfl)
        clear hc1 hkc hj hxa hbr hlt hv hz hc2
        by_cases hp : 0 < z
        · have hp1 : decide (z > 0) = true := decide_eq_true hp
          have hp2 : decide (0 < z) = true := decide_eq_true hp
          have HTK : Hid (takes false (rd_T26 l j) (rd_T26 l c) = false) := Lib.hid (by unfold takes; rw [← HZ.out, hp1]; rfl)
          clear hp
          go_wp2_with fail
          refine HC2.out.mono ?_
          rintro e w1 ⟨rfl, hb1⟩
          have y1 := pw_cell_below hb1 y0
          have HB1 := Lib.hid (HK.out.2.2.2.2.trans (hb1.mono HK.out.2.2.2.2.size))
          clear hb1 y0
          go_wp2_with fail
          go_roundg (gk - 1)
          case measure => have := HK.out.2.1; have := HLT.out.1; omega
          case rel =>
            have hw : wrap64 ((c : Int) + 1) = ((c + 1 : Nat) : Int) := by have := HN.out.1; have := HLT.out.1; unfold wrap64; omega
            rw [hw]
            refine ⟨c + 1, rfl, by omega, by have := HK.out.2.1; have := HLT.out.1; omega, ?_, ?_, HB1.out⟩
            · rw [Nat.add_sub_cancel, HST.out, HTK.out]; rfl
            · rw [Nat.add_sub_cancel, HST.out, HTK.out]; exact HK.out.2.2.2.1
        · have hp1 : decide (z > 0) = false := decide_eq_false hp
          have hp2 : decide (0 < z) = false := decide_eq_false hp
          have HTK : Hid (takes false (rd_T26 l j) (rd_T26 l c) = true) := Lib.hid (by unfold takes; rw [← HZ.out, hp1]; rfl)
          clear hp
          go_wp2_with fail
          refine HC2.out.mono ?_
          rintro e w1 ⟨rfl, hb1⟩
          have y1 := pw_cell_below hb1 y0
          have HB1 := Lib.hid (HK.out.2.2.2.2.trans (hb1.mono HK.out.2.2.2.2.size))
          clear hb1 y0
          go_wp2_with fail
          refine start_ (n := 7) (S := fun w' => w'.cell? ⟨b, c, none⟩ = some (v)) (ds := []) #[false, false, false, false, false, false, false] (by kernel_rfl) rfl rfl (y1) (fun hHeld => ?_)
          refine pure_ (i := 0) (N := some 33) (v := ?_) (a' := ?_) #[true, false, false, false, false, false, false] rfl rfl (by kernel_rfl) (fun _ _ _ h => h) (Or.inl ⟨by rfl, ?_⟩) ?_ ?_
          rotate_left
          · intro w'
            go_simp
            with_reducible rfl
          rotate_left
          · simp only [Act.put, List.setIfInBounds_toArray, List.set_cons_zero, List.set_cons_succ, i64_w, i32_w]
            rfl
          refine pure_ (i := 1) (N := some 34) (v := ?_) (a' := ?_) #[true, true, false, false, false, false, false] rfl rfl (by kernel_rfl) (fun _ _ _ h => h) (Or.inl ⟨by rfl, ?_⟩) ?_ ?_
          rotate_left
          · intro w'
            go_simp
            with_reducible rfl
          rotate_left
          · simp only [Act.put, List.setIfInBounds_toArray, List.set_cons_zero, List.set_cons_succ, i64_w, i32_w]
            rfl
          refine pure_ (i := 2) (N := some 35) (v := ?_) (a' := ?_) #[true, true, true, false, false, false, false] rfl rfl (by kernel_rfl) (fun _ _ _ h => h) (Or.inl ⟨by rfl, ?_⟩) ?_ ?_
          rotate_left
          · intro w'
            go_simp
            with_reducible rfl
          rotate_left
          · simp only [Act.put, List.setIfInBounds_toArray, List.set_cons_zero, List.set_cons_succ, i64_w, i32_w]
            rfl
          refine pure_ (i := 3) (N := some 36) (v := ?_) (a' := ?_) #[true, true, true, true, false, false, false] rfl rfl (by kernel_rfl) (fun _ _ _ h => h) (Or.inl ⟨by rfl, ?_⟩) ?_ ?_
          rotate_left
          · intro w'
            go_simp
            with_reducible rfl
          rotate_left
          · simp only [Act.put, List.setIfInBounds_toArray, List.set_cons_zero, List.set_cons_succ, i64_w, i32_w]
            rfl
          refine pure_ (i := 5) (N := some 8) (v := ?_) (a' := ?_) #[true, true, true, true, false, true, false] rfl rfl (by kernel_rfl) (fun _ _ _ h => h) (Or.inl ⟨by rfl, ?_⟩) ?_ ?_
          rotate_left
          · intro w'
            go_simp
            with_reducible rfl
          rotate_left
          · simp only [Act.put, List.setIfInBounds_toArray, List.set_cons_zero, List.set_cons_succ, i64_w, i32_w]
            rfl
          refine take_ (i := 4) (N := some 37) (v := ?_) (a' := ?_) #[true, true, true, true, true, true, false] rfl rfl (by kernel_rfl) (fun _ _ _ h => h) (Or.inl ⟨by rfl, ?_⟩) hHeld ?_ ?_
          rotate_left
          · intro w' s0
            go_simp
            with_reducible rfl
          rotate_left
          · simp only [Act.put, List.setIfInBounds_toArray, List.set_cons_zero, List.set_cons_succ, i64_w, i32_w]
            rfl
          refine pure_ (i := 6) (N := some 9) (v := ?_) (a' := ?_) #[true, true, true, true, true, true, true] rfl rfl (by kernel_rfl) (fun _ _ _ h => h) (Or.inl ⟨by rfl, ?_⟩) ?_ ?_
          rotate_left
          · intro w'
            go_simp
            with_reducible rfl
          rotate_left
          · simp only [Act.put, List.setIfInBounds_toArray, List.set_cons_zero, List.set_cons_succ, i64_w, i32_w]
            rfl
          refine done_ (by kernel_rfl) ?_
          go_wp2_with fail
          go_roundg (gk - 1)
          case measure => have := HK.out.2.1; have := HLT.out.1; omega
          case rel =>
            have hw : wrap64 ((c : Int) + 1) = ((c + 1 : Nat) : Int) := by have := HN.out.1; have := HLT.out.1; unfold wrap64; omega
            rw [hw]
            refine ⟨c + 1, rfl, by omega, by have := HK.out.2.1; have := HLT.out.1; omega, ?_, ?_, pw_below_drewN HB1.out 1⟩
            · rw [Nat.add_sub_cancel, HST.out, HTK.out]; rfl
            · rw [Nat.add_sub_cancel, HST.out, HTK.out]; exact HLT.out.2
      · have hcn : c = n := by have := HK.out.2.1; omega
        subst hcn
        obtain ⟨v, hv, y0, hs⟩ := HX.out j wr (by have h1 := mmI_le false l (c - 1); omega) hbr
        have hlt2 : ¬ (c : Int) < (c : Int) := by omega
        have hlt3 : decide ((c : Int) < (c : Int)) = false := decide_eq_false hlt2
        have hlt4 : decide (c < c) = false := decide_eq_false hlt
        have hjn : (j : Int) < (c : Int) := by have h1 := mmI_le false l (c - 1); omega
        have hj0 : (0 : Int) ≤ (j : Int) := by omega
        have HV := Lib.hid hv
        clear hc1 hkc hj hxa hbr hlt hlt2 hv
        go_wp2_with fail
        go_ret
        exact ⟨_, rfl, by rw [← HK.out.2.2.1]; exact HV.out, HK.out.2.2.2.2⟩
  · go_enter Tryz.func119, Tryz.ntmps119
    go_wp2_with fail
    refine start_ (n := 6) (S := fun w' => w'.cell? ⟨b, 0, none⟩ = some (v0)) (ds := []) #[false, false, false, false, false, false] (by kernel_rfl) rfl rfl (x0) (fun hHeld => ?_)
    refine pure_ (i := 0) (N := some 13) (v := ?_) (a' := ?_) #[true, false, false, false, false, false] rfl rfl (by kernel_rfl) (fun _ _ _ h => h) (Or.inl ⟨by rfl, ?_⟩) ?_ ?_
    rotate_left
    · intro w'
      go_simp
      with_reducible rfl
    rotate_left
    · simp only [Act.put, List.setIfInBounds_toArray, List.set_cons_zero, List.set_cons_succ, i64_w, i32_w]
      rfl
    refine pure_ (i := 1) (N := some 14) (v := ?_) (a' := ?_) #[true, true, false, false, false, false] rfl rfl (by kernel_rfl) (fun _ _ _ h => h) (Or.inl ⟨by rfl, ?_⟩) ?_ ?_
    rotate_left
    · intro w'
      go_simp
      with_reducible rfl
    rotate_left
    · simp only [Act.put, List.setIfInBounds_toArray, List.set_cons_zero, List.set_cons_succ, i64_w, i32_w]
      rfl
    refine pure_ (i := 3) (N := some 7) (v := ?_) (a' := ?_) #[true, true, false, true, false, false] rfl rfl (by kernel_rfl) (fun _ _ _ h => h) (Or.inl ⟨by rfl, ?_⟩) ?_ ?_
    rotate_left
    · intro w'
      go_simp
      with_reducible rfl
    rotate_left
    · simp only [Act.put, List.setIfInBounds_toArray, List.set_cons_zero, List.set_cons_succ, i64_w, i32_w]
      rfl
    refine pure_ (i := 4) (N := some 8) (v := ?_) (a' := ?_) #[true, true, false, true, true, false] rfl rfl (by kernel_rfl) (fun _ _ _ h => h) (Or.inl ⟨by rfl, ?_⟩) ?_ ?_
    rotate_left
    · intro w'
      go_simp
      with_reducible rfl
    rotate_left
    · simp only [Act.put, List.setIfInBounds_toArray, List.set_cons_zero, List.set_cons_succ, i64_w, i32_w]
      rfl
    refine take_ (i := 2) (N := some 15) (v := ?_) (a' := ?_) #[true, true, true, true, true, false] rfl rfl (by kernel_rfl) (fun _ _ _ h => h) (Or.inl ⟨by rfl, ?_⟩) hHeld ?_ ?_
    rotate_left
    · intro w' s0
      go_simp
      with_reducible rfl
    rotate_left
    · simp only [Act.put, List.setIfInBounds_toArray, List.set_cons_zero, List.set_cons_succ, i64_w, i32_w]
      rfl
    refine pure_ (i := 5) (N := some 9) (v := ?_) (a' := ?_) #[true, true, true, true, true, true] rfl rfl (by kernel_rfl) (fun _ _ _ h => h) (Or.inl ⟨by rfl, ?_⟩) ?_ ?_
    rotate_left
    · intro w'
      go_simp
      with_reducible rfl
    rotate_left
    · simp only [Act.put, List.setIfInBounds_toArray, List.set_cons_zero, List.set_cons_succ, i64_w, i32_w]
      rfl
    refine done_ (by kernel_rfl) ?_
    go_wp2_with fail
    go_loopg [7, 8, 9] (n - 1) (fun k i j x wr => RMm w n true l xs k i j x wr)
    case atStart => exact ⟨1, rfl, Nat.le_refl _, by have := HN.out.2; omega, rfl, HV0.out, pw_below_drewN (Below.refl _ _) 1⟩
    case round =>
      obtain ⟨c, rfl, hc1, hkc, rfl, hxa, hbr⟩ := hrel
      obtain ⟨j, hj⟩ : ∃ j, j = mmI true l (c - 1) := ⟨_, rfl⟩
      rw [← hj] at hxa ⊢
      have HK := Lib.hid (And.intro hc1 (And.intro hkc (And.intro hj (And.intro hxa hbr))))
      by_cases hlt : c < n
      · obtain ⟨v, hv, y0, hs⟩ := HX.out c wr hlt hbr
        obtain ⟨z, hz⟩ : ∃ z, z = cmpV (rd_T26 l j) (rd_T26 l c) := ⟨_, rfl⟩
        have hc2 := HC.out j c _ v wr hxa hv hbr
        rw [← hz] at hc2
        have HC2 := Lib.hid hc2
        have HZ := Lib.hid hz
        have hlt2 : (c : Int) < (n : Int) := by omega
        have hc0 : (0 : Int) ≤ (c : Int) := by omega
        have HLT := Lib.hid (And.intro hlt hv)
        have HST : Hid (mmI true l c = if takes true (rd_T26 l j) (rd_T26 l c) = true then c else j) := Lib.hid (by
          obtain ⟨a, rfl⟩ : ∃ a, c = a + 1 := ⟨c - 1, by omega⟩
          rw [hj]
          rfl)
        clear hc1 hkc hj hxa hbr hlt hv hz hc2
        by_cases hp : 0 < z
        · have hp1 : decide (z > 0) = true := decide_eq_true hp
          have hp2 : decide (0 < z) = true := decide_eq_true hp
          have HTK : Hid (takes true (rd_T26 l j) (rd_T26 l c) = true) := Lib.hid (by unfold takes; rw [← HZ.out, hp1]; rfl)
          clear hp
          go_wp2_with fail
          refine HC2.out.mono ?_
          rintro e w1 ⟨rfl, hb1⟩
          have y1 := pw_cell_below hb1 y0
          have HB1 := Lib.hid (HK.out.2.2.2.2.trans (hb1.mono HK.out.2.2.2.2.size))
          clear hb1 y0
          go_wp2_with fail
          refine start_ (n := 7) (S := fun w' => w'.cell? ⟨b, c, none⟩ = some (v)) (ds := []) #[false, false, false, false, false, false, false] (by kernel_rfl) rfl rfl (y1) (fun hHeld => ?_)
          refine pure_ (i := 0) (N := some 33) (v := ?_) (a' := ?_) #[true, false, false, false, false, false, false] rfl rfl (by kernel_rfl) (fun _ _ _ h => h) (Or.inl ⟨by rfl, ?_⟩) ?_ ?_
          rotate_left
          · intro w'
            go_simp
            with_reducible rfl
          rotate_left
          · simp only [Act.put, List.setIfInBounds_toArray, List.set_cons_zero, List.set_cons_succ, i64_w, i32_w]
            rfl
          refine pure_ (i := 1) (N := some 34) (v := ?_) (a' := ?_) #[true, true, false, false, false, false, false] rfl rfl (by kernel_rfl) (fun _ _ _ h => h) (Or.inl ⟨by rfl, ?_⟩) ?_ ?_
          rotate_left
          · intro w'
            go_simp
            with_reducible rfl
          rotate_left
          · simp only [Act.put, List.setIfInBounds_toArray, List.set_cons_zero, List.set_cons_succ, i64_w, i32_w]
            rfl
          refine pure_ (i := 2) (N := some 35) (v := ?_) (a' := ?_) #[true, true, true, false, false, false, false] rfl rfl (by kernel_rfl) (fun _ _ _ h => h) (Or.inl ⟨by rfl, ?_⟩) ?_ ?_
          rotate_left
          · intro w'
            go_simp
            with_reducible rfl
          rotate_left
          · simp only [Act.put, List.setIfInBounds_toArray, List.set_cons_zero, List.set_cons_succ, i64_w, i32_w]
            rfl
          refine pure_ (i := 3) (N := some 36) (v := ?_) (a' := ?_) #[true, true, true, true, false, false, false] rfl rfl (by kernel_rfl) (fun _ _ _ h => h) (Or.inl ⟨by rfl, ?_⟩) ?_ ?_
          rotate_left
          · intro w'
            go_simp
            with_reducible rfl
          rotate_left
          · simp only [Act.put, List.setIfInBounds_toArray, List.set_cons_zero, List.set_cons_succ, i64_w, i32_w]
            rfl
          refine pure_ (i := 5) (N := some 8) (v := ?_) (a' := ?_) #[true, true, true, true, false, true, false] rfl rfl (by kernel_rfl) (fun _ _ _ h => h) (Or.inl ⟨by rfl, ?_⟩) ?_ ?_
          rotate_left
          · intro w'
            go_simp
            with_reducible rfl
          rotate_left
          · simp only [Act.put, List.setIfInBounds_toArray, List.set_cons_zero, List.set_cons_succ, i64_w, i32_w]
            rfl
          refine take_ (i := 4) (N := some 37) (v := ?_) (a' := ?_) #[true, true, true, true, true, true, false] rfl rfl (by kernel_rfl) (fun _ _ _ h => h) (Or.inl ⟨by rfl, ?_⟩) hHeld ?_ ?_
          rotate_left
          · intro w' s0
            go_simp
            with_reducible rfl
          rotate_left
          · simp only [Act.put, List.setIfInBounds_toArray, List.set_cons_zero, List.set_cons_succ, i64_w, i32_w]
            rfl
          refine pure_ (i := 6) (N := some 9) (v := ?_) (a' := ?_) #[true, true, true, true, true, true, true] rfl rfl (by kernel_rfl) (fun _ _ _ h => h) (Or.inl ⟨by rfl, ?_⟩) ?_ ?_
          rotate_left
          · intro w'
            go_simp
            with_reducible rfl
          rotate_left
          · simp only [Act.put, List.setIfInBounds_toArray, List.set_cons_zero, List.set_cons_succ, i64_w, i32_w]
            rfl
          refine done_ (by kernel_rfl) ?_
          go_wp2_with fail
          go_roundg (gk - 1)
          case measure => have := HK.out.2.1; have := HLT.out.1; omega
          case rel =>
            have hw : wrap64 ((c : Int) + 1) = ((c + 1 : Nat) : Int) := by have := HN.out.1; have := HLT.out.1; unfold wrap64; omega
            rw [hw]
            refine ⟨c + 1, rfl, by omega, by have := HK.out.2.1; have := HLT.out.1; omega, ?_, ?_, pw_below_drewN HB1.out 1⟩
            · rw [Nat.add_sub_cancel, HST.out, HTK.out]; rfl
            · rw [Nat.add_sub_cancel, HST.out, HTK.out]; exact HLT.out.2
        · have hp1 : decide (z > 0) = false := decide_eq_false hp
          have hp2 : decide (0 < z) = false := decide_eq_false hp
          have HTK : Hid (takes true (rd_T26 l j) (rd_T26 l c) = false) := Lib.hid (by unfold takes; rw [← HZ.out, hp1]; rfl)
          clear hp
          go_wp2_with fail
          refine HC2.out.mono ?_
          rintro e w1 ⟨rfl, hb1⟩
          have y1 := pw_cell_below hb1 y0
          have HB1 := Lib.hid (HK.out.2.2.2.2.trans (hb1.mono HK.out.2.2.2.2.size))
          clear hb1 y0
          go_wp2_with fail
          go_roundg (gk - 1)
          case measure => have := HK.out.2.1; have := HLT.out.1; omega
          case rel =>
            have hw : wrap64 ((c : Int) + 1) = ((c + 1 : Nat) : Int) := by have := HN.out.1; have := HLT.out.1; unfold wrap64; omega
            rw [hw]
            refine ⟨c + 1, rfl, by omega, by have := HK.out.2.1; have := HLT.out.1; omega, ?_, ?_, HB1.out⟩
            · rw [Nat.add_sub_cancel, HST.out, HTK.out]; rfl
            · rw [Nat.add_sub_cancel, HST.out, HTK.out]; exact HK.out.2.2.2.1
      · have hcn : c = n := by have := HK.out.2.1; omega
        subst hcn
        obtain ⟨v, hv, y0, hs⟩ := HX.out j wr (by have h1 := mmI_le true l (c - 1); omega) hbr
        have hlt2 : ¬ (c : Int) < (c : Int) := by omega
        have hlt3 : decide ((c : Int) < (c : Int)) = false := decide_eq_false hlt2
        have hlt4 : decide (c < c) = false := decide_eq_false hlt
        have hjn : (j : Int) < (c : Int) := by have h1 := mmI_le true l (c - 1); omega
        have hj0 : (0 : Int) ≤ (j : Int) := by omega
        have HV := Lib.hid hv
        clear hc1 hkc hj hxa hbr hlt hlt2 hv
        go_wp2_with fail
        go_ret
        exact ⟨_, rfl, by rw [← HK.out.2.2.1]; exact HV.out, HK.out.2.2.2.2⟩
/-- min and max of an array. -/
theorem G_nullM (n : Nat) (w : World) : G n w nullV .nilIface := .flat nullV (by show (0 : Int) ≤ 4; omega)
theorem wl_nullM : WL nullV := .mk _ (by simp [nullV, c1B]) (show c2B 0 = true by decide) (by simp [nullV]) (by simp [nullV]) (fun i _ h => by simp [nullV] at h) (fun y hy => by cases hy) (fun y hy => by cases hy)
theorem sz_nullM : Sz nullV := .mk _ (show (0 : Nat) ≤ 9223372036854775807 by omega) (fun s hs => by cases hs) (fun y hy => by cases hy) (fun y hy => by cases hy)
theorem mm_mem {mn : Bool} {l : List V} (h : l ≠ []) : mmV mn l ∈ l := by
  unfold mmV
  rw [if_neg h]
  have h0 := List.length_pos_iff.2 h
  exact rd_mem l _ (by have := mmI_le mn l (l.length - 1); omega)
theorem minmax_at {w : World} {x : V} {n : Nat} (mn : Bool) (hx : WL x) (zx : Sz x) (b : Nat) (l : List Value) (hl : l.length = x.f3.length) (hw : w.heap[b]? = some (.cells l.toArray 20 (0, 0))) (he : ∀ (i : Nat) (y : V) (v : Value), x.f3[i]? = some y → l[i]? = some v → G n w y v) :
    Calls Tryz.prog 119 #[.slice (some ⟨b, 0, none⟩) x.f3.length x.f3.length, .slice (some ⟨b, 0, none⟩) x.f3.length x.f3.length, .bool mn] w (ShowsIs (mmV mn x.f3) w) := by
  have hlen : x.f3.length ≤ 1000000 := by cases hx; assumption
  have hm : ∀ y ∈ x.f3, WL y ∧ Sz y := fun y hy => ⟨hx.h3 y hy, sz_h3 zx y hy⟩
  by_cases h0 : x.f3 = []
  · have e : mmV mn x.f3 = nullV := by unfold mmV; rw [if_pos h0]
    rw [e, h0]
    have HS : Hid (∀ w', Shows nullV .nilIface w') := Lib.hid (fun w' => (G_nullM 0 w').shows wl_nullM sz_nullM)
    clear he hl hw hm e h0 hlen
    go_enter Tryz.func119, Tryz.ntmps119
    go_wp2_with fail
    go_ret
    exact ⟨_, rfl, HS.out _, Below.refl _ _⟩
  · have h1 := List.length_pos_iff.2 h0
    refine (min_max w b x.f3.length n mn l x.f3 hlen h1 hl rfl hw hm fun j v hv => he j _ v (rd_at x.f3 j (by have := (List.getElem?_eq_some_iff.1 hv).1; omega)) hv).mono ?_
    rintro e w' ⟨v, rfl, hv, hb⟩
    have hi : mmI mn x.f3 (x.f3.length - 1) < x.f3.length := by have := mmI_le mn x.f3 (x.f3.length - 1); omega
    have e : mmV mn x.f3 = rd_T26 x.f3 (mmI mn x.f3 (x.f3.length - 1) : Nat) := by unfold mmV; rw [if_neg h0]
    have hmm := hm _ (rd_mem x.f3 _ hi)
    rw [e]
    exact ⟨v, rfl, ((he _ _ v (rd_at x.f3 _ hi) hv).keepB hb).shows hmm.1 hmm.2, hb⟩
set_option maxHeartbeats 4000000 in
theorem zz_Min {w : World} {x : V} {g : Value} {n : Nat} (h5 : x.f0 = 5) (hx : WL x) (zx : Sz x) (hG : G n w x g) : Calls Tryz.prog 58 #[g] w (ShowsIs (mmV true x.f3) w) := by
  obtain ⟨b, l, rfl, _, hl, hw, he⟩ := hG.list_inv h5
  have HC := Lib.hid (minmax_at (n := n) true hx zx b l hl hw he)
  have gL := fun w => qL (.slice (some ⟨b, 0, none⟩) x.f3.length x.f3.length) w
  clear hl hw he hG
  have HF : Hid (Calls Tryz.prog 91 #[.iface 81 (.slice (some ⟨b, 0, none⟩) x.f3.length x.f3.length)] w (ShowsIs (mmV true x.f3) w)) := Lib.hid (by
    go_enter Tryz.func91, Tryz.ntmps91
    go_wp2_with fail
    refine HC.out.mono ?_
    rintro e w1 ⟨r, rfl, h⟩
    go_wp2_with fail
    go_ret
    exact ⟨_, rfl, h⟩)
  go_enter Tryz.func58, Tryz.ntmps58
  go_wp2_with fail
  refine HF.out.mono ?_
  rintro e w1 ⟨r, rfl, h⟩
  go_wp2_with fail
  go_ret
  exact ⟨_, rfl, h⟩
set_option maxHeartbeats 4000000 in
theorem zz_Max {w : World} {x : V} {g : Value} {n : Nat} (h5 : x.f0 = 5) (hx : WL x) (zx : Sz x) (hG : G n w x g) : Calls Tryz.prog 59 #[g] w (ShowsIs (mmV false x.f3) w) := by
  obtain ⟨b, l, rfl, _, hl, hw, he⟩ := hG.list_inv h5
  have HC := Lib.hid (minmax_at (n := n) false hx zx b l hl hw he)
  have gL := fun w => qL (.slice (some ⟨b, 0, none⟩) x.f3.length x.f3.length) w
  clear hl hw he hG
  have HF : Hid (Calls Tryz.prog 92 #[.iface 81 (.slice (some ⟨b, 0, none⟩) x.f3.length x.f3.length)] w (ShowsIs (mmV false x.f3) w)) := Lib.hid (by
    go_enter Tryz.func92, Tryz.ntmps92
    go_wp2_with fail
    refine HC.out.mono ?_
    rintro e w1 ⟨r, rfl, h⟩
    go_wp2_with fail
    go_ret
    exact ⟨_, rfl, h⟩)
  go_enter Tryz.func59, Tryz.ntmps59
  go_wp2_with fail
  refine HF.out.mono ?_
  rintro e w1 ⟨r, rfl, h⟩
  go_wp2_with fail
  go_ret
  exact ⟨_, rfl, h⟩
/-- The least is the first when sorted, the greatest the last. -/
theorem mm_first {l : List V} (h : l ≠ []) (hl : ∀ y ∈ l, WL y) : mmV true l = rd_T26 (sortV l) ((0 : Nat) : Int) := by
  have h0 := List.length_pos_iff.2 h
  have hs : 0 < (sortV l).length := by rw [sortV_len]; exact h0
  have hm := mm_mem (mn := true) h
  have hf := rd_mem (sortV l) 0 hs
  refine cmp_eq _ _ (Nat.lt_succ_self _) _ (hl _ hm) (hl _ (mem_sortV.1 hf)) ?_
  have h1 : cmpV (mmV true l) (rd_T26 (sortV l) ((0 : Nat) : Int)) ≤ 0 := by
    obtain ⟨t, ht, e⟩ := List.mem_iff_getElem.1 (mem_sortV.1 hf)
    have e2 := rd_at l t ht
    rw [List.getElem?_eq_getElem ht] at e2
    have h2 := mmI_best true l (l.length - 1) t (by omega)
    rw [if_pos rfl, ← Option.some.inj e2, e] at h2
    unfold mmV
    rw [if_neg h]
    exact h2
  have h2 : ¬ cmpV (mmV true l) (rd_T26 (sortV l) ((0 : Nat) : Int)) < 0 := by
    obtain ⟨t, ht, e⟩ := List.mem_iff_getElem.1 (mem_sortV.2 hm)
    have e2 := rd_at (sortV l) 0 hs
    rw [List.getElem?_eq_getElem hs] at e2
    rw [← Option.some.inj e2, ← e]
    by_cases c : t = 0
    · subst c
      rw [cmpV_self]
      omega
    · exact of_decide_eq_false (List.pairwise_iff_getElem.1 (sortV_ris l) 0 t hs ht (by omega))
  omega
theorem mm_last {l : List V} (h : l ≠ []) (hl : ∀ y ∈ l, WL y) : mmV false l = rd_T26 (sortV l) ((sortV l).length - 1 : Nat) := by
  have h0 := List.length_pos_iff.2 h
  have hs : (sortV l).length - 1 < (sortV l).length := by rw [sortV_len]; omega
  have hm := mm_mem (mn := false) h
  have hf := rd_mem (sortV l) _ hs
  refine cmp_eq _ _ (Nat.lt_succ_self _) _ (hl _ hm) (hl _ (mem_sortV.1 hf)) ?_
  have h1 : 0 ≤ cmpV (mmV false l) (rd_T26 (sortV l) ((sortV l).length - 1 : Nat)) := by
    obtain ⟨t, ht, e⟩ := List.mem_iff_getElem.1 (mem_sortV.1 hf)
    have e2 := rd_at l t ht
    rw [List.getElem?_eq_getElem ht] at e2
    have h2 := mmI_best false l (l.length - 1) t (by omega)
    rw [if_neg (by simp), ← Option.some.inj e2, e] at h2
    unfold mmV
    rw [if_neg h]
    exact h2
  have h2 : ¬ 0 < cmpV (mmV false l) (rd_T26 (sortV l) ((sortV l).length - 1 : Nat)) := by
    obtain ⟨t, ht, e⟩ := List.mem_iff_getElem.1 (mem_sortV.2 hm)
    have e2 := rd_at (sortV l) _ hs
    rw [List.getElem?_eq_getElem hs] at e2
    rw [← Option.some.inj e2, ← e]
    by_cases c : t = (sortV l).length - 1
    · subst c
      rw [cmpV_self]
      omega
    · have h3 := of_decide_eq_false (List.pairwise_iff_getElem.1 (sortV_ris l) t _ ht hs (by omega))
      have h4 := cmpV_anti _ (sortV l)[t] (Nat.lt_succ_self _) (sortV l)[(sortV l).length - 1]
      omega
  omega
end Go.Proofs.YtbnfeicpjmfooaaGreatDoor.NumA
