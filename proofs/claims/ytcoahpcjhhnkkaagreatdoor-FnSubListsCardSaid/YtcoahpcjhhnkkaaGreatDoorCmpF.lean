/-
gojq.Compare's callback at two lists.
-/
import Derived.Test.YtcoahpcjhhnkkaaGreatDoorCmpE
set_option linter.unusedSimpArgs false
set_option linter.unusedVariables false
namespace Go.Proofs.YtcoahpcjhhnkkaaGreatDoor.NumA
open Go.RowKit Go.Lib Go.Proofs.YtcoahpcjhhnkkaaGreatDoor.ValA Go.Proofs.YtcoahpcjhhnkkaaGreatDoor.FloH Go.Proofs.YtcoahpcjhhnkkaaGreatDoorW.PrintWords Go.Proofs.YtcoahpcjhhnkkaaGreatDoorW.PrintLast Go.Proofs.YtcoahpcjhhnkkaaGreatDoorW.PrintMore Go.Proofs.YtcoahpcjhhnkkaaGreatDoor.PzzFits1
/-- The head of a round over two lists. -/
def RCl (w : World) (l l' : List V) (p k : Nat) (i : Value) (wr : World) : Prop :=
  ∃ j : Nat, i = .int .i64 j ∧ k + j = p ∧ Below w.heap.size w wr ∧ cmpL (l.drop j) (l'.drop j) = cmpL l l'
set_option maxRecDepth 100000 in
set_option maxHeartbeats 4000000 in
theorem cmp_lists_at (w : World) (b c n m p : Nat) (hp : min n m = p) (hpi : min (n : Int) (m : Int) = (p : Int)) (l l' : List V) (vs us : List Value) (hl : l.length = n) (hl' : l'.length = m) (hn : n ≤ 1000000) (hm : m ≤ 1000000) (hvs : vs.length = n) (hus : us.length = m)
    (hb : w.heap[b]? = some (.cells vs.toArray 20 (0, 0))) (hc : w.heap[c]? = some (.cells us.toArray 20 (0, 0)))
    (IH : ∀ (j : Nat) (v u : Value), vs[j]? = some v → us[j]? = some u → ∀ w', Below w.heap.size w w' → Calls Tryz.prog 38 #[v, u] w' (Gz (cmpV (rd_T26 l j) (rd_T26 l' j)) w')) :
    Calls Tryz.prog 69 #[.slice (some ⟨b, 0, none⟩) n n, .slice (some ⟨c, 0, none⟩) m m] w (Gz (cmpL l l').sign w) := by
  have HI := Lib.hid (fun j v u h h' w' hw => IH j v u h h' w' hw)
  have HBC := Lib.hid (And.intro hb hc)
  have HN := Lib.hid (And.intro hl hl')
  have HM := Lib.hid (And.intro hn hm)
  have HV := Lib.hid (And.intro hvs hus)
  have HP := Lib.hid hp
  clear IH hb hc hl hl' hn hm hvs hus hp
  go_enter Tryz.func69, Tryz.ntmps69
  go_wp2_with fail
  go_loopg [12] p (fun k i wr => RCl w l l' p k i wr)
  case atStart => exact ⟨0, rfl, by omega, Below.refl _ _, rfl⟩
  case round =>
    obtain ⟨j, rfl, hkj, hbr, hcm⟩ := hrel
    have HR := Lib.hid (And.intro hbr (And.intro hcm hkj))
    clear hkj hcm
    by_cases hlt : j < p
    · have hjn : j < n ∧ j < m := by have := HP.out; omega
      obtain ⟨v, hv⟩ : ∃ v, vs[j]? = some v := ⟨_, List.getElem?_eq_getElem (by have := HV.out.1; omega)⟩
      obtain ⟨u, hu⟩ : ∃ u, us[j]? = some u := ⟨_, List.getElem?_eq_getElem (by have := HV.out.2; omega)⟩
      have HL := Lib.hid (fun w' hw => HI.out j v u hv hu w' hw)
      have x0 : wr.cell? ⟨b, j, none⟩ = some v := by
        have h := list_cell ((hbr.block _ (lt_of_heap HBC.out.1)).trans HBC.out.1) (by have := HV.out.1; omega : j < vs.length)
        rw [List.getElem?_eq_getElem (by have := HV.out.1; omega)] at hv
        rw [h.1, Option.some.inj hv]
      have x1 : wr.cell? ⟨c, j, none⟩ = some u := by
        have h := list_cell ((hbr.block _ (lt_of_heap HBC.out.2)).trans HBC.out.2) (by have := HV.out.2; omega : j < us.length)
        rw [List.getElem?_eq_getElem (by have := HV.out.2; omega)] at hu
        rw [h.1, Option.some.inj hu]
      clear hv hu
      have e0 : (j : Int) < (p : Int) := by omega
      have e1 : (j : Int) < (n : Int) := by omega
      have e2 : (j : Int) < (m : Int) := by omega
      have HLT := Lib.hid (And.intro hlt hjn)
      clear hbr hlt hjn hpi
      go_wp2_with fail
      refine start_ (n := 10) (S := fun w' => w'.cell? ⟨b, j, none⟩ = some v ∧ w'.cell? ⟨c, j, none⟩ = some u ∧ Below w.heap.size w w') (ds := []) #[false, false, false, false, false, false, false, false, false, false] (by kernel_rfl) rfl rfl ⟨(pw_cell_below ((Below.refl _ wr).drew) x0), (pw_cell_below ((Below.refl _ wr).drew) x1), (HR.out.1.drew)⟩ (fun hHeld => ?_)
      refine pure_ (i := 0) (N := some 15) (v := ?_) (a' := ?_) #[true, false, false, false, false, false, false, false, false, false] rfl rfl (by kernel_rfl) (fun _ _ _ h => h) (Or.inl ⟨by rfl, ?_⟩) ?_ ?_
      rotate_left
      · intro w'
        go_simp
        with_reducible rfl
      rotate_left
      · simp only [Act.put, List.setIfInBounds_toArray, List.set_cons_zero, List.set_cons_succ, i64_w, i32_w]
        rfl
      refine pure_ (i := 1) (N := some 16) (v := ?_) (a' := ?_) #[true, true, false, false, false, false, false, false, false, false] rfl rfl (by kernel_rfl) (fun _ _ _ h => h) (Or.inl ⟨by rfl, ?_⟩) ?_ ?_
      rotate_left
      · intro w'
        go_simp
        with_reducible rfl
      rotate_left
      · simp only [Act.put, List.setIfInBounds_toArray, List.set_cons_zero, List.set_cons_succ, i64_w, i32_w]
        rfl
      refine pure_ (i := 2) (N := some 17) (v := ?_) (a' := ?_) #[true, true, true, false, false, false, false, false, false, false] rfl rfl (by kernel_rfl) (fun _ _ _ h => h) (Or.inl ⟨by rfl, ?_⟩) ?_ ?_
      rotate_left
      · intro w'
        go_simp
        with_reducible rfl
      rotate_left
      · simp only [Act.put, List.setIfInBounds_toArray, List.set_cons_zero, List.set_cons_succ, i64_w, i32_w]
        rfl
      refine pure_ (i := 4) (N := some 19) (v := ?_) (a' := ?_) #[true, true, true, false, true, false, false, false, false, false] rfl rfl (by kernel_rfl) (fun _ _ _ h => h) (Or.inl ⟨by rfl, ?_⟩) ?_ ?_
      rotate_left
      · intro w'
        go_simp
        with_reducible rfl
      rotate_left
      · simp only [Act.put, List.setIfInBounds_toArray, List.set_cons_zero, List.set_cons_succ, i64_w, i32_w]
        rfl
      refine pure_ (i := 5) (N := some 20) (v := ?_) (a' := ?_) #[true, true, true, false, true, true, false, false, false, false] rfl rfl (by kernel_rfl) (fun _ _ _ h => h) (Or.inl ⟨by rfl, ?_⟩) ?_ ?_
      rotate_left
      · intro w'
        go_simp
        with_reducible rfl
      rotate_left
      · simp only [Act.put, List.setIfInBounds_toArray, List.set_cons_zero, List.set_cons_succ, i64_w, i32_w]
        rfl
      refine pure_ (i := 6) (N := some 21) (v := ?_) (a' := ?_) #[true, true, true, false, true, true, true, false, false, false] rfl rfl (by kernel_rfl) (fun _ _ _ h => h) (Or.inl ⟨by rfl, ?_⟩) ?_ ?_
      rotate_left
      · intro w'
        go_simp
        with_reducible rfl
      rotate_left
      · simp only [Act.put, List.setIfInBounds_toArray, List.set_cons_zero, List.set_cons_succ, i64_w, i32_w]
        rfl
      refine take_ (i := 3) (N := some 18) (v := ?_) (a' := ?_) #[true, true, true, true, true, true, true, false, false, false] rfl rfl (by kernel_rfl) (fun _ _ _ h => h) (Or.inl ⟨by rfl, ?_⟩) hHeld ?_ ?_
      rotate_left
      · rintro w' ⟨s0, s1, s2⟩
        go_simp
        with_reducible rfl
      rotate_left
      · simp only [Act.put, List.setIfInBounds_toArray, List.set_cons_zero, List.set_cons_succ, i64_w, i32_w]
        rfl
      refine take_ (i := 7) (N := some 22) (v := ?_) (a' := ?_) #[true, true, true, true, true, true, true, true, false, false] rfl rfl (by kernel_rfl) (fun _ _ _ h => h) (Or.inl ⟨by rfl, ?_⟩) hHeld ?_ ?_
      rotate_left
      · rintro w' ⟨s0, s1, s2⟩
        go_simp
        with_reducible rfl
      rotate_left
      · simp only [Act.put, List.setIfInBounds_toArray, List.set_cons_zero, List.set_cons_succ, i64_w, i32_w]
        rfl
      refine one_ (i := 8) (N := some 23) #[true, true, true, true, true, true, true, true, true, false] rfl rfl (by kernel_rfl) (by decide) (fun K hK => ?_)
      refine goes_ Tryz.func38 (by kernel_rfl) rfl #[v, u] (by rfl) rfl rfl (by simp only [List.map_toArray, List.map_cons, List.map_nil]; rfl) ?_
      with_reducible refine ((HL.out _ hHeld.2.2)).mono ?_
      rintro e w3 ⟨rfl, hb⟩
      refine ⟨_, rfl, ?_⟩
      have hbz := hHeld.2.2.trans (hb.mono hHeld.2.2.size)
      refine hK.out _ _ ⟨(pw_cell_below hb hHeld.1), (pw_cell_below hb hHeld.2.1), hbz⟩ (fun hHeld => ?_)
      clear hK K
      refine norm_ (a' := ?_) ?_ ?_
      rotate_left
      · show Act.put _ (some 23) _ = _
        simp only [Act.put, List.setIfInBounds_toArray, List.set_cons_zero, List.set_cons_succ, i64_w, i32_w]
        rfl
      refine pure_ (i := 9) (N := some 6) (v := ?_) (a' := ?_) #[true, true, true, true, true, true, true, true, true, true] rfl rfl (by kernel_rfl) (fun _ _ _ h => h) (Or.inl ⟨by rfl, ?_⟩) ?_ ?_
      rotate_left
      · intro w'
        go_simp
        with_reducible rfl
      rotate_left
      · simp only [Act.put, List.setIfInBounds_toArray, List.set_cons_zero, List.set_cons_succ, i64_w, i32_w]
        rfl
      refine done_ (by kernel_rfl) ?_
      cases hz : (cmpV (rd_T26 l j) (rd_T26 l' j) != 0) with
      | true =>
        go_wp2_with fail
        go_ret
        refine ⟨?_, hbz⟩
        have h := cmpL_first l l' j (by have := HN.out.1; have := HLT.out; omega) (by have := HN.out.2; have := HLT.out; omega) (by simpa using hz)
        rw [← HR.out.2.1, h, cmpV_sign]
        rfl
      | false =>
        have HZ := Lib.hid (show cmpV (rd_T26 l j) (rd_T26 l' j) = 0 by simpa using hz)
        go_wp2_with fail
        go_roundg (gk - 1)
        case measure => have := HR.out.2.2; have := HLT.out.1; omega
        case rel =>
          have hw : wrap64 ((j : Int) + 1) = ((j + 1 : Nat) : Int) := by have := HM.out.1; have := HLT.out; unfold wrap64; omega
          try rw [hw]
          exact ⟨j + 1, rfl, by have := HR.out.2.2; have := HLT.out.1; omega, hbz, by rw [← HR.out.2.1, cmpL_zero l l' j (by have := HN.out.1; have := HLT.out; omega) (by have := HN.out.2; have := HLT.out; omega) HZ.out]⟩
    · have q2 : ¬ (j : Int) < (p : Int) := by omega
      have q4 : decide ((j : Int) < (p : Int)) = false := decide_eq_false q2
      have q5 : decide (j < p) = false := decide_eq_false hlt
      have HE := Lib.hid hlt
      clear hbr hlt q2 hpi
      go_wp2_with fail
      refine (cmp_ints _ _ _).mono ?_
      rintro e w1 ⟨rfl, hb⟩
      have H1 := Lib.hid (HR.out.1.trans (hb.mono HR.out.1.size))
      clear hb
      go_wp2_with fail
      go_ret
      refine ⟨?_, H1.out⟩
      have h := cmpL_end l l' j (by have := HN.out.1; have := HP.out; have := HE.out; have := HR.out.2.2; omega) (by have := HN.out.2; have := HP.out; have := HE.out; have := HR.out.2.2; omega) (by have := HN.out; have := HP.out; have := HE.out; have := HR.out.2.2; omega)
      rw [← HR.out.2.1, h, HN.out.1, HN.out.2]
      rfl
theorem cmp_lists_any (w : World) (b c n m : Nat) (l l' : List V) (vs us : List Value) (hl : l.length = n) (hl' : l'.length = m) (hn : n ≤ 1000000) (hm : m ≤ 1000000) (hvs : vs.length = n) (hus : us.length = m)
    (hb : w.heap[b]? = some (.cells vs.toArray 20 (0, 0))) (hc : w.heap[c]? = some (.cells us.toArray 20 (0, 0)))
    (IH : ∀ (j : Nat) (v u : Value), vs[j]? = some v → us[j]? = some u → ∀ w', Below w.heap.size w w' → Calls Tryz.prog 38 #[v, u] w' (Gz (cmpV (rd_T26 l j) (rd_T26 l' j)) w')) :
    Calls Tryz.prog 38 #[.iface 78 (.slice (some ⟨b, 0, none⟩) n n), .iface 78 (.slice (some ⟨c, 0, none⟩) m m)] w (Gz (cmpL l l').sign w) :=
  compare_of _ _ _ w (bin_cmp_ll _ _ _ n m w (cmp_lists_at w b c n m _ rfl (by omega) l l' vs us hl hl' hn hm hvs hus hb hc IH))
end Go.Proofs.YtcoahpcjhhnkkaaGreatDoor.NumA
