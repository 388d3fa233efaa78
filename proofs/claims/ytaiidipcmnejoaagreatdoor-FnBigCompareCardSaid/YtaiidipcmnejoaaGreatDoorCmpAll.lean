import Derived.Test.YtaiidipcmnejoaaGreatDoorIntAll
import Derived.LaidEqlPtr
import Derived.Test.YtaiidipcmnejoaaGreatDoorWholeAll
import Derived.Test.YtaiidipcmnejoaaGreatDoorBinAdd

namespace Go.Proofs.YtaiidipcmnejoaaGreatDoor.IntW
open Go.RowKit Go.Lib Go.Proofs.YtaiidipcmnejoaaGreatDoorW.PrintWords Go.Proofs.YtaiidipcmnejoaaGreatDoorW.PrintLast Go.Proofs.YtaiidipcmnejoaaGreatDoorW.PrintMore
open Go.Proofs.YtaiidipcmnejoaaGreatDoor.Nt
theorem C_inj {w : World} {A : Option Addr} {n : Nat} {xs ys : List Int} (h1 : Kd.C (Kd.int .u32) w A n xs) (h2 : Kd.C (Kd.int .u32) w A n ys) : xs = ys := by
  obtain ⟨l1, _, k1⟩ := h1
  obtain ⟨l2, _, k2⟩ := h2
  apply List.ext_getElem (by omega)
  intro j hj1 hj2
  obtain ⟨a1, e1, f1⟩ := k1 (by omega)
  obtain ⟨a2, e2, f2⟩ := k2 (by omega)
  obtain rfl := Option.some.inj (e1.symm.trans e2)
  obtain ⟨c1, _, r1, g1⟩ := f1 j _ (List.getElem?_eq_getElem hj1)
  obtain ⟨c2, _, r2, g2⟩ := f2 j _ (List.getElem?_eq_getElem hj2)
  have r1' : c1 = [.int .u32 xs[j]] := r1
  have r2' : c2 = [.int .u32 ys[j]] := r2
  have h1 := g1 0 (.int .u32 xs[j]) (by rw [r1']; rfl)
  have h2 := g2 0 (.int .u32 ys[j]) (by rw [r2']; rfl)
  have := h1.symm.trans h2
  simpa using this
theorem IntAt.inj {w : World} {g : Nat} {m n : Int} {L L' : Nat} (h : IntAt w g m L) (k : IntAt w g n L') : m = n := by
  obtain ⟨neg, ds, sv, h1, h2, h3, h4, h5, h6⟩ := h
  obtain ⟨neg', ds', sv', k1, k2, k3, k4, k5, k6⟩ := k
  have he := h1.symm.trans k1
  simp only [Option.some.injEq, Obj.cells.injEq, Array.mk.injEq, List.cons.injEq, Value.bool.injEq, and_true] at he
  obtain ⟨rfl, rfl⟩ := he
  obtain ⟨A, c, rfl, _, h⟩ := h2
  obtain ⟨A', c', e, _, h'⟩ := k2
  simp only [Value.slice.injEq] at e
  obtain ⟨rfl, e2, rfl⟩ := e
  rw [← e2] at h'
  obtain rfl := C_inj h h'
  rw [h4, k4]
theorem cmpI_bounds (a b : Int) : -1 ≤ cmpI a b ∧ cmpI a b ≤ 1 ∧ (cmpI a b < 0 ↔ a < b) ∧ (0 < cmpI a b ↔ b < a) := by
  unfold cmpI
  split
  · omega
  · split <;> omega
theorem cmpI_neg (a b : Int) : wrap64 (-(cmpI a b)) = cmpI (-a) (-b) := by
  have h1 := cmpI_bounds a b
  have h2 := cmpI_bounds (-a) (-b)
  unfold wrap64
  omega
theorem info97 : ∃ j, Tryz.prog.info? 97 = some j ∧ j.size ≠ 0 := by
  have h : (Tryz.prog.info? 97).map (fun j => decide (j.size ≠ 0)) = some true := by kernel_rfl
  obtain ⟨j, hj, h⟩ := Option.map_eq_some_iff.1 h
  exact ⟨j, hj, of_decide_eq_true h⟩
set_option maxRecDepth 100000 in
set_option maxHeartbeats 2000000 in
theorem cmp_ne (gx gy : Nat) (m n : Int) (L : Nat) (w : World) (hne : gx ≠ gy) (hx : IntAt w gx m L) (hy : IntAt w gy n L) (hL : L ≤ 100000) :
    Calls Tryz.prog 67 #[.pointer (some ⟨gx, 0, none⟩), .pointer (some ⟨gy, 0, none⟩)] w fun e w' => e = .returned (.int .i64 (cmpI m n)) ∧ Below w.heap.size w w' := by
  obtain ⟨xneg, xs, sv, h1, h2, h3, h4, h5, h6⟩ := hx
  obtain ⟨yneg, ys, sw, k1, k2, k3, k4, k5, k6⟩ := hy
  obtain ⟨ax, cx, rfl, hcx, hCx⟩ := h2
  obtain ⟨ay, cy, rfl, hcy, hCy⟩ := k2
  obtain ⟨x0, x1, x2, x3⟩ := two_cells h1
  obtain ⟨y0, y1, y2, y3⟩ := two_cells k1
  have HXV : Hid (NatV w (.slice ax xs.length cx) xs) := Lib.hid ⟨ax, cx, rfl, hcx, hCx⟩
  have HYV : Hid (NatV w (.slice ay ys.length cy) ys) := Lib.hid ⟨ay, cy, rfl, hcy, hCy⟩
  have HC := Lib.hid (fun k : Nat => c_cmp _ _ _ _ (w.drewN k) (NatV.drewN HXV.out k) (NatV.drewN HYV.out k) h3 k3 (by omega))
  obtain ⟨j, hj, hsz⟩ := info97
  have hpe := run_eql_ptr_other (P := Tryz.prog) (a := ⟨gx, 0, none⟩) (b := ⟨gy, 0, none⟩) w Tryz.underlying62 hj hsz (fun e => hne (congrArg Addr.block e)) h1 k1
  have hlt : (xneg = true → yneg = false → m < n) ∧ (xneg = false → yneg = true → n < m) := by
    have e2 := nv_nonneg _ h3.1
    have e3 := nv_nonneg _ k3.1
    constructor
    · intro e f
      subst e; subst f
      simp only [if_true, Bool.false_eq_true, if_false] at h4 k4
      have e1 : nv xs ≠ 0 := fun e => h5 rfl ((nv_zero h3).1 e)
      omega
    · intro e f
      subst e; subst f
      simp only [if_true, Bool.false_eq_true, if_false] at h4 k4
      have e1 : nv ys ≠ 0 := fun e => k5 rfl ((nv_zero k3).1 e)
      omega
  have HP := Lib.hid (And.intro h4 k4)
  clear h1 k1 hcx hCx hcy hCy h3 k3 h5 k5 h6 k6 h4 k4 hne hj hsz
  cases xneg with
  | false =>
    cases yneg with
    | false =>
      simp only [Bool.false_eq_true, if_false] at HP
      go_enter Tryz.func67, Tryz.ntmps67
      go_wp2_with fail
      go_region
      go_wp2_with fail
      go_region
      go_wp2_with fail
      go_region_with (go_at_call 128; refine (HC.out 3).mono ?_; rintro e w1 ⟨rfl, hd⟩; have HB := Lib.hid ((pw_below_drewN (Below.refl w.heap.size w) 3).trans hd.below); clear hd)
      all_goals
        go_wp2_with fail
        go_ret
        exact ⟨congrArg (fun x => Ending.returned (.int .i64 x)) (show cmpI (nv xs) (nv ys) = cmpI m n by rw [HP.out.1, HP.out.2]), HB.out⟩
    | true =>
      simp only [Bool.false_eq_true, if_false, if_true] at HP
      have HF := Lib.hid (hlt.2 rfl rfl)
      clear hlt HC
      go_enter Tryz.func67, Tryz.ntmps67
      go_wp2_with fail
      go_region
      go_wp2_with fail
      go_region
      go_wp2_with fail
      go_ret
      exact ⟨congrArg (fun x => Ending.returned (.int .i64 x)) (show 1 = cmpI m n by have := cmpI_bounds m n; have := HF.out; omega), pw_below_drewN (Below.refl w.heap.size w) 2⟩
  | true =>
    cases yneg with
    | false =>
      have HF := Lib.hid (hlt.1 rfl rfl)
      clear hlt HC
      go_enter Tryz.func67, Tryz.ntmps67
      go_wp2_with fail
      go_region
      go_wp2_with fail
      go_region
      go_wp2_with fail
      go_ret
      exact ⟨congrArg (fun x => Ending.returned (.int .i64 x)) (show -1 = cmpI m n by have := cmpI_bounds m n; have := HF.out; omega), pw_below_drewN (Below.refl w.heap.size w) 2⟩
    | true =>
      simp only [if_true] at HP
      obtain ⟨q, hq⟩ : ∃ q, q = cmpI (nv xs) (nv ys) := ⟨_, rfl⟩
      have HQ := Lib.hid hq
      rw [← hq] at HC
      have hqn : IntKind.i64.wrap (-q) = cmpI m n := by
        have h1 : wrap64 (-q) = cmpI m n := by rw [hq, cmpI_neg, HP.out.1, HP.out.2]
        rw [← h1]
        rw [IntKind.wrap_i64, wrap64]
      have HQN := Lib.hid hqn
      clear hq hqn hlt
      go_enter Tryz.func67, Tryz.ntmps67
      go_wp2_with fail
      go_region
      go_wp2_with fail
      go_region_with (go_at_call 128; refine (HC.out 2).mono ?_; rintro e w1 ⟨rfl, hd⟩; have HB := Lib.hid ((pw_below_drewN (Below.refl w.heap.size w) 2).trans hd.below); clear hd)
      all_goals
        go_wp2_with fail
        go_ret
        exact ⟨congrArg (fun x => Ending.returned (.int .i64 x)) HQN.out, HB.out⟩
theorem cmp_any (gx gy : Nat) (m n : Int) (L : Nat) (w : World) (hx : IntAt w gx m L) (hy : IntAt w gy n L) (hL : L ≤ 100000) :
    Calls Tryz.prog 67 #[.pointer (some ⟨gx, 0, none⟩), .pointer (some ⟨gy, 0, none⟩)] w fun e w' => e = .returned (.int .i64 (cmpI m n)) ∧ Below w.heap.size w w' := by
  by_cases hne : gx = gy
  · subst hne
    have hmn := hx.inj hy
    have h0 : cmpI m n = 0 := by have := cmpI_bounds m n; omega
    rw [h0]
    obtain ⟨j, hj, hsz⟩ := info97
    have hpe := run_eql_ptr_same (P := Tryz.prog) w ⟨gx, 0, none⟩ Tryz.underlying62 hj
    clear hx hy hmn h0 hj hsz
    go_enter Tryz.func67, Tryz.ntmps67
    go_wp2_with fail
    go_ret
    exact ⟨rfl, Below.refl _ _⟩
  · exact cmp_ne gx gy m n L w hne hx hy hL
end Go.Proofs.YtaiidipcmnejoaaGreatDoor.IntW

namespace Go.Proofs.YtaiidipcmnejoaaGreatDoor.WholeW
open Go.RowKit Go.Lib Go.Proofs.YtaiidipcmnejoaaGreatDoorW.PrintWords Go.Proofs.YtaiidipcmnejoaaGreatDoorW.PrintLast Go.Proofs.YtaiidipcmnejoaaGreatDoorW.PrintMore
open Go.Proofs.YtaiidipcmnejoaaGreatDoor.Nt Go.Proofs.YtaiidipcmnejoaaGreatDoor.Dec Go.Proofs.YtaiidipcmnejoaaGreatDoor.IntW Go.Proofs.YtaiidipcmnejoaaGreatDoor.NumW Go.Proofs.YtaiidipcmnejoaaGreatDoor.NumV
open Go.Proofs.YtaiidipcmnejoaaGreatDoor.Spec (S S_list S_toList S_size S_of S_ext)
theorem neg_len (n : Int) : (itoa (-n)).length ≤ (itoa n).length + 1 := by
  have h := dig_len n
  by_cases h0 : -n < 0
  · rw [Dec.itoa_neg _ h0, List.length_cons, Int.natAbs_neg]; omega
  · rw [itoa_pos _ (by omega), Int.natAbs_neg]; omega
theorem wholeNeg_any (n : Int) (s : ByteArray) (hs : s = S (itoa n)) (hn : (itoa n).length ≤ 80000) (w : World) :
    Calls Tryz.prog 49 #[.string s] w fun e w' => e = .returned (.string (S (itoa (-n)))) ∧ Below w.heap.size w w' := by
  have ln := dig_len n
  obtain ⟨b, hb⟩ : ∃ b, b = decide (n < 0) := ⟨_, rfl⟩
  have H36 := Lib.hid (fun w => below_any n s hs w b hb)
  have H35 := Lib.hid (fun w => digitsOf_any n s hs w)
  have H37 := Lib.hid (fun w => signed_any (!b) n.natAbs (by omega) w (-n) (by
    cases b with
    | true => have h1 := of_decide_eq_true hb.symm; simp only [Bool.not_true, Bool.false_eq_true, if_false]; omega
    | false => have h1 := of_decide_eq_false hb.symm; simp only [Bool.not_false, if_true]; omega))
  clear ln hs hn hb
  go_enter Tryz.func49, Tryz.ntmps49
  go_wp2_with fail
  refine (H36.out _).mono ?_
  rintro e w1 ⟨rfl, hb⟩
  have HB1 := Lib.hid hb; clear hb
  go_wp2_with fail
  refine (H35.out _).mono ?_
  rintro e w2 ⟨rfl, hb⟩
  have HB2 := Lib.hid (HB1.out.trans (hb.mono HB1.out.size)); clear hb
  go_wp2_with fail
  refine (H37.out _).mono ?_
  rintro e w3 ⟨rfl, hb⟩
  have HB3 := Lib.hid (HB2.out.trans (hb.mono HB2.out.size)); clear hb
  go_wp2_with fail
  go_ret
  exact ⟨rfl, HB3.out⟩
theorem wholeSub_any (m n : Int) (s t : ByteArray) (hs : s = S (itoa m)) (ht : t = S (itoa n)) (hm : (itoa m).length ≤ 70000) (hn : (itoa n).length ≤ 70000) (w : World) :
    Calls Tryz.prog 27 #[.string s, .string t] w fun e w' => e = .returned (.string (S (itoa (m - n)))) ∧ Below w.heap.size w w' := by
  have ln := neg_len n
  have H49 := Lib.hid (fun w => wholeNeg_any n t ht (by omega) w)
  have H17 := Lib.hid (fun w => wholeAdd_any m (-n) s (S (itoa (-n))) hs rfl (by omega) (by omega) w)
  have he : m + -n = m - n := by omega
  rw [he] at H17
  clear ln hs ht hm hn he
  go_enter Tryz.func27, Tryz.ntmps27
  go_wp2_with fail
  refine (H49.out _).mono ?_
  rintro e w1 ⟨rfl, hb⟩
  have HB1 := Lib.hid hb; clear hb
  go_wp2_with fail
  refine (H17.out _).mono ?_
  rintro e w2 ⟨rfl, hb⟩
  have HB2 := Lib.hid (HB1.out.trans (hb.mono HB1.out.size)); clear hb
  go_wp2_with fail
  go_ret
  exact ⟨rfl, HB2.out⟩
end Go.Proofs.YtaiidipcmnejoaaGreatDoor.WholeW

namespace Go.Proofs.YtaiidipcmnejoaaGreatDoor.WholeW
open Go.RowKit Go.Lib Go.Proofs.YtaiidipcmnejoaaGreatDoorW.PrintWords Go.Proofs.YtaiidipcmnejoaaGreatDoorW.PrintLast Go.Proofs.YtaiidipcmnejoaaGreatDoorW.PrintMore
open Go.Proofs.YtaiidipcmnejoaaGreatDoor.Nt Go.Proofs.YtaiidipcmnejoaaGreatDoor.Dec Go.Proofs.YtaiidipcmnejoaaGreatDoor.IntW Go.Proofs.YtaiidipcmnejoaaGreatDoor.NumW Go.Proofs.YtaiidipcmnejoaaGreatDoor.NumV
open Go.Proofs.YtaiidipcmnejoaaGreatDoor.Spec (S S_list S_toList S_size S_of S_ext)
theorem wholeCmp_any (m n : Int) (s t : ByteArray) (hs : s = S (itoa m)) (ht : t = S (itoa n)) (hm : (itoa m).length ≤ 70000) (hn : (itoa n).length ≤ 70000) (w : World) :
    Calls Tryz.prog 18 #[.string s, .string t] w fun e w' => e = .returned (.int .i64 (cmpI m n)) ∧ Below w.heap.size w w' := by
  have lm := dig_len m
  have ln := dig_len n
  have hbnd := cmpI_bounds m n
  obtain ⟨b, hb⟩ : ∃ b, b = decide (m < 0) := ⟨_, rfl⟩
  obtain ⟨c, hc⟩ : ∃ c, c = decide (n < 0) := ⟨_, rfl⟩
  have H36s := Lib.hid (fun w => below_any m s hs w b hb)
  have H36t := Lib.hid (fun w => below_any n t ht w c hc)
  have H35s := Lib.hid (fun w => digitsOf_any m s hs w)
  have H35t := Lib.hid (fun w => digitsOf_any n t ht w)
  cases b with
  | true =>
    have h1 := of_decide_eq_true hb.symm
    cases c with
    | true =>
      have h2 := of_decide_eq_true hc.symm
      have H39 := Lib.hid (fun w => (more_any n.natAbs m.natAbs (by omega) (by omega) _ _ rfl rfl w).mono (fun e w' ⟨r, h3, h4, h5⟩ => (⟨by rw [h3]; exact congrArg (fun x => Ending.returned (Value.int .i64 x)) (show r = cmpI m n by omega), h4⟩ : e = Ending.returned (.int .i64 (cmpI m n)) ∧ Below w.heap.size w w')))
      clear lm ln hbnd hs ht hm hn hb hc h1 h2
      go_enter Tryz.func18, Tryz.ntmps18
      go_wp2_with fail
      refine (H36s.out _).mono ?_
      rintro e w1 ⟨rfl, hb⟩
      have HB1 := Lib.hid hb; clear hb
      go_wp2_with fail
      refine (H36t.out _).mono ?_
      rintro e w2 ⟨rfl, hb⟩
      have HB2 := Lib.hid (HB1.out.trans (hb.mono HB1.out.size)); clear hb
      go_wp2_with fail
      refine (H35t.out _).mono ?_
      rintro e w3 ⟨rfl, hb⟩
      have HB3 := Lib.hid (HB2.out.trans (hb.mono HB2.out.size)); clear hb
      go_wp2_with fail
      refine (H35s.out _).mono ?_
      rintro e w4 ⟨rfl, hb⟩
      have HB4 := Lib.hid (HB3.out.trans (hb.mono HB3.out.size)); clear hb
      go_wp2_with fail
      refine (H39.out _).mono ?_
      rintro e w5 ⟨rfl, hb⟩
      have HB5 := Lib.hid (HB4.out.trans (hb.mono HB4.out.size)); clear hb
      go_wp2_with fail
      go_ret
      exact ⟨rfl, HB5.out⟩
    | false =>
      have h2 := of_decide_eq_false hc.symm
      have HR := Lib.hid (show -1 = cmpI m n by omega)
      clear lm ln hbnd hs ht hm hn hb hc h1 h2
      go_enter Tryz.func18, Tryz.ntmps18
      go_wp2_with fail
      refine (H36s.out _).mono ?_
      rintro e w1 ⟨rfl, hb⟩
      have HB1 := Lib.hid hb; clear hb
      go_wp2_with fail
      refine (H36t.out _).mono ?_
      rintro e w2 ⟨rfl, hb⟩
      have HB2 := Lib.hid (HB1.out.trans (hb.mono HB1.out.size)); clear hb
      go_wp2_with fail
      go_ret
      exact ⟨congrArg (fun x => Ending.returned (Value.int .i64 x)) HR.out, HB2.out⟩
  | false =>
    have h1 := of_decide_eq_false hb.symm
    cases c with
    | true =>
      have h2 := of_decide_eq_true hc.symm
      have HR := Lib.hid (show 1 = cmpI m n by omega)
      clear lm ln hbnd hs ht hm hn hb hc h1 h2
      go_enter Tryz.func18, Tryz.ntmps18
      go_wp2_with fail
      refine (H36s.out _).mono ?_
      rintro e w1 ⟨rfl, hb⟩
      have HB1 := Lib.hid hb; clear hb
      go_wp2_with fail
      refine (H36t.out _).mono ?_
      rintro e w2 ⟨rfl, hb⟩
      have HB2 := Lib.hid (HB1.out.trans (hb.mono HB1.out.size)); clear hb
      go_wp2_with fail
      go_ret
      exact ⟨congrArg (fun x => Ending.returned (Value.int .i64 x)) HR.out, HB2.out⟩
    | false =>
      have h2 := of_decide_eq_false hc.symm
      have e1 : itoa m = decDigits m.natAbs := itoa_pos m (by omega)
      have e2 : itoa n = decDigits n.natAbs := itoa_pos n (by omega)
      have H39 := Lib.hid (fun w => (more_any m.natAbs n.natAbs (by omega) (by omega) s t (by rw [hs, e1]) (by rw [ht, e2]) w).mono (fun e w' ⟨r, h3, h4, h5⟩ => (⟨by rw [h3]; exact congrArg (fun x => Ending.returned (Value.int .i64 x)) (show r = cmpI m n by omega), h4⟩ : e = Ending.returned (.int .i64 (cmpI m n)) ∧ Below w.heap.size w w')))
      clear lm ln hbnd hs ht hm hn hb hc h1 h2 e1 e2
      go_enter Tryz.func18, Tryz.ntmps18
      go_wp2_with fail
      refine (H36s.out _).mono ?_
      rintro e w1 ⟨rfl, hb⟩
      have HB1 := Lib.hid hb; clear hb
      go_wp2_with fail
      refine (H36t.out _).mono ?_
      rintro e w2 ⟨rfl, hb⟩
      have HB2 := Lib.hid (HB1.out.trans (hb.mono HB1.out.size)); clear hb
      go_wp2_with fail
      refine (H39.out _).mono ?_
      rintro e w3 ⟨rfl, hb⟩
      have HB3 := Lib.hid (HB2.out.trans (hb.mono HB2.out.size)); clear hb
      go_wp2_with fail
      go_ret
      exact ⟨rfl, HB3.out⟩
end Go.Proofs.YtaiidipcmnejoaaGreatDoor.WholeW

namespace Go.Proofs.YtaiidipcmnejoaaGreatDoor.OpCmpW
open Go.RowKit Go.Lib Go.Proofs.YtaiidipcmnejoaaGreatDoorW.PrintWords Go.Proofs.YtaiidipcmnejoaaGreatDoorW.PrintLast Go.Proofs.YtaiidipcmnejoaaGreatDoorW.PrintMore
open Go.Proofs.YtaiidipcmnejoaaGreatDoor.Nt Go.Proofs.YtaiidipcmnejoaaGreatDoor.Dec Go.Proofs.YtaiidipcmnejoaaGreatDoor.IntW Go.Proofs.YtaiidipcmnejoaaGreatDoor.NumW Go.Proofs.YtaiidipcmnejoaaGreatDoor.NumV
open Go.Proofs.YtaiidipcmnejoaaGreatDoor.Spec (S S_list S_toList S_size S_of S_ext)
set_option maxRecDepth 100000 in
set_option maxHeartbeats 4000000 in
theorem binop_ii (f3 f5 f6 f7 f8 : Nat) (Q : World → Value → Prop) (m n : Int) (hI : ∀ w, Calls Tryz.prog 64 #[.int .i64 m, .int .i64 n] w (Gives Q w)) (w : World) :
    Calls Tryz.prog 63 #[.iface 3 (.int .i64 m), .iface 3 (.int .i64 n), Value.func (Fn.func 64) #[] #[], Value.func (Fn.func f3) #[] #[], Value.func (Fn.func 67) #[] #[], Value.func (Fn.func f5) #[] #[], Value.func (Fn.func f6) #[] #[], Value.func (Fn.func f7) #[] #[], Value.func (Fn.func f8) #[] #[]] w (Gives Q w) := by
  have HC := Lib.hid (hI w)
  clear hI
  have a1 := fun w => no124_3 (.int .i64 m) w
  have a2 := fun w => no124_3 (.int .i64 n) w
  have a3 := fun w => is3 (.int .i64 m) w
  have a4 := fun w => is3 (.int .i64 n) w
  go_enter Tryz.func63, Tryz.ntmps63
  go_wp2_with fail
  refine HC.out.mono ?_
  rintro e w1 ⟨v, rfl, hv⟩
  have HB := Lib.hid hv; clear hv
  go_wp2_with fail
  go_ret
  exact ⟨_, rfl, HB.out⟩
set_option maxRecDepth 100000 in
set_option maxHeartbeats 4000000 in
theorem binop_ib (f3 f5 f6 f7 f8 : Nat) (Q : World → Value → Prop) (m n : Int) (L : Nat) (hB : ∀ gx gy w, IntAt w gx m L → IntAt w gy n L → Calls Tryz.prog 67 #[.pointer (some ⟨gx, 0, none⟩), .pointer (some ⟨gy, 0, none⟩)] w (Gives Q w)) (g : Nat) (w : World) (h0m : -9223372036854775808 ≤ m) (h1m : m ≤ 9223372036854775807) (hg : IntAt w g n L) (hL : 2 ≤ L) :
    Calls Tryz.prog 63 #[.iface 3 (.int .i64 m), .iface 62 (.pointer (some ⟨g, 0, none⟩)), Value.func (Fn.func 64) #[] #[], Value.func (Fn.func f3) #[] #[], Value.func (Fn.func 67) #[] #[], Value.func (Fn.func f5) #[] #[], Value.func (Fn.func f6) #[] #[], Value.func (Fn.func f7) #[] #[], Value.func (Fn.func f8) #[] #[]] w (Gives Q w) := by
  have HC := Lib.hid hB
  clear hB
  have a0_no124_3 := fun w => no124_3 (.int .i64 m) w
  have a0_is3 := fun w => is3 (.int .i64 m) w
  have a1_no124_62 := fun w => no124_62 (.pointer (some ⟨g, 0, none⟩)) w
  have a1_no3 := fun w => no3 (.pointer (some ⟨g, 0, none⟩)) w
  have a1_no68_62 := fun w => no68_62 (.pointer (some ⟨g, 0, none⟩)) w
  have a1_is62 := fun w => is62 (.pointer (some ⟨g, 0, none⟩)) w
  have HN := Lib.hid (fun w => newInt_any m h0m h1m w)
  have HG := Lib.hid hg
  have HL := Lib.hid hL
  clear h0m h1m hg hL
  go_enter Tryz.func63, Tryz.ntmps63
  go_wp2_with fail
  refine (HN.out _).mono ?_
  rintro e w1 ⟨q, rfl, hq, hi, hb⟩
  have HX := Lib.hid (hi.mono HL.out)
  have HY := Lib.hid (HG.out.below hb)
  have HB1 := Lib.hid hb
  clear hq hi hb
  go_wp2_with fail
  refine (HC.out _ _ _ HX.out HY.out).mono ?_
  rintro e w2 ⟨v, rfl, hv, hb⟩
  have HB := Lib.hid (And.intro hv hb); clear hv hb
  go_wp2_with fail
  go_ret
  exact ⟨_, rfl, HB.out.1, HB1.out.trans (HB.out.2.mono HB1.out.size)⟩
set_option maxRecDepth 100000 in
set_option maxHeartbeats 4000000 in
theorem binop_bi (f3 f5 f6 f7 f8 : Nat) (Q : World → Value → Prop) (m n : Int) (L : Nat) (hB : ∀ gx gy w, IntAt w gx m L → IntAt w gy n L → Calls Tryz.prog 67 #[.pointer (some ⟨gx, 0, none⟩), .pointer (some ⟨gy, 0, none⟩)] w (Gives Q w)) (g : Nat) (w : World) (h0n : -9223372036854775808 ≤ n) (h1n : n ≤ 9223372036854775807) (hg : IntAt w g m L) (hL : 2 ≤ L) :
    Calls Tryz.prog 63 #[.iface 62 (.pointer (some ⟨g, 0, none⟩)), .iface 3 (.int .i64 n), Value.func (Fn.func 64) #[] #[], Value.func (Fn.func f3) #[] #[], Value.func (Fn.func 67) #[] #[], Value.func (Fn.func f5) #[] #[], Value.func (Fn.func f6) #[] #[], Value.func (Fn.func f7) #[] #[], Value.func (Fn.func f8) #[] #[]] w (Gives Q w) := by
  have HC := Lib.hid hB
  clear hB
  have a0_no124_62 := fun w => no124_62 (.pointer (some ⟨g, 0, none⟩)) w
  have a0_no3 := fun w => no3 (.pointer (some ⟨g, 0, none⟩)) w
  have a0_no68_62 := fun w => no68_62 (.pointer (some ⟨g, 0, none⟩)) w
  have a0_is62 := fun w => is62 (.pointer (some ⟨g, 0, none⟩)) w
  have a1_no124_3 := fun w => no124_3 (.int .i64 n) w
  have a1_is3 := fun w => is3 (.int .i64 n) w
  have HN := Lib.hid (fun w => newInt_any n h0n h1n w)
  have HG := Lib.hid hg
  have HL := Lib.hid hL
  clear h0n h1n hg hL
  go_enter Tryz.func63, Tryz.ntmps63
  go_wp2_with fail
  refine (HN.out _).mono ?_
  rintro e w1 ⟨q, rfl, hq, hi, hb⟩
  have HY := Lib.hid (hi.mono HL.out)
  have HX := Lib.hid (HG.out.below hb)
  have HB1 := Lib.hid hb
  clear hq hi hb
  go_wp2_with fail
  refine (HC.out _ _ _ HX.out HY.out).mono ?_
  rintro e w2 ⟨v, rfl, hv, hb⟩
  have HB := Lib.hid (And.intro hv hb); clear hv hb
  go_wp2_with fail
  go_ret
  exact ⟨_, rfl, HB.out.1, HB1.out.trans (HB.out.2.mono HB1.out.size)⟩
set_option maxRecDepth 100000 in
set_option maxHeartbeats 4000000 in
theorem binop_bb (f3 f5 f6 f7 f8 : Nat) (Q : World → Value → Prop) (m n : Int) (L : Nat) (hB : ∀ gx gy w, IntAt w gx m L → IntAt w gy n L → Calls Tryz.prog 67 #[.pointer (some ⟨gx, 0, none⟩), .pointer (some ⟨gy, 0, none⟩)] w (Gives Q w)) (g k : Nat) (w : World) (hg : IntAt w g m L) (hk : IntAt w k n L) :
    Calls Tryz.prog 63 #[.iface 62 (.pointer (some ⟨g, 0, none⟩)), .iface 62 (.pointer (some ⟨k, 0, none⟩)), Value.func (Fn.func 64) #[] #[], Value.func (Fn.func f3) #[] #[], Value.func (Fn.func 67) #[] #[], Value.func (Fn.func f5) #[] #[], Value.func (Fn.func f6) #[] #[], Value.func (Fn.func f7) #[] #[], Value.func (Fn.func f8) #[] #[]] w (Gives Q w) := by
  have HC := Lib.hid hB
  clear hB
  have a0_no124_62 := fun w => no124_62 (.pointer (some ⟨g, 0, none⟩)) w
  have a0_no3 := fun w => no3 (.pointer (some ⟨g, 0, none⟩)) w
  have a0_no68_62 := fun w => no68_62 (.pointer (some ⟨g, 0, none⟩)) w
  have a0_is62 := fun w => is62 (.pointer (some ⟨g, 0, none⟩)) w
  have a1_no124_62 := fun w => no124_62 (.pointer (some ⟨k, 0, none⟩)) w
  have a1_no3 := fun w => no3 (.pointer (some ⟨k, 0, none⟩)) w
  have a1_no68_62 := fun w => no68_62 (.pointer (some ⟨k, 0, none⟩)) w
  have a1_is62 := fun w => is62 (.pointer (some ⟨k, 0, none⟩)) w
  have HX := Lib.hid hg
  have HY := Lib.hid hk
  clear hg hk
  go_enter Tryz.func63, Tryz.ntmps63
  go_wp2_with fail
  refine (HC.out _ _ _ HX.out HY.out).mono ?_
  rintro e w2 ⟨v, rfl, hv, hb⟩
  have HB := Lib.hid (And.intro hv hb); clear hv hb
  go_wp2_with fail
  go_ret
  exact ⟨_, rfl, HB.out.1, HB.out.2⟩
theorem binop_any (f3 f5 f6 f7 f8 : Nat) (Q : World → Value → Prop) (m n : Int) (L : Nat) (hI : -9223372036854775808 ≤ m → m ≤ 9223372036854775807 → -9223372036854775808 ≤ n → n ≤ 9223372036854775807 → ∀ w, Calls Tryz.prog 64 #[.int .i64 m, .int .i64 n] w (Gives Q w)) (hB : ∀ gx gy w, IntAt w gx m L → IntAt w gy n L → Calls Tryz.prog 67 #[.pointer (some ⟨gx, 0, none⟩), .pointer (some ⟨gy, 0, none⟩)] w (Gives Q w)) (va vb : Value) (w : World) (ha : GoN w m L va) (hb : GoN w n L vb) (hL : 2 ≤ L) :
    Calls Tryz.prog 63 #[va, vb, Value.func (Fn.func 64) #[] #[], Value.func (Fn.func f3) #[] #[], Value.func (Fn.func 67) #[] #[], Value.func (Fn.func f5) #[] #[], Value.func (Fn.func f6) #[] #[], Value.func (Fn.func f7) #[] #[], Value.func (Fn.func f8) #[] #[]] w (Gives Q w) := by
  rcases ha with ⟨rfl, a0, a1⟩ | ⟨g, rfl, ha⟩
  · rcases hb with ⟨rfl, b0, b1⟩ | ⟨k, rfl, hb⟩
    · exact binop_ii f3 f5 f6 f7 f8 Q m n (hI a0 a1 b0 b1) w
    · exact binop_ib f3 f5 f6 f7 f8 Q m n L hB k w a0 a1 hb hL
  · rcases hb with ⟨rfl, b0, b1⟩ | ⟨k, rfl, hb⟩
    · exact binop_bi f3 f5 f6 f7 f8 Q m n L hB g w b0 b1 ha hL
    · exact binop_bb f3 f5 f6 f7 f8 Q m n L hB g k w ha hb
end Go.Proofs.YtaiidipcmnejoaaGreatDoor.OpCmpW

namespace Go.Proofs.YtaiidipcmnejoaaGreatDoor.OpCmpW
open Go.RowKit Go.Lib Go.Proofs.YtaiidipcmnejoaaGreatDoorW.PrintWords Go.Proofs.YtaiidipcmnejoaaGreatDoorW.PrintLast Go.Proofs.YtaiidipcmnejoaaGreatDoorW.PrintMore
open Go.Proofs.YtaiidipcmnejoaaGreatDoor.Nt Go.Proofs.YtaiidipcmnejoaaGreatDoor.Dec Go.Proofs.YtaiidipcmnejoaaGreatDoor.IntW Go.Proofs.YtaiidipcmnejoaaGreatDoor.NumW Go.Proofs.YtaiidipcmnejoaaGreatDoor.NumV
open Go.Proofs.YtaiidipcmnejoaaGreatDoor.Spec (S S_list S_toList S_size S_of S_ext)
theorem isNaN_any (x : Int) (w : World) : Calls Tryz.prog 127 #[.int .i64 x] w fun e w' => e = .returned (.bool false) ∧ w' = w := by
  have f1 : (x != x) = false := by simp
  go_enter Tryz.func127, Tryz.ntmps127
  go_wp2_with fail
  go_ret
  exact ⟨rfl, rfl⟩
theorem cmpInt_any (m n : Int) (w : World) : Calls Tryz.prog 64 #[.int .i64 m, .int .i64 n] w (Gives (fun _ v => v = .int .i64 (cmpI m n)) w) := by
  have HN := Lib.hid (fun x w => isNaN_any x w)
  have hb := cmpI_bounds m n
  by_cases h : m < n
  · have f1 : decide (m < n) = true := decide_eq_true h
    have H := Lib.hid (show cmpI m n = -1 by omega)
    clear h hb
    go_enter Tryz.func64, Tryz.ntmps64
    go_wp2_with fail
    refine (HN.out _ _).mono ?_
    rintro e w1 ⟨rfl, rfl⟩
    go_wp2_with fail
    refine (HN.out _ _).mono ?_
    rintro e w1 ⟨rfl, rfl⟩
    go_wp2_with fail
    go_ret
    exact ⟨_, rfl, congrArg (Value.int .i64) H.out.symm, Below.refl _ _⟩
  · by_cases h2 : n < m
    · have f1 : decide (m < n) = false := decide_eq_false h
      have f2 : decide (n < m) = true := decide_eq_true h2
      have H := Lib.hid (show cmpI m n = 1 by omega)
      clear h h2 hb
      go_enter Tryz.func64, Tryz.ntmps64
      go_wp2_with fail
      refine (HN.out _ _).mono ?_
      rintro e w1 ⟨rfl, rfl⟩
      go_wp2_with fail
      refine (HN.out _ _).mono ?_
      rintro e w1 ⟨rfl, rfl⟩
      go_wp2_with fail
      go_ret
      exact ⟨_, rfl, congrArg (Value.int .i64) H.out.symm, Below.refl _ _⟩
    · have f1 : decide (m < n) = false := decide_eq_false h
      have f2 : decide (n < m) = false := decide_eq_false h2
      have H := Lib.hid (show cmpI m n = 0 by omega)
      clear h h2 hb
      go_enter Tryz.func64, Tryz.ntmps64
      go_wp2_with fail
      refine (HN.out _ _).mono ?_
      rintro e w1 ⟨rfl, rfl⟩
      go_wp2_with fail
      refine (HN.out _ _).mono ?_
      rintro e w1 ⟨rfl, rfl⟩
      go_wp2_with fail
      go_ret
      exact ⟨_, rfl, congrArg (Value.int .i64) H.out.symm, Below.refl _ _⟩
theorem compare_any (m n : Int) (L : Nat) (h2 : 2 ≤ L) (hL : L ≤ 100000) (va vb : Value) (w : World) (ha : GoN w m L va) (hb : GoN w n L vb) :
    Calls Tryz.prog 46 #[va, vb] w fun e w' => e = .returned (.int .i64 (cmpI m n)) ∧ Below w.heap.size w w' := by
  have HC := Lib.hid (OpCmpW.binop_any 65 68 69 70 72 (fun _ v => v = .int .i64 (cmpI m n)) m n L (fun _ _ _ _ w => cmpInt_any m n w) (fun gx gy w hx hy => (cmp_any gx gy m n L w hx hy hL).mono (fun e w' ⟨h1, h2⟩ => ⟨_, h1, rfl, h2⟩)) va vb w ha hb h2)
  clear h2 hL ha hb
  go_enter Tryz.func46, Tryz.ntmps46
  go_wp2_with fail
  refine HC.out.mono ?_
  rintro e w1 ⟨v, rfl, rfl, hb⟩
  have HB := Lib.hid hb; clear hb
  go_wp2_with fail
  go_ret
  exact ⟨rfl, HB.out⟩
theorem bigCompare (m n : Int) (a b : ByteArray) (ha : a = S (itoa m)) (hb : b = S (itoa n)) (hm : (itoa m).length ≤ 80000) (hn : (itoa n).length ≤ 80000) (w : World) (hE : Env w) :
    Calls Tryz.prog 24 #[.string a, .string b] w fun e w' => e = .returned (.int .i64 (cmpI m n)) ∧ Below w.heap.size w w' := by
  obtain ⟨L, h2, hL, hml, hnl⟩ : ∃ L, 2 ≤ L ∧ L ≤ 80000 ∧ (itoa m).length ≤ L ∧ (itoa n).length ≤ L := ⟨80000, by omega, by omega, by omega, by omega⟩
  have HA := Lib.hid (fun w (hE : Env w) => (toGo_any m a ha (by omega) w hE).mono (fun e w' ⟨v, h1, h2, h3⟩ => (⟨v, h1, h2.mono hml, h3⟩ : ∃ v, e = Ending.returned (.tuple #[v, .bool true]) ∧ GoN w' m L v ∧ Below w.heap.size w w')))
  have HB := Lib.hid (fun w (hE : Env w) => (toGo_any n b hb (by omega) w hE).mono (fun e w' ⟨v, h1, h2, h3⟩ => (⟨v, h1, h2.mono hnl, h3⟩ : ∃ v, e = Ending.returned (.tuple #[v, .bool true]) ∧ GoN w' n L v ∧ Below w.heap.size w w')))
  have HO := Lib.hid (fun va vb w ha hb => compare_any m n L h2 (by omega) va vb w ha hb)
  have HE := Lib.hid hE
  clear h2 hL hml hnl ha hb hm hn hE
  go_enter Tryz.func24, Tryz.ntmps24
  go_wp2_with fail
  refine (HA.out w HE.out).mono ?_
  rintro e w1 ⟨va, rfl, hv, hb⟩
  have H1 : Hid (Below w.heap.size w w1 ∧ Env w1 ∧ GoN w1 m L va) := Lib.hid ⟨hb, HE.out.below hb, hv⟩
  clear hv hb
  go_wp2_with fail
  refine (HB.out w1 H1.out.2.1).mono ?_
  rintro e w2 ⟨vb, rfl, hv, hb⟩
  have H2 : Hid (Below w.heap.size w w2 ∧ GoN w2 m L va ∧ GoN w2 n L vb) := Lib.hid ⟨H1.out.1.trans (hb.mono H1.out.1.size), H1.out.2.2.below hb, hv⟩
  clear hv hb
  go_wp2_with fail
  refine (HO.out va vb w2 H2.out.2.1 H2.out.2.2).mono ?_
  rintro e w3 ⟨rfl, hb⟩
  have H3 := Lib.hid (H2.out.1.trans (hb.mono H2.out.1.size)); clear hb
  go_wp2_with fail
  go_ret
  exact ⟨rfl, H3.out⟩
end Go.Proofs.YtaiidipcmnejoaaGreatDoor.OpCmpW
