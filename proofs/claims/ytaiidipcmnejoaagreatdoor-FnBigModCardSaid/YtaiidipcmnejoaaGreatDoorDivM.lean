/- The walk of nat.div: what it returns is what the function of lists says. -/
import Derived.Test.YtaiidipcmnejoaaGreatDoorPdivx0
import Derived.Test.YtaiidipcmnejoaaGreatDoorPdivx1
import Derived.Test.YtaiidipcmnejoaaGreatDoorShM
import Derived.Test.YtaiidipcmnejoaaGreatDoorDivE
namespace Go.Proofs.YtaiidipcmnejoaaGreatDoor.Pdiv
open Go.RowKit Go.Proofs.YtaiidipcmnejoaaGreatDoorW.PrintWords Go.Proofs.YtaiidipcmnejoaaGreatDoorW.PrintLast Go.Proofs.YtaiidipcmnejoaaGreatDoorW.PrintMore
attribute [local go_sem] max2_int min2_int max_two min_two max_three min_three max_four min_four   -- for this text's walks alone
set_option linter.unusedVariables false
set_option linter.unusedSimpArgs false

/-! ### smallbig_nat_div: function 155 -/
def smallbig_nat_div.T9 : Bool × List (List Nat × List Nat) := (true, [([], []), ([], []), ([0, 1], [0, 1]), ([], []), ([3], [3]), ([4], [4]), ([5, 5], [5]), ([2, 2, 0, 1, 2], [2]), ([6, 7, 0, 1, 2, 3, 4, 5, 6, 7], [6])])
def smallbig_nat_div.B9 : List Nat := [0, 0, 3, 0, 8, 24, 56, 7, 255]
theorem smallbig_nat_div.tab9 : rtab .any (opsOf Tryz.f155 9) = smallbig_nat_div.T9 := by kernel_rfl
theorem smallbig_nat_div.bits9 : waitsOk smallbig_nat_div.T9.2 smallbig_nat_div.B9 = true := by kernel_rfl
def smallbig_nat_div.T16 : Bool × List (List Nat × List Nat) := (true, [([], []), ([], []), ([], []), ([1, 2], [1, 2]), ([0, 3], [0, 3]), ([4], [4]), ([5], [5]), ([6], [6]), ([], []), ([], []), ([], []), ([9, 10], [9, 10]), ([11], [11]), ([8, 12], [8, 12]), ([13], [13]), ([14], [14]), ([7, 15], [7, 15]), ([16, 0, 1, 2, 3, 4, 5, 6, 7, 8, 9, 10, 11, 12, 13, 14, 15, 16], [16])])
def smallbig_nat_div.B16 : List Nat := [0, 0, 0, 6, 15, 31, 63, 127, 0, 0, 0, 1536, 3584, 7936, 16128, 32512, 65535, 131071]
theorem smallbig_nat_div.tab16 : rtab .any (opsOf Tryz.f155 16) = smallbig_nat_div.T16 := by kernel_rfl
theorem smallbig_nat_div.bits16 : waitsOk smallbig_nat_div.T16.2 smallbig_nat_div.B16 = true := by kernel_rfl
def smallbig_nat_div.T17 : Bool × List (List Nat × List Nat) := (true, [([], []), ([], []), ([], []), ([2], [2]), ([1, 3], [1, 3]), ([4], [4]), ([5], [5]), ([0, 6], [0, 6]), ([], []), ([], []), ([], []), ([10], [10]), ([9, 11], [9, 11]), ([12], [12]), ([13], [13]), ([8, 14], [8, 14]), ([7, 0, 1, 2, 3, 4, 5, 6, 7], [7]), ([15, 16, 0, 1, 2, 3, 4, 5, 6, 7, 8, 9, 10, 11, 12, 13, 14, 15, 16], [15])])
def smallbig_nat_div.B17 : List Nat := [0, 0, 0, 4, 14, 30, 62, 127, 0, 0, 0, 1024, 3584, 7680, 15872, 32512, 255, 131071]
theorem smallbig_nat_div.tab17 : rtab .any (opsOf Tryz.f155 17) = smallbig_nat_div.T17 := by kernel_rfl
theorem smallbig_nat_div.bits17 : waitsOk smallbig_nat_div.T17.2 smallbig_nat_div.B17 = true := by kernel_rfl
def smallbig_nat_div.T18 : Bool × List (List Nat × List Nat) := (true, [([], []), ([0], [0]), ([1], [1]), ([2], [2]), ([3], [3]), ([3], [3]), ([3], [3]), ([6, 3], [3, 6]), ([5, 7, 3], [3, 5, 7]), ([8, 3], [3, 8]), ([9, 3], [3, 9]), ([4, 10, 3], [3, 4, 10]), ([3], [3]), ([12, 3], [3, 12]), ([3], [3]), ([3], [3]), ([3], [3]), ([15, 16, 3], [3, 15, 16]), ([17, 3], [3, 17]), ([14, 18, 3], [3, 14, 18]), ([19, 3], [3, 19]), ([20, 3], [3, 20]), ([13, 21, 3], [3, 13, 21]), ([11, 22, 3], [3, 11, 22]), ([3, 23], [3, 23])])
def smallbig_nat_div.B18 : List Nat := [0, 1, 3, 7, 15, 15, 15, 79, 239, 495, 1007, 2047, 15, 4111, 15, 15, 15, 98319, 229391, 507919, 1032207, 2080783, 4190223, 8388607, 16777215]
theorem smallbig_nat_div.tab18 : rtab .any (opsOf Tryz.f155 18) = smallbig_nat_div.T18 := by kernel_rfl
theorem smallbig_nat_div.bits18 : waitsOk smallbig_nat_div.T18.2 smallbig_nat_div.B18 = true := by kernel_rfl
def smallbig_nat_div.T38 : Bool × List (List Nat × List Nat) := (true, [([], []), ([], []), ([], []), ([], []), ([2, 3], [2, 3]), ([1, 4], [1, 4]), ([5], [5]), ([6], [6]), ([], []), ([], []), ([8, 9], [8, 9]), ([10], [10]), ([11], [11]), ([7, 12], [7, 12]), ([0, 13], [0, 13]), ([14, 0, 1, 2, 3, 4, 5, 6, 7, 8, 9, 10, 11, 12, 13, 14], [0, 14])])
def smallbig_nat_div.B38 : List Nat := [0, 0, 0, 0, 12, 30, 62, 126, 0, 0, 768, 1792, 3840, 8190, 16383, 32767]
theorem smallbig_nat_div.tab38 : rtab .any (opsOf Tryz.f155 38) = smallbig_nat_div.T38 := by kernel_rfl
theorem smallbig_nat_div.bits38 : waitsOk smallbig_nat_div.T38.2 smallbig_nat_div.B38 = true := by kernel_rfl
set_option maxHeartbeats 0 in
set_option maxRecDepth 100000 in
theorem smallbig_nat_div.calls (k : Nat) (A0 : Option Addr) (c0 : Nat) (l0 : List Int) (A1 : Option Addr) (c1 : Nat) (l1 : List Int) (r1 : List Int) (r2 : List Int) (w : World) (hr0 : Kd.C (Kd.int .u32) w A0 l0.length l0) (hc0 : l0.length ≤ c0) (hr1 : Kd.C (Kd.int .u32) w A1 l1.length l1) (hc1 : l1.length ≤ c1) (h : smallbig_nat_div.f k l0 l1 = some (r1, r2)) :
  Calls Tryz.prog 155 #[.slice A0 l0.length c0, .slice A1 l1.length c1] w fun e w' => ∃ v0_ v1_ : Value, e = .returned (.tuple #[v0_, v1_]) ∧ Kd.V (Kd.int .u32) 175 w' w.heap.size (fun k_ => (w.heap.size ≤ k_)) v0_ r1 ∧ Kd.V (Kd.int .u32) 175 w' w.heap.size (fun k_ => (w.heap.size ≤ k_)) v1_ r2 ∧ Below w.heap.size w w' := by
 have HR0 := Aside0.mk hr0
 have HC0 := Aside0.mk hc0
 clear hr0 hc0
 have HR1 := Aside0.mk hr1
 have HC1 := Aside0.mk hc1
 clear hr1 hc1
 have HB := Aside0.mk (Below.refl w.heap.size w)
 have H : (if (l1.length : Int) = 0 then (none) else ((smallbig_nat_cmp.f k l0 l1).bind fun t147 => (if t147 < 0 then (none) else (if (l1.length : Int) = 1 then (if 0 < (l1.length : Int) then ((smallbig_nat_divW.f k l0 (rd l1 0)).bind fun bt149 => ((smallbig_natOf.f k (IntKind.u64.wrap (bt149.2))).bind fun t153 => (some (bt149.1, t153)))) else (none)) else ((smallbig_nat_bitLen.f k l1).bind fun t156 => ((smallbig_nat_lsh.f k l1 (IntKind.u64.wrap (wrap64 ((wrap64 (32 * (l1.length : Int))) - t156)))).bind fun t157 => (if 0 ≤ (wrap64 ((l0.length : Int) + 1)) then (if (wrap64 ((l0.length : Int) + 1) : Int).toNat ≤ 70368744177664 then ((some (List.replicate (wrap64 ((l0.length : Int) + 1) : Int).toNat 0 : List Int)).bind fun y160 => ((smallbig_nat_lsh.f k l0 (IntKind.u64.wrap (wrap64 ((wrap64 (32 * (l1.length : Int))) - t156)))).bind fun t163 => (if 0 ≤ (wrap64 ((wrap64 ((l0.length : Int) - (t157.length : Int))) + 1)) then (if (wrap64 ((wrap64 ((l0.length : Int) - (t157.length : Int))) + 1) : Int).toNat ≤ 70368744177664 then (smallbig_nat_div.l0 k (List.replicate (wrap64 ((wrap64 ((l0.length : Int) - (t157.length : Int))) + 1) : Int).toNat 0) (IntKind.u64.wrap (wrap64 ((wrap64 (32 * (l1.length : Int))) - t156))) t157 (t163.take (min t163.length y160.length) ++ y160.drop (min t163.length y160.length)) (t157.length : Int) (wrap64 ((l0.length : Int) - (t157.length : Int)))) else (none)) else (none)))) else (none)) else (none)))))))) = some (r1, r2) := h
 clear h
 by_cases c3 : (l1.length : Int) = 0
 ·
  rw [if_pos c3] at H
  exact absurd H (by simp)
 ·
  rw [if_neg c3] at H
  have c3b0 : ((l1.length : Int) == 0) = false := beq_eq_false_iff_ne.mpr c3
  have c3b1 : ((l1.length : Int) != 0) = true := bne_iff_ne.mpr c3
  have c3b2 : ¬ (l1 = []) := fun h_ => c3 (by rw [h_]; rfl)
  replace H := Option.bind_eq_some_iff.mp H
  obtain ⟨t147, A40, H⟩ := H
  replace H : (if t147 < 0 then (none) else (if (l1.length : Int) = 1 then (if 0 < (l1.length : Int) then ((smallbig_nat_divW.f k l0 (rd l1 0)).bind fun bt149 => ((smallbig_natOf.f k (IntKind.u64.wrap (bt149.2))).bind fun t153 => (some (bt149.1, t153)))) else (none)) else ((smallbig_nat_bitLen.f k l1).bind fun t156 => ((smallbig_nat_lsh.f k l1 (IntKind.u64.wrap (wrap64 ((wrap64 (32 * (l1.length : Int))) - t156)))).bind fun t157 => (if 0 ≤ (wrap64 ((l0.length : Int) + 1)) then (if (wrap64 ((l0.length : Int) + 1) : Int).toNat ≤ 70368744177664 then ((some (List.replicate (wrap64 ((l0.length : Int) + 1) : Int).toNat 0 : List Int)).bind fun y160 => ((smallbig_nat_lsh.f k l0 (IntKind.u64.wrap (wrap64 ((wrap64 (32 * (l1.length : Int))) - t156)))).bind fun t163 => (if 0 ≤ (wrap64 ((wrap64 ((l0.length : Int) - (t157.length : Int))) + 1)) then (if (wrap64 ((wrap64 ((l0.length : Int) - (t157.length : Int))) + 1) : Int).toNat ≤ 70368744177664 then (smallbig_nat_div.l0 k (List.replicate (wrap64 ((wrap64 ((l0.length : Int) - (t157.length : Int))) + 1) : Int).toNat 0) (IntKind.u64.wrap (wrap64 ((wrap64 (32 * (l1.length : Int))) - t156))) t157 (t163.take (min t163.length y160.length) ++ y160.drop (min t163.length y160.length)) (t157.length : Int) (wrap64 ((l0.length : Int) - (t157.length : Int)))) else (none)) else (none)))) else (none)) else (none)))))) = some (r1, r2) := H
  have A4 := Aside0.mk A40
  clear A40
  by_cases c5 : t147 < 0
  ·
   rw [if_pos c5] at H
   exact absurd H (by simp)
  ·
   rw [if_neg c5] at H
   have c5b0 : decide (t147 < 0) = false := decide_eq_false c5
   clear c5
   by_cases c6 : (l1.length : Int) = 1
   ·
    rw [if_pos c6] at H
    have c6b0 : ((l1.length : Int) == 1) = true := beq_iff_eq.mpr c6
    have c6b1 : ((l1.length : Int) != 1) = false := bne_eq_false_iff_eq.mpr c6
    clear c6
    by_cases c7 : 0 < (l1.length : Int)
    ·
     rw [if_pos c7] at H
     have c7b0 : decide (0 < (l1.length : Int)) = true := decide_eq_true c7
     have c7b1 : decide (0 < l1.length) = true := decide_eq_true (by omega)
     clear c7
     replace H := Option.bind_eq_some_iff.mp H
     obtain ⟨⟨t149, t152⟩, A80, H⟩ := H
     replace H : ((smallbig_natOf.f k (IntKind.u64.wrap (t152))).bind fun t153 => (some (t149, t153))) = some (r1, r2) := H
     have A8 := Aside0.mk A80
     clear A80
     replace H := Option.bind_eq_some_iff.mp H
     obtain ⟨t153, A90, H⟩ := H
     replace H : (some (t149, t153)) = some (r1, r2) := H
     have A9 := Aside0.mk A90
     clear A90
     simp only [Option.some.injEq, Prod.mk.injEq] at H
     obtain ⟨rfl, rfl⟩ := H
     go_enter Tryz.func155, Tryz.ntmps155
     go_wp2_with (first | ((with_reducible refine gate_callee (f := 128) rfl ?_); refine goesL_ (some 28) rfl rfl Tryz.func128 (by kernel_rfl) rfl #[.slice A0 l0.length c0, .slice A1 l1.length c1] rfl (by (try simp only [List.map_toArray, List.map_cons, List.map_nil]); first | done | rfl | (simp only [List.length_drop, List.length_take]; rfl)) ?_; (with_reducible refine (smallbig_nat_cmp.calls k _ _ l0 _ _ l1 t147 _ ?side1 ?side2 ?side3 ?side4 A4.out).mono ?_); (case side1 => repeat (first | exact HR0.out | (with_reducible refine Kd.C_alloc ?_ _) | (with_reducible refine Kd.C_drewN ?_ _) | (with_reducible refine Kd.C_drew ?_))); (case side2 => exact HC0.out); (case side3 => repeat (first | exact HR1.out | (with_reducible refine Kd.C_alloc ?_ _) | (with_reducible refine Kd.C_drewN ?_ _) | (with_reducible refine Kd.C_drew ?_))); (case side4 => exact HC1.out); rintro e w' ⟨rfl, ⟨nd, rfl⟩⟩; refine ⟨_, rfl, ?_⟩; have p148 : 0 ≤ (0 : Int) := (by omega); have q148 : 0 < (l1.length : Int) := of_decide_eq_true (by first | (with_reducible assumption) | assumption); obtain ⟨ad148, e148, hx148_0⟩ := Kd.at_int HR1.out 0 p148 q148; cases e148; have qi148 : (0 < l1.length) = True := eq_true (by omega); (try rw [show ((0 : Int)).toNat = 0 from rfl] at hx148_0); (try rw [Addr.add_zero'] at hx148_0); replace p148 := eq_true p148; replace q148 := eq_true q148) | ((with_reducible refine gate_callee (f := 187) rfl ?_); refine goesL_ (some 39) rfl rfl Tryz.func187 (by kernel_rfl) rfl #[.slice A0 l0.length c0, .int .u32 (rd l1 0)] rfl (by (try simp only [List.map_toArray, List.map_cons, List.map_nil]); first | done | rfl | (simp only [List.length_drop, List.length_take]; rfl)) ?_; (with_reducible refine (smallbig_nat_divW.calls k _ _ l0 (rd l1 0) t149 t152 _ ?side1 ?side2 A8.out).mono ?_); (case side1 => repeat (first | exact HR0.out | (with_reducible refine Kd.C_alloc ?_ _) | (with_reducible refine Kd.C_drewN ?_ _) | (with_reducible refine Kd.C_drew ?_))); (case side2 => exact HC0.out); rintro e w10 ⟨v150, rfl, ho0, hb⟩; refine ⟨_, rfl, ?_⟩; have n0_ := Aside0.mk (Kd.V_lower (Kd.V_mono (ok' := fun k_ => (w.heap.size ≤ k_)) ho0 (fun k_ hk_ => (Nat.le_trans (below_size (by repeat (first | (with_reducible first | exact HB.out | apply below_alloc | apply pw_below_drewN | apply below_drew1) | exact HB.out))) hk_))) (below_size (by repeat (first | (with_reducible first | exact HB.out | apply below_alloc | apply pw_below_drewN | apply below_drew1) | exact HB.out)))); have n1_ := Aside0.mk (below_step (by repeat (first | (with_reducible first | exact HB.out | apply below_alloc | apply pw_below_drewN | apply below_drew1) | exact HB.out)) hb); clear HB; have HO151 := n0_; have HB := n1_; clear n0_ n1_; (try clear hb); (try clear hb2); (try clear hk); (try clear hi); (try clear ho0)) | ((with_reducible refine gate_callee (f := 188) rfl ?_); refine goesL_ (some 45) rfl rfl Tryz.func188 (by kernel_rfl) rfl #[.int .u64 (IntKind.u64.wrap (t152))] rfl (by (try simp only [List.map_toArray, List.map_cons, List.map_nil]); first | done | rfl | (simp only [List.length_drop, List.length_take]; rfl)) ?_; (with_reducible refine (smallbig_natOf.calls k (IntKind.u64.wrap (t152)) t153 _ A9.out).mono ?_); rintro e w11 ⟨v154, rfl, ho0, hb⟩; refine ⟨_, rfl, ?_⟩; have n0_ := Aside0.mk (Kd.V_below (by (with_reducible repeat (first | apply Kd.V_alloc | apply Kd.V_drewN | apply Kd.V_drew)); exact HO151.out) hb); have n1_ := Aside0.mk (Kd.V_lower (Kd.V_mono (ok' := fun k_ => (w.heap.size ≤ k_)) ho0 (fun k_ hk_ => (Nat.le_trans (below_size (by repeat (first | (with_reducible first | exact HB.out | apply below_alloc | apply pw_below_drewN | apply below_drew1) | exact HB.out))) hk_))) (below_size (by repeat (first | (with_reducible first | exact HB.out | apply below_alloc | apply pw_below_drewN | apply below_drew1) | exact HB.out)))); have n2_ := Aside0.mk (below_step (by repeat (first | (with_reducible first | exact HB.out | apply below_alloc | apply pw_below_drewN | apply below_drew1) | exact HB.out)) hb); clear HO151; clear HB; have HO151 := n0_; have HO155 := n1_; have HB := n2_; clear n0_ n1_ n2_; (try clear hb); (try clear hb2); (try clear hk); (try clear hi); (try clear ho0)))
     go_ret2
     exact ⟨_, _, by first | rfl | (simp [errW_none, errW_some] <;> rfl) | (simp [*, errW_none, errW_some] <;> rfl), by (with_reducible repeat (first | apply Kd.V_alloc | apply Kd.V_drewN | apply Kd.V_drew)); exact HO151.out, by (with_reducible repeat (first | apply Kd.V_alloc | apply Kd.V_drewN | apply Kd.V_drew)); exact HO155.out, by repeat (first | (with_reducible first | exact HB.out | apply below_alloc | apply pw_below_drewN | apply below_drew1) | exact HB.out)⟩
    ·
     rw [if_neg c7] at H
     exact absurd H (by simp)
   ·
    rw [if_neg c6] at H
    have c6b0 : ((l1.length : Int) == 1) = false := beq_eq_false_iff_ne.mpr c6
    have c6b1 : ((l1.length : Int) != 1) = true := bne_iff_ne.mpr c6
    replace H := Option.bind_eq_some_iff.mp H
    obtain ⟨t156, A120, H⟩ := H
    replace H : ((smallbig_nat_lsh.f k l1 (IntKind.u64.wrap (wrap64 ((wrap64 (32 * (l1.length : Int))) - t156)))).bind fun t157 => (if 0 ≤ (wrap64 ((l0.length : Int) + 1)) then (if (wrap64 ((l0.length : Int) + 1) : Int).toNat ≤ 70368744177664 then ((some (List.replicate (wrap64 ((l0.length : Int) + 1) : Int).toNat 0 : List Int)).bind fun y160 => ((smallbig_nat_lsh.f k l0 (IntKind.u64.wrap (wrap64 ((wrap64 (32 * (l1.length : Int))) - t156)))).bind fun t163 => (if 0 ≤ (wrap64 ((wrap64 ((l0.length : Int) - (t157.length : Int))) + 1)) then (if (wrap64 ((wrap64 ((l0.length : Int) - (t157.length : Int))) + 1) : Int).toNat ≤ 70368744177664 then (smallbig_nat_div.l0 k (List.replicate (wrap64 ((wrap64 ((l0.length : Int) - (t157.length : Int))) + 1) : Int).toNat 0) (IntKind.u64.wrap (wrap64 ((wrap64 (32 * (l1.length : Int))) - t156))) t157 (t163.take (min t163.length y160.length) ++ y160.drop (min t163.length y160.length)) (t157.length : Int) (wrap64 ((l0.length : Int) - (t157.length : Int)))) else (none)) else (none)))) else (none)) else (none))) = some (r1, r2) := H
    have A12 := Aside0.mk A120
    clear A120
    replace H := Option.bind_eq_some_iff.mp H
    obtain ⟨t157, A130, H⟩ := H
    replace H : (if 0 ≤ (wrap64 ((l0.length : Int) + 1)) then (if (wrap64 ((l0.length : Int) + 1) : Int).toNat ≤ 70368744177664 then ((some (List.replicate (wrap64 ((l0.length : Int) + 1) : Int).toNat 0 : List Int)).bind fun y160 => ((smallbig_nat_lsh.f k l0 (IntKind.u64.wrap (wrap64 ((wrap64 (32 * (l1.length : Int))) - t156)))).bind fun t163 => (if 0 ≤ (wrap64 ((wrap64 ((l0.length : Int) - (t157.length : Int))) + 1)) then (if (wrap64 ((wrap64 ((l0.length : Int) - (t157.length : Int))) + 1) : Int).toNat ≤ 70368744177664 then (smallbig_nat_div.l0 k (List.replicate (wrap64 ((wrap64 ((l0.length : Int) - (t157.length : Int))) + 1) : Int).toNat 0) (IntKind.u64.wrap (wrap64 ((wrap64 (32 * (l1.length : Int))) - t156))) t157 (t163.take (min t163.length y160.length) ++ y160.drop (min t163.length y160.length)) (t157.length : Int) (wrap64 ((l0.length : Int) - (t157.length : Int)))) else (none)) else (none)))) else (none)) else (none)) = some (r1, r2) := H
    have A13 := Aside0.mk A130
    clear A130
    obtain ⟨ji14, hji14⟩ : ∃ j_ : Int, (wrap64 ((l0.length : Int) + 1)) = j_ := ⟨_, rfl⟩
    replace H : (if 0 ≤ (ji14) then (if (ji14 : Int).toNat ≤ 70368744177664 then ((some (List.replicate (ji14 : Int).toNat 0 : List Int)).bind fun y160 => ((smallbig_nat_lsh.f k l0 (IntKind.u64.wrap (wrap64 ((wrap64 (32 * (l1.length : Int))) - t156)))).bind fun t163 => (if 0 ≤ (wrap64 ((wrap64 ((l0.length : Int) - (t157.length : Int))) + 1)) then (if (wrap64 ((wrap64 ((l0.length : Int) - (t157.length : Int))) + 1) : Int).toNat ≤ 70368744177664 then (smallbig_nat_div.l0 k (List.replicate (wrap64 ((wrap64 ((l0.length : Int) - (t157.length : Int))) + 1) : Int).toNat 0) (IntKind.u64.wrap (wrap64 ((wrap64 (32 * (l1.length : Int))) - t156))) t157 (t163.take (min t163.length y160.length) ++ y160.drop (min t163.length y160.length)) (t157.length : Int) (wrap64 ((l0.length : Int) - (t157.length : Int)))) else (none)) else (none)))) else (none)) else (none)) = some (r1, r2) := by first | (rw [hji14] at H; exact H) | (simp only [hji14] at H ⊢; exact H)
    (try rw [hji14] at A4)
    (try rw [hji14] at A12)
    (try rw [hji14] at A13)
    have hji14w : (IntKind.i64.wrap ((l0.length : Int) + 1)) = ji14 := (i64_w _).trans hji14
    by_cases c15 : 0 ≤ (ji14)
    ·
     rw [if_pos c15] at H
     have c15b0 := eq_true c15
     have c15b1 : decide (0 ≤ (ji14)) = true := decide_eq_true c15
     clear c15
     by_cases c16 : (ji14 : Int).toNat ≤ 70368744177664
     ·
      rw [if_pos c16] at H
      have c16b0 := eq_true c16
      have c16b1 : decide ((ji14 : Int).toNat ≤ 70368744177664) = true := decide_eq_true c16
      clear c16
      obtain ⟨y160, hy160⟩ : ∃ y_ : List Int, y_ = (List.replicate (ji14 : Int).toNat 0) := ⟨_, rfl⟩
      replace H : ((smallbig_nat_lsh.f k l0 (IntKind.u64.wrap (wrap64 ((wrap64 (32 * (l1.length : Int))) - t156)))).bind fun t163 => (if 0 ≤ (wrap64 ((wrap64 ((l0.length : Int) - (t157.length : Int))) + 1)) then (if (wrap64 ((wrap64 ((l0.length : Int) - (t157.length : Int))) + 1) : Int).toNat ≤ 70368744177664 then (smallbig_nat_div.l0 k (List.replicate (wrap64 ((wrap64 ((l0.length : Int) - (t157.length : Int))) + 1) : Int).toNat 0) (IntKind.u64.wrap (wrap64 ((wrap64 (32 * (l1.length : Int))) - t156))) t157 (t163.take (min t163.length y160.length) ++ y160.drop (min t163.length y160.length)) (t157.length : Int) (wrap64 ((l0.length : Int) - (t157.length : Int)))) else (none)) else (none))) = some (r1, r2) := by first | (rw [hy160]; with_reducible exact H) | (have H2_ := (Option.bind_some _ _).symm.trans H; rw [hy160]; with_reducible exact H2_) | (have H2_ := (Option.bind_some _ _).symm.trans H; with_reducible exact H2_) | with_reducible exact H | (rw [hy160]; exact H) | exact H
      have Ny160 := Aside0.mk hy160
      clear hy160
      replace H := Option.bind_eq_some_iff.mp H
      obtain ⟨t163, A170, H⟩ := H
      replace H : (if 0 ≤ (wrap64 ((wrap64 ((l0.length : Int) - (t157.length : Int))) + 1)) then (if (wrap64 ((wrap64 ((l0.length : Int) - (t157.length : Int))) + 1) : Int).toNat ≤ 70368744177664 then (smallbig_nat_div.l0 k (List.replicate (wrap64 ((wrap64 ((l0.length : Int) - (t157.length : Int))) + 1) : Int).toNat 0) (IntKind.u64.wrap (wrap64 ((wrap64 (32 * (l1.length : Int))) - t156))) t157 (t163.take (min t163.length y160.length) ++ y160.drop (min t163.length y160.length)) (t157.length : Int) (wrap64 ((l0.length : Int) - (t157.length : Int)))) else (none)) else (none)) = some (r1, r2) := H
      have A17 := Aside0.mk A170
      clear A170
      obtain ⟨y166, hy166⟩ : ∃ y_ : List Int, y_ = (t163.take (min t163.length y160.length) ++ y160.drop (min t163.length y160.length)) := ⟨_, rfl⟩
      replace H : (if 0 ≤ (wrap64 ((wrap64 ((l0.length : Int) - (t157.length : Int))) + 1)) then (if (wrap64 ((wrap64 ((l0.length : Int) - (t157.length : Int))) + 1) : Int).toNat ≤ 70368744177664 then (smallbig_nat_div.l0 k (List.replicate (wrap64 ((wrap64 ((l0.length : Int) - (t157.length : Int))) + 1) : Int).toNat 0) (IntKind.u64.wrap (wrap64 ((wrap64 (32 * (l1.length : Int))) - t156))) t157 y166 (t157.length : Int) (wrap64 ((l0.length : Int) - (t157.length : Int)))) else (none)) else (none)) = some (r1, r2) := by first | (rw [hy166]; with_reducible exact H) | (have H2_ := (Option.bind_some _ _).symm.trans H; rw [hy166]; with_reducible exact H2_) | (have H2_ := (Option.bind_some _ _).symm.trans H; with_reducible exact H2_) | with_reducible exact H | (rw [hy166]; exact H) | exact H
      have Ny166 := Aside0.mk hy166
      clear hy166
      obtain ⟨ji18, hji18⟩ : ∃ j_ : Int, (wrap64 ((wrap64 ((l0.length : Int) - (t157.length : Int))) + 1)) = j_ := ⟨_, rfl⟩
      replace H : (if 0 ≤ (ji18) then (if (ji18 : Int).toNat ≤ 70368744177664 then (smallbig_nat_div.l0 k (List.replicate (ji18 : Int).toNat 0) (IntKind.u64.wrap (wrap64 ((wrap64 (32 * (l1.length : Int))) - t156))) t157 y166 (t157.length : Int) (wrap64 ((l0.length : Int) - (t157.length : Int)))) else (none)) else (none)) = some (r1, r2) := by first | (rw [hji18] at H; exact H) | (simp only [hji18] at H ⊢; exact H)
      (try rw [hji18] at A4)
      (try rw [hji18] at A12)
      (try rw [hji18] at A13)
      (try rw [hji18] at A17)
      have hji18w : (IntKind.i64.wrap ((wrap64 ((l0.length : Int) - (t157.length : Int))) + 1)) = ji18 := (i64_w _).trans hji18
      by_cases c19 : 0 ≤ (ji18)
      ·
       rw [if_pos c19] at H
       have c19b0 := eq_true c19
       have c19b1 : decide (0 ≤ (ji18)) = true := decide_eq_true c19
       clear c19
       by_cases c20 : (ji18 : Int).toNat ≤ 70368744177664
       ·
        rw [if_pos c20] at H
        have c20b0 := eq_true c20
        have c20b1 : decide ((ji18 : Int).toNat ≤ 70368744177664) = true := decide_eq_true c20
        clear c20
        obtain ⟨y169, hy169⟩ : ∃ y_ : List Int, y_ = (List.replicate (ji18 : Int).toNat 0) := ⟨_, rfl⟩
        replace H : (smallbig_nat_div.l0 k y169 (IntKind.u64.wrap (wrap64 ((wrap64 (32 * (l1.length : Int))) - t156))) t157 y166 (t157.length : Int) (wrap64 ((l0.length : Int) - (t157.length : Int)))) = some (r1, r2) := by first | (rw [hy169]; with_reducible exact H) | (have H2_ := (Option.bind_some _ _).symm.trans H; rw [hy169]; with_reducible exact H2_) | (have H2_ := (Option.bind_some _ _).symm.trans H; with_reducible exact H2_) | with_reducible exact H | (rw [hy169]; exact H) | exact H
        have Ny169 := Aside0.mk hy169
        clear hy169
        have H' := Aside0.mk H
        clear H
        go_enter Tryz.func155, Tryz.ntmps155
        try go_wp2_with (first | ((with_reducible refine gate_callee (f := 128) rfl ?_); refine goesL_ (some 28) rfl rfl Tryz.func128 (by kernel_rfl) rfl #[.slice A0 l0.length c0, .slice A1 l1.length c1] rfl (by (try simp only [List.map_toArray, List.map_cons, List.map_nil]); first | done | rfl | (simp only [List.length_drop, List.length_take]; rfl)) ?_; (with_reducible refine (smallbig_nat_cmp.calls k _ _ l0 _ _ l1 t147 _ ?side1 ?side2 ?side3 ?side4 A4.out).mono ?_); (case side1 => repeat (first | exact HR0.out | (with_reducible refine Kd.C_alloc ?_ _) | (with_reducible refine Kd.C_drewN ?_ _) | (with_reducible refine Kd.C_drew ?_))); (case side2 => exact HC0.out); (case side3 => repeat (first | exact HR1.out | (with_reducible refine Kd.C_alloc ?_ _) | (with_reducible refine Kd.C_drewN ?_ _) | (with_reducible refine Kd.C_drew ?_))); (case side4 => exact HC1.out); rintro e wa ⟨rfl, hda⟩; refine ⟨_, rfl, ?_⟩; have n0_ := Aside0.mk (below_step HB.out hda.below); clear HB; have HB := n0_; clear n0_ hda) | ((with_reducible refine gate_callee (f := 191) rfl ?_); refine goesL_ (some 50) rfl rfl Tryz.func191 (by kernel_rfl) rfl #[.slice A1 l1.length c1] rfl (by (try simp only [List.map_toArray, List.map_cons, List.map_nil]); first | done | rfl | (simp only [List.length_drop, List.length_take]; rfl)) ?_; (with_reducible refine (smallbig_nat_bitLen.calls k _ _ l1 t156 _ ?side1 ?side2 A12.out).mono ?_); (case side1 => repeat (first | exact (Kd.C_below HR1.out HB.out) | (with_reducible refine Kd.C_alloc ?_ _) | (with_reducible refine Kd.C_drewN ?_ _) | (with_reducible refine Kd.C_drew ?_))); (case side2 => exact HC1.out); rintro e wb ⟨rfl, hdb⟩; refine ⟨_, rfl, ?_⟩; have n0_ := Aside0.mk (below_step HB.out hdb.below); clear HB; have HB := n0_; clear n0_ hdb))
        have n0_ := Aside0.mk (below_drew1 HB.out)
        clear HB
        have HB := n0_
        clear n0_
        refine start_ (n := 9) (S := fun w' => True) (ds := []) #[false, false, false, false, false, false, false, false, false] (by kernel_rfl) rfl rfl trivial (fun hHeld => ?_); refine with_tabW smallbig_nat_div.tab9 smallbig_nat_div.bits9 (fun HT_ HW_ => ?_)
        generalize wb.drew = w21 at HB hHeld ⊢
        refine pure_ (i := 0) (N := some 53) (v := ?_) (a' := ?_) #[true, false, false, false, false, false, false, false, false] rfl rfl (any_of HT_.out (by kernel_rfl)) (fun _ _ _ h => h) (Or.inl ⟨by rfl, ?_⟩) ?_ ?_
        rotate_left
        ·
         intro w'
         go_simp
         with_reducible rfl
        rotate_left
        ·
         simp only [Act.put, List.setIfInBounds_toArray, List.set_cons_zero, List.set_cons_succ, i64_w, i32_w]
         rfl
        refine pure_ (i := 1) (N := some 54) (v := ?_) (a' := ?_) #[true, true, false, false, false, false, false, false, false] rfl rfl (any_of HT_.out (by kernel_rfl)) (fun _ _ _ h => h) (Or.inl ⟨by rfl, ?_⟩) ?_ ?_
        rotate_left
        ·
         intro w'
         go_simp
         with_reducible rfl
        rotate_left
        ·
         simp only [Act.put, List.setIfInBounds_toArray, List.set_cons_zero, List.set_cons_succ, i64_w, i32_w]
         rfl
        refine pure_ (i := 3) (N := some 56) (v := ?_) (a' := ?_) #[true, true, false, true, false, false, false, false, false] rfl rfl (any_of HT_.out (by kernel_rfl)) (fun _ _ _ h => h) (Or.inl ⟨by rfl, ?_⟩) ?_ ?_
        rotate_left
        ·
         intro w'
         go_simp
         with_reducible rfl
        rotate_left
        ·
         simp only [Act.put, List.setIfInBounds_toArray, List.set_cons_zero, List.set_cons_succ, i64_w, i32_w]
         rfl
        refine pure_ (i := 4) (N := some 57) (v := ?_) (a' := ?_) #[true, true, false, true, true, false, false, false, false] rfl rfl (any_of HT_.out (by kernel_rfl)) (fun _ _ _ h => h) (Or.inl ⟨by rfl, ?_⟩) ?_ ?_
        rotate_left
        ·
         intro w'
         go_simp
         with_reducible rfl
        rotate_left
        ·
         simp only [Act.put, List.setIfInBounds_toArray, List.set_cons_zero, List.set_cons_succ, i64_w, i32_w]
         rfl
        refine pure_ (i := 5) (N := some 58) (v := ?_) (a' := ?_) #[true, true, false, true, true, true, false, false, false] rfl rfl (any_of HT_.out (by kernel_rfl)) (fun _ _ _ h => h) (Or.inl ⟨by rfl, ?_⟩) ?_ ?_
        rotate_left
        ·
         intro w'
         go_simp
         with_reducible rfl
        rotate_left
        ·
         simp only [Act.put, List.setIfInBounds_toArray, List.set_cons_zero, List.set_cons_succ, i64_w, i32_w]
         rfl
        refine join_ (σ := Value × Value) 1 #[true, true, true, true, true, true, true, true, false] (fun s_ => [(55, s_.1), (59, s_.2), (9, s_.1)]) (fun s_ w' => (Kd.V (Kd.int .u32) 175 w' w.heap.size (fun k_ => (w.heap.size ≤ k_) ∧ some k_ ≠ (s_.2 : Value).ownBlock) s_.1 t157) ∧ (Kd.R (Kd.int .u32) 175 w' w.heap.size (fun k_ => (w.heap.size ≤ k_)) s_.2 y160) ∧ (Below w.heap.size w w')) ?_ ?_
        rotate_left
        ·
         intro hCont
         refine two_ (i := 2) (j := 6) (Ni := some 55) (Nj := some 59) #[true, true, true, true, true, true, false, false, false] #[true, true, false, true, true, true, true, false, false] rfl rfl rfl rfl (two_of HT_.out (by kernel_rfl)) (by decide) (by decide) (fun K hK => ?_) (fun K hK => ?_)
         ·
          skip
          refine goes_ Tryz.func192 (by kernel_rfl) rfl #[.slice A1 l1.length c1, .int .u64 (IntKind.u64.wrap (wrap64 ((wrap64 (32 * (l1.length : Int))) - t156)))] (by rfl) rfl rfl (by (try simp only [List.map_toArray, List.map_cons, List.map_nil]); first | done | rfl | (simp only [List.length_drop, List.length_take]; rfl)) ?_
          with_reducible refine (smallbig_nat_lsh.calls k _ _ l1 (IntKind.u64.wrap (wrap64 ((wrap64 (32 * (l1.length : Int))) - t156))) t157 _ ?side1 ?side2 A13.out).mono ?_
          (case side1 => repeat (first | exact (Kd.C_below HR1.out HB.out) | (with_reducible refine Kd.C_alloc ?_ _) | (with_reducible refine Kd.C_drewN ?_ _) | (with_reducible refine Kd.C_drew ?_)))
          (case side2 => exact HC1.out)
          rintro e w22 ⟨v158, rfl, ho0, hb⟩
          refine ⟨_, rfl, ?_⟩
          have n0_ := Aside0.mk (Kd.V_lower (Kd.V_mono (ok' := fun k_ => (w.heap.size ≤ k_)) ho0 (fun k_ hk_ => (Nat.le_trans (below_size (by repeat (first | (with_reducible first | exact HB.out | apply below_alloc | apply pw_below_drewN | apply below_drew1) | exact HB.out))) hk_))) (below_size (by repeat (first | (with_reducible first | exact HB.out | apply below_alloc | apply pw_below_drewN | apply below_drew1) | exact HB.out))))
          have n1_ := Aside0.mk (below_step (by repeat (first | (with_reducible first | exact HB.out | apply below_alloc | apply pw_below_drewN | apply below_drew1) | exact HB.out)) hb)
          clear HB
          have HO159 := n0_
          have HB := n1_
          clear n0_ n1_
          (try clear hb)
          (try clear hb2)
          (try clear hk)
          (try clear hi)
          (try clear ho0)
          refine hK.out _ _ trivial (fun hHeld => ?_)
          clear hK K
          refine norm_ (a' := ?_) ?_ ?_
          rotate_left
          ·
           show Act.put _ (some 55) _ = _
           simp only [Act.put, List.setIfInBounds_toArray, List.set_cons_zero, List.set_cons_succ, i64_w, i32_w]
           rfl
          refine pure_ (i := 7) (N := some 9) (v := ?_) (a' := ?_) #[true, true, true, true, true, true, false, true, false] rfl rfl (any_of HT_.out (by kernel_rfl)) (fun _ _ _ h => h) (Or.inl ⟨by rfl, ?_⟩) ?_ ?_
          rotate_left
          ·
           intro w'
           go_simp
           with_reducible rfl
          rotate_left
          ·
           simp only [Act.put, List.setIfInBounds_toArray, List.set_cons_zero, List.set_cons_succ, i64_w, i32_w]
           rfl
          refine one_ (i := 6) (N := some 59) #[true, true, true, true, true, true, true, true, false] rfl rfl (one_of HT_.out (by kernel_rfl)) (by decide) (fun K hK => ?_)
          refine Kd.R_make_step (Kd.int .u32) _ 175 (by rfl) (N := 59) rfl 95 _ _ rfl ji14 rfl rfl Tryz.underlying95 (.int .u32 0) 4 info175 rfl (by decide) (by omega) 0 (ok := fun _ => True) (okp := fun _ => True) rfl (fun _ hk => hk) trivial (of_decide_eq_true (by first | (with_reducible assumption) | assumption)) (Nat.le_trans (Nat.mul_le_mul_right _ (of_decide_eq_true (by first | (with_reducible assumption) | assumption) : ji14.toNat ≤ 70368744177664)) (by omega)) (Below.refl _ _) (Nat.le_refl _) ?_
          intro v161 w23 ho24 hb hg_ hnew_
          clear hg_ hnew_
          (first | rw [← Ny160.out] at ho24 | (simp only [Int.reduceToNat] at ho24; rw [← Ny160.out] at ho24))
          have n0_ := Aside0.mk (Kd.V_elder' (by (with_reducible repeat (first | apply Kd.V_alloc | apply Kd.V_drewN | apply Kd.V_drew)); exact HO159.out) (Kd.R_base ho24) hb)
          have n1_ := Aside0.mk (Kd.R_lower (Kd.R_newM (M := fun k_ => (w.heap.size ≤ k_)) ho24 (below_size (by repeat (first | (with_reducible first | exact HB.out | apply below_alloc | apply pw_below_drewN | apply below_drew1) | exact HB.out))) (fun k_ h_ => h_)) (below_size (by repeat (first | (with_reducible first | exact HB.out | apply below_alloc | apply pw_below_drewN | apply below_drew1) | exact HB.out))))
          have n2_ := Aside0.mk (below_step (by repeat (first | (with_reducible first | exact HB.out | apply below_alloc | apply pw_below_drewN | apply below_drew1) | exact HB.out)) hb)
          clear HO159
          clear HB
          have HO159 := n0_
          have HO162 := n1_
          have HB := n2_
          clear n0_ n1_ n2_
          clear hb ho24
          refine hK.out _ _ trivial (fun hHeld => ?_)
          clear hK K
          refine norm_ (a' := ?_) ?_ ?_
          rotate_left
          ·
           show Act.put _ (some 59) _ = _
           simp only [Act.put, List.setIfInBounds_toArray, List.set_cons_zero, List.set_cons_succ, i64_w, i32_w]
           rfl
          exact norm_ (by simp only [putAll, Act.put, List.setIfInBounds_toArray, List.set_cons_zero, List.set_cons_succ]) (hCont (v158, v161) _ ⟨(by (with_reducible repeat (first | apply Kd.V_alloc | apply Kd.V_drewN | apply Kd.V_drew)); exact HO159.out), (by (with_reducible repeat (first | apply Kd.R_alloc | apply Kd.R_drewN | apply Kd.R_drew)); exact Kd.R_mono HO162.out (fun _ hk => hk.1)), (by repeat (first | (with_reducible first | exact HB.out | apply below_alloc | apply pw_below_drewN | apply below_drew1) | exact HB.out))⟩)
         ·
          skip
          refine Kd.R_make_step (Kd.int .u32) _ 175 (by rfl) (N := 59) rfl 95 _ _ rfl ji14 rfl rfl Tryz.underlying95 (.int .u32 0) 4 info175 rfl (by decide) (by omega) 0 (ok := fun _ => True) (okp := fun _ => True) rfl (fun _ hk => hk) trivial (of_decide_eq_true (by first | (with_reducible assumption) | assumption)) (Nat.le_trans (Nat.mul_le_mul_right _ (of_decide_eq_true (by first | (with_reducible assumption) | assumption) : ji14.toNat ≤ 70368744177664)) (by omega)) (Below.refl _ _) (Nat.le_refl _) ?_
          intro v161 w22 ho23 hb hg_ hnew_
          clear hg_ hnew_
          (first | rw [← Ny160.out] at ho23 | (simp only [Int.reduceToNat] at ho23; rw [← Ny160.out] at ho23))
          have n0_ := Aside0.mk (Kd.R_lower (Kd.R_newM (M := fun k_ => (w.heap.size ≤ k_)) ho23 (below_size (by repeat (first | (with_reducible first | exact HB.out | apply below_alloc | apply pw_below_drewN | apply below_drew1) | exact HB.out))) (fun k_ h_ => h_)) (below_size (by repeat (first | (with_reducible first | exact HB.out | apply below_alloc | apply pw_below_drewN | apply below_drew1) | exact HB.out))))
          have n1_ := Aside0.mk (below_step (by repeat (first | (with_reducible first | exact HB.out | apply below_alloc | apply pw_below_drewN | apply below_drew1) | exact HB.out)) hb)
          clear HB
          have HO162 := n0_
          have HB := n1_
          clear n0_ n1_
          clear hb ho23
          refine hK.out _ _ trivial (fun hHeld => ?_)
          clear hK K
          refine norm_ (a' := ?_) ?_ ?_
          rotate_left
          ·
           show Act.put _ (some 59) _ = _
           simp only [Act.put, List.setIfInBounds_toArray, List.set_cons_zero, List.set_cons_succ, i64_w, i32_w]
           rfl
          refine one_ (i := 2) (N := some 55) #[true, true, true, true, true, true, true, false, false] rfl rfl (one_of HT_.out (by kernel_rfl)) (by decide) (fun K hK => ?_)
          refine goes_ Tryz.func192 (by kernel_rfl) rfl #[.slice A1 l1.length c1, .int .u64 (IntKind.u64.wrap (wrap64 ((wrap64 (32 * (l1.length : Int))) - t156)))] (by rfl) rfl rfl (by (try simp only [List.map_toArray, List.map_cons, List.map_nil]); first | done | rfl | (simp only [List.length_drop, List.length_take]; rfl)) ?_
          with_reducible refine (smallbig_nat_lsh.calls k _ _ l1 (IntKind.u64.wrap (wrap64 ((wrap64 (32 * (l1.length : Int))) - t156))) t157 _ ?side1 ?side2 A13.out).mono ?_
          (case side1 => repeat (first | exact (Kd.C_below HR1.out HB.out) | (with_reducible refine Kd.C_alloc ?_ _) | (with_reducible refine Kd.C_drewN ?_ _) | (with_reducible refine Kd.C_drew ?_)))
          (case side2 => exact HC1.out)
          rintro e w24 ⟨v158, rfl, ho0, hb⟩
          refine ⟨_, rfl, ?_⟩
          have n0_ := Aside0.mk (Kd.R_below (by (with_reducible repeat (first | apply Kd.R_alloc | apply Kd.R_drewN | apply Kd.R_drew)); exact HO162.out) hb)
          have n1_ := Aside0.mk (Kd.V_lower (Kd.V_mono (ok' := fun k_ => (w.heap.size ≤ k_) ∧ some k_ ≠ (v161 : Value).ownBlock) ho0 (fun k_ hk_ => ⟨(Nat.le_trans (below_size (by repeat (first | (with_reducible first | exact HB.out | apply below_alloc | apply pw_below_drewN | apply below_drew1) | exact HB.out))) hk_), (Kd.fresh' (Kd.R_lt (by (with_reducible repeat (first | apply Kd.R_alloc | apply Kd.R_drewN | apply Kd.R_drew)); exact HO162.out)) k_ hk_)⟩)) (below_size (by repeat (first | (with_reducible first | exact HB.out | apply below_alloc | apply pw_below_drewN | apply below_drew1) | exact HB.out))))
          have n2_ := Aside0.mk (below_step (by repeat (first | (with_reducible first | exact HB.out | apply below_alloc | apply pw_below_drewN | apply below_drew1) | exact HB.out)) hb)
          clear HO162
          clear HB
          have HO162 := n0_
          have HO159 := n1_
          have HB := n2_
          clear n0_ n1_ n2_
          (try clear hb)
          (try clear hb2)
          (try clear hk)
          (try clear hi)
          (try clear ho0)
          refine hK.out _ _ trivial (fun hHeld => ?_)
          clear hK K
          refine norm_ (a' := ?_) ?_ ?_
          rotate_left
          ·
           show Act.put _ (some 55) _ = _
           simp only [Act.put, List.setIfInBounds_toArray, List.set_cons_zero, List.set_cons_succ, i64_w, i32_w]
           rfl
          refine pure_ (i := 7) (N := some 9) (v := ?_) (a' := ?_) #[true, true, true, true, true, true, true, true, false] rfl rfl (any_of HT_.out (by kernel_rfl)) (fun _ _ _ h => h) (Or.inl ⟨by rfl, ?_⟩) ?_ ?_
          rotate_left
          ·
           intro w'
           go_simp
           with_reducible rfl
          rotate_left
          ·
           simp only [Act.put, List.setIfInBounds_toArray, List.set_cons_zero, List.set_cons_succ, i64_w, i32_w]
           rfl
          exact norm_ (by simp only [putAll, Act.put, List.setIfInBounds_toArray, List.set_cons_zero, List.set_cons_succ]) (hCont (v158, v161) _ ⟨(by (with_reducible repeat (first | apply Kd.V_alloc | apply Kd.V_drewN | apply Kd.V_drew)); exact HO159.out), (by (with_reducible repeat (first | apply Kd.R_alloc | apply Kd.R_drewN | apply Kd.R_drew)); exact Kd.R_mono HO162.out (fun _ hk => hk.1)), (by repeat (first | (with_reducible first | exact HB.out | apply below_alloc | apply pw_below_drewN | apply below_drew1) | exact HB.out))⟩)
        rintro ⟨v158, v161⟩ w25 ⟨h0_, h1_, h2_⟩
        have n0_ : Aside0 (Kd.V (Kd.int .u32) 175 w25 w.heap.size (fun k_ => (w.heap.size ≤ k_) ∧ some k_ ≠ (v161 : Value).ownBlock) v158 t157) := ⟨h0_⟩
        have n1_ : Aside0 (Kd.R (Kd.int .u32) 175 w25 w.heap.size (fun k_ => (w.heap.size ≤ k_)) v161 y160) := ⟨h1_⟩
        have n2_ : Aside0 (Below w.heap.size w w25) := ⟨h2_⟩
        clear HB
        clear h0_ h1_ h2_
        have HO159 := n0_
        have HO162 := n1_
        have HB := n2_
        clear n0_ n1_ n2_
        have hHeld := trivial
        refine norm_ (a' := ?_) ?_ ?_
        rotate_left
        ·
         simp only [putAll, Act.put, List.setIfInBounds_toArray, List.set_cons_zero, List.set_cons_succ]
         rfl
        refine pure_ (i := 8) (N := some 10) (v := ?_) (a' := ?_) #[true, true, true, true, true, true, true, true, true] rfl rfl (any_of HT_.out (by kernel_rfl)) (fun _ _ _ h => h) (Or.inl ⟨by rfl, ?_⟩) ?_ ?_
        rotate_left
        ·
         intro w'
         go_simp
         with_reducible rfl
        rotate_left
        ·
         simp only [Act.put, List.setIfInBounds_toArray, List.set_cons_zero, List.set_cons_succ, i64_w, i32_w]
         rfl
        refine done_ (done_of HT_.out (by kernel_rfl)) ?_
        try go_wp2_with (first | ((with_reducible refine gate_callee (f := 192) rfl ?_); refine goesL_ (some 63) rfl rfl Tryz.func192 (by kernel_rfl) rfl #[.slice A0 l0.length c0, .int .u64 (IntKind.u64.wrap (wrap64 ((wrap64 (32 * (l1.length : Int))) - t156)))] rfl (by (try simp only [List.map_toArray, List.map_cons, List.map_nil]); first | done | rfl | (simp only [List.length_drop, List.length_take]; rfl)) ?_; (with_reducible refine (smallbig_nat_lsh.calls k _ _ l0 (IntKind.u64.wrap (wrap64 ((wrap64 (32 * (l1.length : Int))) - t156))) t163 _ ?side1 ?side2 A17.out).mono ?_); (case side1 => repeat (first | exact (Kd.C_below HR0.out HB.out) | (with_reducible refine Kd.C_alloc ?_ _) | (with_reducible refine Kd.C_drewN ?_ _) | (with_reducible refine Kd.C_drew ?_))); (case side2 => exact HC0.out); rintro e w26 ⟨v164, rfl, ho0, hb⟩; refine ⟨_, rfl, ?_⟩; have n0_ := Aside0.mk (Kd.V_below (by (with_reducible repeat (first | apply Kd.V_alloc | apply Kd.V_drewN | apply Kd.V_drew)); exact HO159.out) hb); have n1_ := Aside0.mk (Kd.R_below (by (with_reducible repeat (first | apply Kd.R_alloc | apply Kd.R_drewN | apply Kd.R_drew)); exact HO162.out) hb); have n2_ := Aside0.mk (Kd.V_lower (Kd.V_mono (ok' := fun k_ => (w.heap.size ≤ k_) ∧ some k_ ≠ (v161 : Value).ownBlock) ho0 (fun k_ hk_ => ⟨(Nat.le_trans (below_size (by repeat (first | (with_reducible first | exact HB.out | apply below_alloc | apply pw_below_drewN | apply below_drew1) | exact HB.out))) hk_), (Kd.fresh' (Kd.R_lt (by (with_reducible repeat (first | apply Kd.R_alloc | apply Kd.R_drewN | apply Kd.R_drew)); exact HO162.out)) k_ hk_)⟩)) (below_size (by repeat (first | (with_reducible first | exact HB.out | apply below_alloc | apply pw_below_drewN | apply below_drew1) | exact HB.out)))); have n3_ := Aside0.mk (below_step (by repeat (first | (with_reducible first | exact HB.out | apply below_alloc | apply pw_below_drewN | apply below_drew1) | exact HB.out)) hb); clear HO159; clear HO162; clear HB; have HO159 := n0_; have HO162 := n1_; have HO165 := n2_; have HB := n3_; clear n0_ n1_ n2_ n3_; (try clear hb); (try clear hb2); (try clear hk); (try clear hi); (try clear ho0); obtain ⟨Ao28, co28, eo28⟩ := Kd.V_slice HO165.out; subst eo28) | ((with_reducible refine gate_builtin (b := .copy) (xs := #[.tmp 60, .tmp 63]) rfl ?_); refine Kd.R_copy (enc := Value.int .u32) (h1 := fun _ => rfl) (w0 := w) 0 w.heap.size rfl (.tmp 60) (.tmp 63) 95 95 175 rfl Tryz.underlying95 (by obtain ⟨i_, hi_, _, hs_, _⟩ := info_parts info175; rw [hi_]; exact congrArg some hs_) v161 y160 t163 _ _ _ (fun k_ => (w.heap.size ≤ k_)) rfl rfl ?aO ?aR ?aB ?aS ?_; (case aR => repeat (first | exact (Kd.V_reads' HO165.out).2.2 | (with_reducible refine Kd.C_alloc ?_ _) | (with_reducible refine Kd.C_drewN ?_ _) | (with_reducible refine Kd.C_drew ?_))); (case aB => exact (by repeat (first | (with_reducible first | exact HB.out | apply below_alloc | apply pw_below_drewN | apply below_drew1) | exact HB.out))); (case aO => exact (by (with_reducible repeat (first | apply Kd.R_alloc | apply Kd.R_drewN | apply Kd.R_drew)); exact HO162.out)); (case aS => exact (below_size (by repeat (first | (with_reducible first | exact HB.out | apply below_alloc | apply pw_below_drewN | apply below_drew1) | exact HB.out)))); intro w27 ho hb hg; rw [← Ny166.out] at ho; have n0_ := Aside0.mk (Kd.V_afterv (v1 := v161) (ok := (fun k_ => (w.heap.size ≤ k_))) (by (with_reducible repeat (first | apply Kd.V_alloc | apply Kd.V_drewN | apply Kd.V_drew)); exact HO159.out) hg (.inl rfl)); have n1_ := Aside0.mk (Kd.V_afterv (v1 := v161) (ok := (fun k_ => (w.heap.size ≤ k_))) (by (with_reducible repeat (first | apply Kd.V_alloc | apply Kd.V_drewN | apply Kd.V_drew)); exact HO165.out) hg (.inl rfl)); have n2_ := Aside0.mk (hb); have n3_ : Aside0 (Kd.R (Kd.int .u32) 175 w27 w.heap.size (fun k_ => (w.heap.size ≤ k_)) v161 y166) := ⟨ho⟩; clear HO159; clear HO165; clear HB; clear HO162; have HO159 := n0_; have HO165 := n1_; have HB := n2_; have HO162 := n3_; clear n0_ n1_ n2_ n3_; clear ho hb hg; obtain ⟨Ao29, co29, eo29⟩ := Kd.V_slice HO159.out; subst eo29) | ((with_reducible refine gate_dst (N := 72) rfl ?_); refine Kd.R_make (Kd.int .u32) _ 175 rfl (N := 72) rfl 95 _ _ rfl ji18 rfl rfl Tryz.underlying95 (.int .u32 0) 4 info175 rfl (by decide) (by omega) 0 (ok := fun _ => True) (okp := fun _ => True) rfl (fun _ hk => hk) trivial (of_decide_eq_true (by first | (with_reducible assumption) | assumption)) (Nat.le_trans (Nat.mul_le_mul_right _ (of_decide_eq_true (by first | (with_reducible assumption) | assumption) : ji18.toNat ≤ 70368744177664)) (by omega)) (Below.refl _ _) (Nat.le_refl _) ?_; intro v170 w30 ho31 hb hg_ hnew_; clear hg_ hnew_; (first | rw [← Ny169.out] at ho31 | (simp only [Int.reduceToNat] at ho31; rw [← Ny169.out] at ho31)); have n0_ := Aside0.mk (Kd.V_elder' (by (with_reducible repeat (first | apply Kd.V_alloc | apply Kd.V_drewN | apply Kd.V_drew)); exact HO159.out) (Kd.R_base ho31) hb); have n1_ := Aside0.mk (Kd.V_elder' (by (with_reducible repeat (first | apply Kd.V_alloc | apply Kd.V_drewN | apply Kd.V_drew)); exact HO165.out) (Kd.R_base ho31) hb); have n2_ := Aside0.mk (Kd.R_elder' (by (with_reducible repeat (first | apply Kd.R_alloc | apply Kd.R_drewN | apply Kd.R_drew)); exact HO162.out) (Kd.R_base ho31) hb); have n3_ := Aside0.mk (Kd.R_lower (Kd.R_new' (Kd.R_newM (M := fun k_ => (w.heap.size ≤ k_)) ho31 (below_size (by repeat (first | (with_reducible first | exact HB.out | apply below_alloc | apply pw_below_drewN | apply below_drew1) | exact HB.out))) (fun k_ h_ => h_)) (Kd.R_lt (by (with_reducible repeat (first | apply Kd.R_alloc | apply Kd.R_drewN | apply Kd.R_drew)); exact HO162.out))) (below_size (by repeat (first | (with_reducible first | exact HB.out | apply below_alloc | apply pw_below_drewN | apply below_drew1) | exact HB.out)))); have n4_ := Aside0.mk (below_step (by repeat (first | (with_reducible first | exact HB.out | apply below_alloc | apply pw_below_drewN | apply below_drew1) | exact HB.out)) hb); clear HO159; clear HO165; clear HO162; clear HB; have HO159 := n0_; have HO165 := n1_; have HO162 := n2_; have HO171 := n3_; have HB := n4_; clear n0_ n1_ n2_ n3_ n4_; clear hb ho31))
        go_loopg [12] k (fun kq v12 w' => ∃ (x4_1 : List Int) (x10_1 : List Int) (x12_1 : Int), v12 = .int .i64 x12_1 ∧ Aside0 (smallbig_nat_div.l0 kq x4_1 (IntKind.u64.wrap (wrap64 ((wrap64 (32 * (l1.length : Int))) - t156))) t157 x10_1 (t157.length : Int) x12_1 = some (r1, r2)) ∧ Aside0 (kq ≤ k) ∧ Aside0 (Kd.R (Kd.int .u32) 175 w' w.heap.size (fun k_ => (w.heap.size ≤ k_) ∧ some k_ ≠ (v161 : Value).ownBlock) v170 x4_1) ∧ Aside0 (Kd.V (Kd.int .u32) 175 w' w.heap.size (fun k_ => (w.heap.size ≤ k_) ∧ some k_ ≠ (v170 : Value).ownBlock ∧ some k_ ≠ (v161 : Value).ownBlock) (.slice Ao29 t157.length co29) t157) ∧ Aside0 (Kd.R (Kd.int .u32) 175 w' w.heap.size (fun k_ => (w.heap.size ≤ k_) ∧ some k_ ≠ (v170 : Value).ownBlock) v161 x10_1) ∧ Aside0 (Below w.heap.size w w'))
        case atStart => exact ⟨(y169), (y166), (wrap64 ((l0.length : Int) - (t157.length : Int))), (by first | rfl | (simp; done) | (simp [*]; done)), H', ⟨Nat.le_refl _⟩, ⟨by (with_reducible repeat (first | apply Kd.R_alloc | apply Kd.R_drewN | apply Kd.R_drew)); exact Kd.R_mono HO171.out (fun _ hk => ⟨hk.1.1, hk.2⟩)⟩, ⟨by (with_reducible repeat (first | apply Kd.V_alloc | apply Kd.V_drewN | apply Kd.V_drew)); exact Kd.V_mono HO159.out (fun _ hk => ⟨hk.1.1, ⟨hk.2, hk.1.2⟩⟩)⟩, ⟨by (with_reducible repeat (first | apply Kd.R_alloc | apply Kd.R_drewN | apply Kd.R_drew)); exact HO162.out⟩, ⟨by repeat (first | (with_reducible first | exact HB.out | apply below_alloc | apply pw_below_drewN | apply below_drew1) | exact HB.out)⟩⟩
        case round =>
         clear H'
         try clear c1
         try clear p1
         try clear q1
         try clear hx1
         try clear qi1
         try clear c2
         try clear p2
         try clear c3
         try clear c3b0
         try clear c3b1
         try clear c3b2
         try clear c5
         try clear c5b0
         try clear c6
         try clear c6b0
         try clear c6b1
         try clear p6
         try clear c7
         try clear c7b0
         try clear c7b1
         try clear c12
         try clear p14
         try clear q14
         try clear hx14
         try clear qi14
         try clear c15
         try clear c15b0
         try clear c15b1
         try clear c16
         try clear c16b0
         try clear c16b1
         try clear c18
         try clear c19
         try clear c19b0
         try clear c19b1
         try clear c20
         try clear c20b0
         try clear c20b1
         try clear hx148_0
         try clear p148
         try clear q148
         obtain ⟨x4_1, x10_1, x12_1, rfl, HA, HK1, HO_4, HO_9, HO_10, HB⟩ := hrel
         cases gk with
         | zero => exact absurd HA.out (by simp [smallbig_nat_div.l0])
         | succ k1 =>
          have H := HA.out
          clear HA
          simp only [smallbig_nat_div.l0] at H
          by_cases c32 : x12_1 ≥ 0
          ·
           rw [if_pos c32] at H
           have c32b0 : decide (0 ≤ x12_1) = true := decide_eq_true c32
           clear c32
           obtain ⟨ji33, hji33⟩ : ∃ j_ : Int, (wrap64 (x12_1 + (t157.length : Int))) = j_ := ⟨_, rfl⟩
           replace H : (if 0 ≤ (ji33) then (if (ji33) < (x10_1.length : Int) then (if 0 ≤ (wrap64 ((ji33) - 1)) then (if (wrap64 ((ji33) - 1)) < (x10_1.length : Int) then (if 0 ≤ (wrap64 ((t157.length : Int) - 1)) then (if (wrap64 ((t157.length : Int) - 1)) < (t157.length : Int) then (if (IntKind.u64.wrap (rd t157 (wrap64 ((t157.length : Int) - 1)))) = 0 then (none) else (smallbig_nat_div.l1 k1 x4_1 (IntKind.u64.wrap (wrap64 ((wrap64 (32 * (l1.length : Int))) - t156))) t157 x10_1 (t157.length : Int) x12_1 (IntKind.u64.wrap (Int.tdiv (Go.bits .or .u64 (IntKind.u64.wrap ((IntKind.u64.wrap (rd x10_1 (ji33))) * 4294967296)) (IntKind.u64.wrap (rd x10_1 (wrap64 ((ji33) - 1))))) (IntKind.u64.wrap (rd t157 (wrap64 ((t157.length : Int) - 1)))))) (Int.tmod (Go.bits .or .u64 (IntKind.u64.wrap ((IntKind.u64.wrap (rd x10_1 (ji33))) * 4294967296)) (IntKind.u64.wrap (rd x10_1 (wrap64 ((ji33) - 1))))) (IntKind.u64.wrap (rd t157 (wrap64 ((t157.length : Int) - 1))))))) else (none)) else (none)) else (none)) else (none)) else (none)) else (none)) = some (r1, r2) := by first | (rw [hji33] at H; exact H) | (simp only [hji33] at H ⊢; exact H)
           have hji33w : (IntKind.i64.wrap (x12_1 + (t157.length : Int))) = ji33 := (i64_w _).trans hji33
           by_cases c34 : 0 ≤ (ji33)
           ·
            rw [if_pos c34] at H
            have c34b0 : decide (0 ≤ (ji33)) = true := decide_eq_true c34
            clear c34
            by_cases c35 : (ji33) < (x10_1.length : Int)
            ·
             rw [if_pos c35] at H
             have c35b0 : decide ((ji33) < (x10_1.length : Int)) = true := decide_eq_true c35
             clear c35
             obtain ⟨ji36, hji36⟩ : ∃ j_ : Int, (wrap64 ((ji33) - 1)) = j_ := ⟨_, rfl⟩
             replace H : (if 0 ≤ (ji36) then (if (ji36) < (x10_1.length : Int) then (if 0 ≤ (wrap64 ((t157.length : Int) - 1)) then (if (wrap64 ((t157.length : Int) - 1)) < (t157.length : Int) then (if (IntKind.u64.wrap (rd t157 (wrap64 ((t157.length : Int) - 1)))) = 0 then (none) else (smallbig_nat_div.l1 k1 x4_1 (IntKind.u64.wrap (wrap64 ((wrap64 (32 * (l1.length : Int))) - t156))) t157 x10_1 (t157.length : Int) x12_1 (IntKind.u64.wrap (Int.tdiv (Go.bits .or .u64 (IntKind.u64.wrap ((IntKind.u64.wrap (rd x10_1 (ji33))) * 4294967296)) (IntKind.u64.wrap (rd x10_1 (ji36)))) (IntKind.u64.wrap (rd t157 (wrap64 ((t157.length : Int) - 1)))))) (Int.tmod (Go.bits .or .u64 (IntKind.u64.wrap ((IntKind.u64.wrap (rd x10_1 (ji33))) * 4294967296)) (IntKind.u64.wrap (rd x10_1 (ji36)))) (IntKind.u64.wrap (rd t157 (wrap64 ((t157.length : Int) - 1))))))) else (none)) else (none)) else (none)) else (none)) = some (r1, r2) := by first | (rw [hji36] at H; exact H) | (simp only [hji36] at H ⊢; exact H)
             have hji36w : (IntKind.i64.wrap ((ji33) - 1)) = ji36 := (i64_w _).trans hji36
             by_cases c37 : 0 ≤ (ji36)
             ·
              rw [if_pos c37] at H
              have c37b0 : decide (0 ≤ (ji36)) = true := decide_eq_true c37
              clear c37
              by_cases c38 : (ji36) < (x10_1.length : Int)
              ·
               rw [if_pos c38] at H
               have c38b0 : decide ((ji36) < (x10_1.length : Int)) = true := decide_eq_true c38
               clear c38
               obtain ⟨ji39, hji39⟩ : ∃ j_ : Int, (wrap64 ((t157.length : Int) - 1)) = j_ := ⟨_, rfl⟩
               replace H : (if 0 ≤ (ji39) then (if (ji39) < (t157.length : Int) then (if (IntKind.u64.wrap (rd t157 (ji39))) = 0 then (none) else (smallbig_nat_div.l1 k1 x4_1 (IntKind.u64.wrap (wrap64 ((wrap64 (32 * (l1.length : Int))) - t156))) t157 x10_1 (t157.length : Int) x12_1 (IntKind.u64.wrap (Int.tdiv (Go.bits .or .u64 (IntKind.u64.wrap ((IntKind.u64.wrap (rd x10_1 (ji33))) * 4294967296)) (IntKind.u64.wrap (rd x10_1 (ji36)))) (IntKind.u64.wrap (rd t157 (ji39))))) (Int.tmod (Go.bits .or .u64 (IntKind.u64.wrap ((IntKind.u64.wrap (rd x10_1 (ji33))) * 4294967296)) (IntKind.u64.wrap (rd x10_1 (ji36)))) (IntKind.u64.wrap (rd t157 (ji39)))))) else (none)) else (none)) = some (r1, r2) := by first | (rw [hji39] at H; exact H) | (simp only [hji39] at H ⊢; exact H)
               have hji39w : (IntKind.i64.wrap ((t157.length : Int) - 1)) = ji39 := (i64_w _).trans hji39
               by_cases c40 : 0 ≤ (ji39)
               ·
                rw [if_pos c40] at H
                have c40b0 : decide (0 ≤ (ji39)) = true := decide_eq_true c40
                clear c40
                by_cases c41 : (ji39) < (t157.length : Int)
                ·
                 rw [if_pos c41] at H
                 have c41b0 : decide ((ji39) < (t157.length : Int)) = true := decide_eq_true c41
                 clear c41
                 by_cases c42 : (IntKind.u64.wrap (rd t157 (ji39))) = 0
                 ·
                  rw [if_pos c42] at H
                  exact absurd H (by simp)
                 ·
                  rw [if_neg c42] at H
                  have c42b0 : ((IntKind.u64.wrap (rd t157 (ji39))) == 0) = false := beq_eq_false_iff_ne.mpr c42
                  have c42b1 : ((IntKind.u64.wrap (rd t157 (ji39))) != 0) = true := bne_iff_ne.mpr c42
                  have HC43 := Aside0.mk H
                  clear H
                  try go_wp2
                  have n0_ := Aside0.mk (Kd.R_drew HO_4.out)
                  have n1_ := Aside0.mk (Kd.V_drew HO_9.out)
                  have n2_ := Aside0.mk (Kd.R_drew HO_10.out)
                  have n3_ := Aside0.mk (below_drew1 HB.out)
                  clear HO_4
                  clear HO_9
                  clear HO_10
                  clear HB
                  have HO_4 := n0_
                  have HO_9 := n1_
                  have HO_10 := n2_
                  have HB := n3_
                  clear n0_ n1_ n2_ n3_
                  obtain ⟨Ao45, co45, eo45⟩ := Kd.R_slice HO_10.out
                  (first | subst eo45 | (injection eo45 with f1_ f2_ f3_; have f4_ := f1_.symm; have f5_ := f3_.symm; clear f1_ f2_ f3_; subst f4_; subst f5_))
                  have p181 : 0 ≤ ((ji33) : Int) := of_decide_eq_true (by first | (with_reducible assumption) | assumption)
                  have q181 : (ji33) < (x10_1.length : Int) := of_decide_eq_true (by first | (with_reducible assumption) | assumption)
                  obtain ⟨ad181, e181, hx181_0⟩ := Kd.at_int (Kd.R_reads' HO_10.out).2.2 (ji33) p181 q181
                  cases e181
                  replace p181 := eq_true p181
                  replace q181 := eq_true q181
                  have p182 : 0 ≤ ((ji36) : Int) := of_decide_eq_true (by first | (with_reducible assumption) | assumption)
                  have q182 : (ji36) < (x10_1.length : Int) := of_decide_eq_true (by first | (with_reducible assumption) | assumption)
                  obtain ⟨ad182, e182, hx182_0⟩ := Kd.at_int (Kd.R_reads' HO_10.out).2.2 (ji36) p182 q182
                  obtain rfl : ad181 = ad182 := (by injection e182)
                  replace p182 := eq_true p182
                  replace q182 := eq_true q182
                  refine start_ (n := 18) (S := fun w' => w'.cell? (ad181.add ((ji33)).toNat) = some (.int .u32 (rd x10_1 (ji33))) ∧ w'.cell? (ad181.add ((ji36)).toNat) = some (.int .u32 (rd x10_1 (ji36)))) (ds := []) #[false, false, false, false, false, false, false, false, false, false, false, false, false, false, false, false, false, false] (by kernel_rfl) rfl rfl ⟨hx181_0, hx182_0⟩ (fun hHeld => ?_); refine with_tabW smallbig_nat_div.tab16 smallbig_nat_div.bits16 (fun HT_ HW_ => ?_)
                  generalize wr.drew = w44 at HO_4 HO_9 HO_10 HB hx181_0 hx182_0 hHeld ⊢
                  refine pure_ (i := 0) (N := some 81) (v := ?_) (a' := ?_) #[true, false, false, false, false, false, false, false, false, false, false, false, false, false, false, false, false, false] rfl rfl (any_of HT_.out (by kernel_rfl)) (fun _ _ _ h => h) (Or.inl ⟨by rfl, ?_⟩) ?_ ?_
                  rotate_left
                  ·
                   intro w'
                   go_simp
                   with_reducible rfl
                  rotate_left
                  ·
                   simp only [Act.put, List.setIfInBounds_toArray, List.set_cons_zero, List.set_cons_succ, i64_w, i32_w]
                   rfl
                  refine pure_ (i := 1) (N := some 82) (v := ?_) (a' := ?_) #[true, true, false, false, false, false, false, false, false, false, false, false, false, false, false, false, false, false] rfl rfl (any_of HT_.out (by kernel_rfl)) (fun _ _ _ h => h) (Or.inl ⟨by rfl, ?_⟩) ?_ ?_
                  rotate_left
                  ·
                   intro w'
                   go_simp
                   with_reducible rfl
                  rotate_left
                  ·
                   simp only [Act.put, List.setIfInBounds_toArray, List.set_cons_zero, List.set_cons_succ, i64_w, i32_w]
                   rfl
                  refine pure_ (i := 2) (N := some 83) (v := ?_) (a' := ?_) #[true, true, true, false, false, false, false, false, false, false, false, false, false, false, false, false, false, false] rfl rfl (any_of HT_.out (by kernel_rfl)) (fun _ _ _ h => h) (Or.inl ⟨by rfl, ?_⟩) ?_ ?_
                  rotate_left
                  ·
                   intro w'
                   go_simp
                   with_reducible rfl
                  rotate_left
                  ·
                   simp only [Act.put, List.setIfInBounds_toArray, List.set_cons_zero, List.set_cons_succ, i64_w, i32_w]
                   rfl
                  refine pure_ (i := 3) (N := some 84) (v := ?_) (a' := ?_) #[true, true, true, true, false, false, false, false, false, false, false, false, false, false, false, false, false, false] rfl rfl (any_of HT_.out (by kernel_rfl)) (fun _ _ _ h => h) (Or.inl ⟨by rfl, ?_⟩) ?_ ?_
                  rotate_left
                  ·
                   intro w'
                   go_simp
                   with_reducible rfl
                  rotate_left
                  ·
                   simp only [Act.put, List.setIfInBounds_toArray, List.set_cons_zero, List.set_cons_succ, i64_w, i32_w]
                   rfl
                  refine pure_ (i := 4) (N := some 85) (v := ?_) (a' := ?_) #[true, true, true, true, true, false, false, false, false, false, false, false, false, false, false, false, false, false] rfl rfl (any_of HT_.out (by kernel_rfl)) (fun _ _ _ h => h) (Or.inl ⟨by rfl, ?_⟩) ?_ ?_
                  rotate_left
                  ·
                   intro w'
                   go_simp
                   with_reducible rfl
                  rotate_left
                  ·
                   simp only [Act.put, List.setIfInBounds_toArray, List.set_cons_zero, List.set_cons_succ, i64_w, i32_w]
                   rfl
                  refine pure_ (i := 8) (N := some 89) (v := ?_) (a' := ?_) #[true, true, true, true, true, false, false, false, true, false, false, false, false, false, false, false, false, false] rfl rfl (any_of HT_.out (by kernel_rfl)) (fun _ _ _ h => h) (Or.inl ⟨by rfl, ?_⟩) ?_ ?_
                  rotate_left
                  ·
                   intro w'
                   go_simp
                   with_reducible rfl
                  rotate_left
                  ·
                   simp only [Act.put, List.setIfInBounds_toArray, List.set_cons_zero, List.set_cons_succ, i64_w, i32_w]
                   rfl
                  refine pure_ (i := 9) (N := some 90) (v := ?_) (a' := ?_) #[true, true, true, true, true, false, false, false, true, true, false, false, false, false, false, false, false, false] rfl rfl (any_of HT_.out (by kernel_rfl)) (fun _ _ _ h => h) (Or.inl ⟨by rfl, ?_⟩) ?_ ?_
                  rotate_left
                  ·
                   intro w'
                   go_simp
                   with_reducible rfl
                  rotate_left
                  ·
                   simp only [Act.put, List.setIfInBounds_toArray, List.set_cons_zero, List.set_cons_succ, i64_w, i32_w]
                   rfl
                  refine pure_ (i := 10) (N := some 91) (v := ?_) (a' := ?_) #[true, true, true, true, true, false, false, false, true, true, true, false, false, false, false, false, false, false] rfl rfl (any_of HT_.out (by kernel_rfl)) (fun _ _ _ h => h) (Or.inl ⟨by rfl, ?_⟩) ?_ ?_
                  rotate_left
                  ·
                   intro w'
                   go_simp
                   with_reducible rfl
                  rotate_left
                  ·
                   simp only [Act.put, List.setIfInBounds_toArray, List.set_cons_zero, List.set_cons_succ, i64_w, i32_w]
                   rfl
                  refine pure_ (i := 11) (N := some 92) (v := ?_) (a' := ?_) #[true, true, true, true, true, false, false, false, true, true, true, true, false, false, false, false, false, false] rfl rfl (any_of HT_.out (by kernel_rfl)) (fun _ _ _ h => h) (Or.inl ⟨by rfl, ?_⟩) ?_ ?_
                  rotate_left
                  ·
                   intro w'
                   go_simp
                   with_reducible rfl
                  rotate_left
                  ·
                   simp only [Act.put, List.setIfInBounds_toArray, List.set_cons_zero, List.set_cons_succ, i64_w, i32_w]
                   rfl
                  refine pure_ (i := 12) (N := some 93) (v := ?_) (a' := ?_) #[true, true, true, true, true, false, false, false, true, true, true, true, true, false, false, false, false, false] rfl rfl (any_of HT_.out (by kernel_rfl)) (fun _ _ _ h => h) (Or.inl ⟨by rfl, ?_⟩) ?_ ?_
                  rotate_left
                  ·
                   intro w'
                   go_simp
                   with_reducible rfl
                  rotate_left
                  ·
                   simp only [Act.put, List.setIfInBounds_toArray, List.set_cons_zero, List.set_cons_succ, i64_w, i32_w]
                   rfl
                  refine pure_ (i := 13) (N := some 94) (v := ?_) (a' := ?_) #[true, true, true, true, true, false, false, false, true, true, true, true, true, true, false, false, false, false] rfl rfl (any_of HT_.out (by kernel_rfl)) (fun _ _ _ h => h) (Or.inl ⟨by rfl, ?_⟩) ?_ ?_
                  rotate_left
                  ·
                   intro w'
                   go_simp
                   with_reducible rfl
                  rotate_left
                  ·
                   simp only [Act.put, List.setIfInBounds_toArray, List.set_cons_zero, List.set_cons_succ, i64_w, i32_w]
                   rfl
                  refine take_ (i := 5) (N := some 86) (v := ?_) (a' := ?_) #[true, true, true, true, true, true, false, false, true, true, true, true, true, true, false, false, false, false] rfl rfl (take_ofW HT_.out HW_.out (by kernel_rfl)) (fun _ _ _ h => h) (Or.inl ⟨by rfl, ?_⟩) hHeld ?_ ?_
                  rotate_left
                  ·
                   rintro w' ⟨s0, s1⟩
                   go_simp
                   with_reducible rfl
                  rotate_left
                  ·
                   simp only [Act.put, List.setIfInBounds_toArray, List.set_cons_zero, List.set_cons_succ, i64_w, i32_w]
                   rfl
                  refine pure_ (i := 6) (N := some 87) (v := ?_) (a' := ?_) #[true, true, true, true, true, true, true, false, true, true, true, true, true, true, false, false, false, false] rfl rfl (any_of HT_.out (by kernel_rfl)) (fun _ _ _ h => h) (Or.inl ⟨by rfl, ?_⟩) ?_ ?_
                  rotate_left
                  ·
                   intro w'
                   go_simp
                   with_reducible rfl
                  rotate_left
                  ·
                   simp only [Act.put, List.setIfInBounds_toArray, List.set_cons_zero, List.set_cons_succ, i64_w, i32_w]
                   rfl
                  refine pure_ (i := 7) (N := some 88) (v := ?_) (a' := ?_) #[true, true, true, true, true, true, true, true, true, true, true, true, true, true, false, false, false, false] rfl rfl (any_of HT_.out (by kernel_rfl)) (fun _ _ _ h => h) (Or.inl ⟨by rfl, ?_⟩) ?_ ?_
                  rotate_left
                  ·
                   intro w'
                   go_simp
                   with_reducible rfl
                  rotate_left
                  ·
                   simp only [Act.put, List.setIfInBounds_toArray, List.set_cons_zero, List.set_cons_succ, i64_w, i32_w]
                   rfl
                  refine take_ (i := 14) (N := some 95) (v := ?_) (a' := ?_) #[true, true, true, true, true, true, true, true, true, true, true, true, true, true, true, false, false, false] rfl rfl (take_ofW HT_.out HW_.out (by kernel_rfl)) (fun _ _ _ h => h) (Or.inl ⟨by rfl, ?_⟩) hHeld ?_ ?_
                  rotate_left
                  ·
                   rintro w' ⟨s0, s1⟩
                   go_simp
                   with_reducible rfl
                  rotate_left
                  ·
                   simp only [Act.put, List.setIfInBounds_toArray, List.set_cons_zero, List.set_cons_succ, i64_w, i32_w]
                   rfl
                  refine pure_ (i := 15) (N := some 96) (v := ?_) (a' := ?_) #[true, true, true, true, true, true, true, true, true, true, true, true, true, true, true, true, false, false] rfl rfl (any_of HT_.out (by kernel_rfl)) (fun _ _ _ h => h) (Or.inl ⟨by rfl, ?_⟩) ?_ ?_
                  rotate_left
                  ·
                   intro w'
                   go_simp
                   with_reducible rfl
                  rotate_left
                  ·
                   simp only [Act.put, List.setIfInBounds_toArray, List.set_cons_zero, List.set_cons_succ, i64_w, i32_w]
                   rfl
                  refine pure_ (i := 16) (N := some 97) (v := ?_) (a' := ?_) #[true, true, true, true, true, true, true, true, true, true, true, true, true, true, true, true, true, false] rfl rfl (any_of HT_.out (by kernel_rfl)) (fun _ _ _ h => h) (Or.inl ⟨by rfl, ?_⟩) ?_ ?_
                  rotate_left
                  ·
                   intro w'
                   go_simp
                   with_reducible rfl
                  rotate_left
                  ·
                   simp only [Act.put, List.setIfInBounds_toArray, List.set_cons_zero, List.set_cons_succ, i64_w, i32_w]
                   rfl
                  refine pure_ (i := 17) (N := some 13) (v := ?_) (a' := ?_) #[true, true, true, true, true, true, true, true, true, true, true, true, true, true, true, true, true, true] rfl rfl (any_of HT_.out (by kernel_rfl)) (fun _ _ _ h => h) (Or.inl ⟨by rfl, ?_⟩) ?_ ?_
                  rotate_left
                  ·
                   intro w'
                   go_simp
                   with_reducible rfl
                  rotate_left
                  ·
                   simp only [Act.put, List.setIfInBounds_toArray, List.set_cons_zero, List.set_cons_succ, i64_w, i32_w]
                   rfl
                  refine done_ (done_of HT_.out (by kernel_rfl)) ?_
                  try go_wp2
                  have n0_ := Aside0.mk (Kd.R_drew HO_4.out)
                  have n1_ := Aside0.mk (Kd.V_drew HO_9.out)
                  have n2_ := Aside0.mk (Kd.R_drew HO_10.out)
                  have n3_ := Aside0.mk (below_drew1 HB.out)
                  clear HO_4
                  clear HO_9
                  clear HO_10
                  clear HB
                  have HO_4 := n0_
                  have HO_9 := n1_
                  have HO_10 := n2_
                  have HB := n3_
                  clear n0_ n1_ n2_ n3_
                  have p183 : 0 ≤ ((ji39) : Int) := of_decide_eq_true (by first | (with_reducible assumption) | assumption)
                  have q183 : (ji39) < (t157.length : Int) := of_decide_eq_true (by first | (with_reducible assumption) | assumption)
                  obtain ⟨ad183, e183, hx183_0⟩ := Kd.at_int (Kd.V_reads' HO_9.out).2.2 (ji39) p183 q183
                  cases e183
                  replace p183 := eq_true p183
                  replace q183 := eq_true q183
                  have p184 : 0 ≤ ((ji39) : Int) := of_decide_eq_true (by first | (with_reducible assumption) | assumption)
                  have q184 : (ji39) < (t157.length : Int) := of_decide_eq_true (by first | (with_reducible assumption) | assumption)
                  obtain ⟨ad184, e184, hx184_0⟩ := Kd.at_int (Kd.V_reads' HO_9.out).2.2 (ji39) p184 q184
                  obtain rfl : ad183 = ad184 := (by injection e184)
                  replace p184 := eq_true p184
                  replace q184 := eq_true q184
                  refine start_ (n := 18) (S := fun w' => w'.cell? (ad183.add ((ji39)).toNat) = some (.int .u32 (rd t157 (ji39))) ∧ w'.cell? (ad183.add ((ji39)).toNat) = some (.int .u32 (rd t157 (ji39)))) (ds := []) #[false, false, false, false, false, false, false, false, false, false, false, false, false, false, false, false, false, false] (by kernel_rfl) rfl rfl ⟨hx183_0, hx184_0⟩ (fun hHeld => ?_); refine with_tabW smallbig_nat_div.tab17 smallbig_nat_div.bits17 (fun HT_ HW_ => ?_)
                  generalize w44.drew = w46 at HO_4 HO_9 HO_10 HB hx183_0 hx184_0 hHeld ⊢
                  refine pure_ (i := 0) (N := some 98) (v := ?_) (a' := ?_) #[true, false, false, false, false, false, false, false, false, false, false, false, false, false, false, false, false, false] rfl rfl (any_of HT_.out (by kernel_rfl)) (fun _ _ _ h => h) (Or.inl ⟨by rfl, ?_⟩) ?_ ?_
                  rotate_left
                  ·
                   intro w'
                   go_simp
                   with_reducible rfl
                  rotate_left
                  ·
                   simp only [Act.put, List.setIfInBounds_toArray, List.set_cons_zero, List.set_cons_succ, i64_w, i32_w]
                   rfl
                  refine pure_ (i := 1) (N := some 99) (v := ?_) (a' := ?_) #[true, true, false, false, false, false, false, false, false, false, false, false, false, false, false, false, false, false] rfl rfl (any_of HT_.out (by kernel_rfl)) (fun _ _ _ h => h) (Or.inl ⟨by rfl, ?_⟩) ?_ ?_
                  rotate_left
                  ·
                   intro w'
                   go_simp
                   with_reducible rfl
                  rotate_left
                  ·
                   simp only [Act.put, List.setIfInBounds_toArray, List.set_cons_zero, List.set_cons_succ, i64_w, i32_w]
                   rfl
                  refine pure_ (i := 2) (N := some 100) (v := ?_) (a' := ?_) #[true, true, true, false, false, false, false, false, false, false, false, false, false, false, false, false, false, false] rfl rfl (any_of HT_.out (by kernel_rfl)) (fun _ _ _ h => h) (Or.inl ⟨by rfl, ?_⟩) ?_ ?_
                  rotate_left
                  ·
                   intro w'
                   go_simp
                   with_reducible rfl
                  rotate_left
                  ·
                   simp only [Act.put, List.setIfInBounds_toArray, List.set_cons_zero, List.set_cons_succ, i64_w, i32_w]
                   rfl
                  refine pure_ (i := 3) (N := some 101) (v := ?_) (a' := ?_) #[true, true, true, true, false, false, false, false, false, false, false, false, false, false, false, false, false, false] rfl rfl (any_of HT_.out (by kernel_rfl)) (fun _ _ _ h => h) (Or.inl ⟨by rfl, ?_⟩) ?_ ?_
                  rotate_left
                  ·
                   intro w'
                   go_simp
                   with_reducible rfl
                  rotate_left
                  ·
                   simp only [Act.put, List.setIfInBounds_toArray, List.set_cons_zero, List.set_cons_succ, i64_w, i32_w]
                   rfl
                  refine pure_ (i := 4) (N := some 102) (v := ?_) (a' := ?_) #[true, true, true, true, true, false, false, false, false, false, false, false, false, false, false, false, false, false] rfl rfl (any_of HT_.out (by kernel_rfl)) (fun _ _ _ h => h) (Or.inl ⟨by rfl, ?_⟩) ?_ ?_
                  rotate_left
                  ·
                   intro w'
                   go_simp
                   with_reducible rfl
                  rotate_left
                  ·
                   simp only [Act.put, List.setIfInBounds_toArray, List.set_cons_zero, List.set_cons_succ, i64_w, i32_w]
                   rfl
                  refine pure_ (i := 8) (N := some 106) (v := ?_) (a' := ?_) #[true, true, true, true, true, false, false, false, true, false, false, false, false, false, false, false, false, false] rfl rfl (any_of HT_.out (by kernel_rfl)) (fun _ _ _ h => h) (Or.inl ⟨by rfl, ?_⟩) ?_ ?_
                  rotate_left
                  ·
                   intro w'
                   go_simp
                   with_reducible rfl
                  rotate_left
                  ·
                   simp only [Act.put, List.setIfInBounds_toArray, List.set_cons_zero, List.set_cons_succ, i64_w, i32_w]
                   rfl
                  refine pure_ (i := 9) (N := some 107) (v := ?_) (a' := ?_) #[true, true, true, true, true, false, false, false, true, true, false, false, false, false, false, false, false, false] rfl rfl (any_of HT_.out (by kernel_rfl)) (fun _ _ _ h => h) (Or.inl ⟨by rfl, ?_⟩) ?_ ?_
                  rotate_left
                  ·
                   intro w'
                   go_simp
                   with_reducible rfl
                  rotate_left
                  ·
                   simp only [Act.put, List.setIfInBounds_toArray, List.set_cons_zero, List.set_cons_succ, i64_w, i32_w]
                   rfl
                  refine pure_ (i := 10) (N := some 108) (v := ?_) (a' := ?_) #[true, true, true, true, true, false, false, false, true, true, true, false, false, false, false, false, false, false] rfl rfl (any_of HT_.out (by kernel_rfl)) (fun _ _ _ h => h) (Or.inl ⟨by rfl, ?_⟩) ?_ ?_
                  rotate_left
                  ·
                   intro w'
                   go_simp
                   with_reducible rfl
                  rotate_left
                  ·
                   simp only [Act.put, List.setIfInBounds_toArray, List.set_cons_zero, List.set_cons_succ, i64_w, i32_w]
                   rfl
                  refine pure_ (i := 11) (N := some 109) (v := ?_) (a' := ?_) #[true, true, true, true, true, false, false, false, true, true, true, true, false, false, false, false, false, false] rfl rfl (any_of HT_.out (by kernel_rfl)) (fun _ _ _ h => h) (Or.inl ⟨by rfl, ?_⟩) ?_ ?_
                  rotate_left
                  ·
                   intro w'
                   go_simp
                   with_reducible rfl
                  rotate_left
                  ·
                   simp only [Act.put, List.setIfInBounds_toArray, List.set_cons_zero, List.set_cons_succ, i64_w, i32_w]
                   rfl
                  refine pure_ (i := 12) (N := some 110) (v := ?_) (a' := ?_) #[true, true, true, true, true, false, false, false, true, true, true, true, true, false, false, false, false, false] rfl rfl (any_of HT_.out (by kernel_rfl)) (fun _ _ _ h => h) (Or.inl ⟨by rfl, ?_⟩) ?_ ?_
                  rotate_left
                  ·
                   intro w'
                   go_simp
                   with_reducible rfl
                  rotate_left
                  ·
                   simp only [Act.put, List.setIfInBounds_toArray, List.set_cons_zero, List.set_cons_succ, i64_w, i32_w]
                   rfl
                  refine take_ (i := 5) (N := some 103) (v := ?_) (a' := ?_) #[true, true, true, true, true, true, false, false, true, true, true, true, true, false, false, false, false, false] rfl rfl (take_ofW HT_.out HW_.out (by kernel_rfl)) (fun _ _ _ h => h) (Or.inl ⟨by rfl, ?_⟩) hHeld ?_ ?_
                  rotate_left
                  ·
                   rintro w' ⟨s0, s1⟩
                   go_simp
                   with_reducible rfl
                  rotate_left
                  ·
                   simp only [Act.put, List.setIfInBounds_toArray, List.set_cons_zero, List.set_cons_succ, i64_w, i32_w]
                   rfl
                  refine pure_ (i := 6) (N := some 104) (v := ?_) (a' := ?_) #[true, true, true, true, true, true, true, false, true, true, true, true, true, false, false, false, false, false] rfl rfl (any_of HT_.out (by kernel_rfl)) (fun _ _ _ h => h) (Or.inl ⟨by rfl, ?_⟩) ?_ ?_
                  rotate_left
                  ·
                   intro w'
                   go_simp
                   with_reducible rfl
                  rotate_left
                  ·
                   simp only [Act.put, List.setIfInBounds_toArray, List.set_cons_zero, List.set_cons_succ, i64_w, i32_w]
                   rfl
                  refine pure_ (i := 7) (N := some 105) (v := ?_) (a' := ?_) #[true, true, true, true, true, true, true, true, true, true, true, true, true, false, false, false, false, false] rfl rfl (any_of HT_.out (by kernel_rfl)) (fun _ _ _ h => h) (Or.inl ⟨by rfl, ?_⟩) ?_ ?_
                  rotate_left
                  ·
                   intro w'
                   go_simp
                   with_reducible rfl
                  rotate_left
                  ·
                   simp only [Act.put, List.setIfInBounds_toArray, List.set_cons_zero, List.set_cons_succ, i64_w, i32_w]
                   rfl
                  refine pure_ (i := 16) (N := some 14) (v := ?_) (a' := ?_) #[true, true, true, true, true, true, true, true, true, true, true, true, true, false, false, false, true, false] rfl rfl (any_of HT_.out (by kernel_rfl)) (fun _ _ _ h => h) (Or.inl ⟨by rfl, ?_⟩) ?_ ?_
                  rotate_left
                  ·
                   intro w'
                   go_simp
                   with_reducible rfl
                  rotate_left
                  ·
                   simp only [Act.put, List.setIfInBounds_toArray, List.set_cons_zero, List.set_cons_succ, i64_w, i32_w]
                   rfl
                  refine take_ (i := 13) (N := some 111) (v := ?_) (a' := ?_) #[true, true, true, true, true, true, true, true, true, true, true, true, true, true, false, false, true, false] rfl rfl (take_ofW HT_.out HW_.out (by kernel_rfl)) (fun _ _ _ h => h) (Or.inl ⟨by rfl, ?_⟩) hHeld ?_ ?_
                  rotate_left
                  ·
                   rintro w' ⟨s0, s1⟩
                   go_simp
                   with_reducible rfl
                  rotate_left
                  ·
                   simp only [Act.put, List.setIfInBounds_toArray, List.set_cons_zero, List.set_cons_succ, i64_w, i32_w]
                   rfl
                  refine pure_ (i := 14) (N := some 112) (v := ?_) (a' := ?_) #[true, true, true, true, true, true, true, true, true, true, true, true, true, true, true, false, true, false] rfl rfl (any_of HT_.out (by kernel_rfl)) (fun _ _ _ h => h) (Or.inl ⟨by rfl, ?_⟩) ?_ ?_
                  rotate_left
                  ·
                   intro w'
                   go_simp
                   with_reducible rfl
                  rotate_left
                  ·
                   simp only [Act.put, List.setIfInBounds_toArray, List.set_cons_zero, List.set_cons_succ, i64_w, i32_w]
                   rfl
                  refine pure_ (i := 15) (N := some 113) (v := ?_) (a' := ?_) #[true, true, true, true, true, true, true, true, true, true, true, true, true, true, true, true, true, false] rfl rfl (any_of HT_.out (by kernel_rfl)) (fun _ _ _ h => h) (Or.inl ⟨by rfl, ?_⟩) ?_ ?_
                  rotate_left
                  ·
                   intro w'
                   go_simp
                   with_reducible rfl
                  rotate_left
                  ·
                   simp only [Act.put, List.setIfInBounds_toArray, List.set_cons_zero, List.set_cons_succ, i64_w, i32_w]
                   rfl
                  refine pure_ (i := 17) (N := some 15) (v := ?_) (a' := ?_) #[true, true, true, true, true, true, true, true, true, true, true, true, true, true, true, true, true, true] rfl rfl (any_of HT_.out (by kernel_rfl)) (fun _ _ _ h => h) (Or.inl ⟨by rfl, ?_⟩) ?_ ?_
                  rotate_left
                  ·
                   intro w'
                   go_simp
                   with_reducible rfl
                  rotate_left
                  ·
                   simp only [Act.put, List.setIfInBounds_toArray, List.set_cons_zero, List.set_cons_succ, i64_w, i32_w]
                   rfl
                  refine done_ (done_of HT_.out (by kernel_rfl)) ?_
                  go_upto_block 2 with (fail)
                  have hpos_ := Aside0.mk (show 0 < x10_1.length by have hh_ := of_decide_eq_true c34b0; have hg_ := of_decide_eq_true c35b0; omega)
                  go_cut [14] (fun v14 wc => ∃ (kq : Nat) (x14_42 : Int), v14 = .int .u64 x14_42 ∧ Aside0 (smallbig_nat_div.j3 kq x4_1 (IntKind.u64.wrap (wrap64 ((wrap64 (32 * (l1.length : Int))) - t156))) t157 x10_1 (t157.length : Int) x12_1 x14_42 = some (r1, r2)) ∧ Aside0 (kq ≤ k1) ∧ Aside0 (Kd.R (Kd.int .u32) 175 wc w.heap.size (fun k_ => (w.heap.size ≤ k_) ∧ some k_ ≠ ((.slice (some ad181) x10_1.length co45) : Value).ownBlock) v170 x4_1) ∧ Aside0 (Kd.V (Kd.int .u32) 175 wc w.heap.size (fun k_ => (w.heap.size ≤ k_) ∧ some k_ ≠ (v170 : Value).ownBlock ∧ some k_ ≠ ((.slice (some ad181) x10_1.length co45) : Value).ownBlock) (.slice (some ad183) t157.length co29) t157) ∧ Aside0 (Kd.R (Kd.int .u32) 175 wc w.heap.size (fun k_ => (w.heap.size ≤ k_) ∧ some k_ ≠ (v170 : Value).ownBlock) (.slice (some ad181) x10_1.length co45) x10_1) ∧ Aside0 (Below w.heap.size w wc))
                  case first =>
                   have H := HC43.out
                   clear HC43
                   have H' := Aside0.mk H
                   clear H
                   go_wp2
                   go_loopg [14, 15] k1 (fun kq v14 v15 w' => ∃ (x14_2 : Int) (x15_2 : Int), v14 = .int .u64 x14_2 ∧ v15 = .int .u64 x15_2 ∧ Aside0 (smallbig_nat_div.l1 kq x4_1 (IntKind.u64.wrap (wrap64 ((wrap64 (32 * (l1.length : Int))) - t156))) t157 x10_1 (t157.length : Int) x12_1 x14_2 x15_2 = some (r1, r2)) ∧ Aside0 (kq ≤ k1) ∧ Aside0 (Kd.R (Kd.int .u32) 175 w' w.heap.size (fun k_ => (w.heap.size ≤ k_) ∧ some k_ ≠ ((.slice (some ad181) x10_1.length co45) : Value).ownBlock) v170 x4_1) ∧ Aside0 (Kd.V (Kd.int .u32) 175 w' w.heap.size (fun k_ => (w.heap.size ≤ k_) ∧ some k_ ≠ (v170 : Value).ownBlock ∧ some k_ ≠ ((.slice (some ad181) x10_1.length co45) : Value).ownBlock) (.slice (some ad183) t157.length co29) t157) ∧ Aside0 (Kd.R (Kd.int .u32) 175 w' w.heap.size (fun k_ => (w.heap.size ≤ k_) ∧ some k_ ≠ (v170 : Value).ownBlock) (.slice (some ad181) x10_1.length co45) x10_1) ∧ Aside0 (Below w.heap.size w w'))
                   case atStart => exact ⟨(IntKind.u64.wrap (Int.tdiv (Go.bits .or .u64 (IntKind.u64.wrap ((IntKind.u64.wrap (rd x10_1 (ji33))) * 4294967296)) (IntKind.u64.wrap (rd x10_1 (ji36)))) (IntKind.u64.wrap (rd t157 (ji39))))), (Int.tmod (Go.bits .or .u64 (IntKind.u64.wrap ((IntKind.u64.wrap (rd x10_1 (ji33))) * 4294967296)) (IntKind.u64.wrap (rd x10_1 (ji36)))) (IntKind.u64.wrap (rd t157 (ji39)))), (by first | rfl | (simp; done) | (simp only [← hji33, ← hji36, ← hji39] <;> (first | rfl | simp)) | (simp [*]; done)), (by first | rfl | (simp; done) | (simp only [← hji33, ← hji36, ← hji39] <;> (first | rfl | simp)) | (simp [*]; done)), H', ⟨Nat.le_refl _⟩, ⟨by (with_reducible repeat (first | apply Kd.R_alloc | apply Kd.R_drewN | apply Kd.R_drew)); exact HO_4.out⟩, ⟨by (with_reducible repeat (first | apply Kd.V_alloc | apply Kd.V_drewN | apply Kd.V_drew)); exact HO_9.out⟩, ⟨by (with_reducible repeat (first | apply Kd.R_alloc | apply Kd.R_drewN | apply Kd.R_drew)); exact HO_10.out⟩, ⟨by repeat (first | (with_reducible first | exact HB.out | apply below_alloc | apply pw_below_drewN | apply below_drew1) | exact HB.out)⟩⟩
                   case round =>
                    clear H'
                    try clear c1
                    try clear p1
                    try clear q1
                    try clear hx1
                    try clear qi1
                    try clear c2
                    try clear p2
                    try clear c3
                    try clear c3b0
                    try clear c3b1
                    try clear c3b2
                    try clear c4
                    try clear c5
                    try clear c5b0
                    try clear c6
                    try clear c6b0
                    try clear c6b1
                    try clear p6
                    try clear c7
                    try clear c7b0
                    try clear c7b1
                    try clear c12
                    try clear p14
                    try clear q14
                    try clear hx14
                    try clear qi14
                    try clear c15
                    try clear c15b0
                    try clear c15b1
                    try clear c16
                    try clear c16b0
                    try clear c16b1
                    try clear c18
                    try clear p18
                    try clear q18
                    try clear hx18
                    try clear c19
                    try clear c19b0
                    try clear c19b1
                    try clear c20
                    try clear c20b0
                    try clear c20b1
                    try clear c32
                    try clear c32b0
                    try clear c34
                    try clear c34b0
                    try clear c35
                    try clear c35b0
                    try clear c37
                    try clear c37b0
                    try clear c38
                    try clear c38b0
                    try clear c40
                    try clear c40b0
                    try clear c41
                    try clear c41b0
                    try clear c42
                    try clear c42b0
                    try clear c42b1
                    try clear hx148_0
                    try clear hx181_0
                    try clear hx182_0
                    try clear hx183_0
                    try clear hx184_0
                    try clear p1
                    try clear p14
                    try clear p148
                    try clear p181
                    try clear p182
                    try clear p183
                    try clear p184
                    try clear p2
                    try clear p6
                    try clear q1
                    try clear q14
                    try clear q148
                    try clear q181
                    try clear q182
                    try clear q183
                    try clear q184
                    obtain ⟨x14_2, x15_2, rfl, rfl, HA, HK2, HO_4, HO_9, HO_10, HB⟩ := hrel
                    cases gk with
                    | zero => exact absurd HA.out (by simp [smallbig_nat_div.l1])
                    | succ k2 =>
                     have H := HA.out
                     clear HA
                     simp only [smallbig_nat_div.l1] at H
                     have HC47 := Aside0.mk H
                     clear H
                     go_upto_region 18 with (fail)
                     go_cut [138] (fun v138 wc => ∃ (kq : Nat) (x138_46 : Bool), v138 = .bool x138_46 ∧ Aside0 (smallbig_nat_div.j2 kq x4_1 (IntKind.u64.wrap (wrap64 ((wrap64 (32 * (l1.length : Int))) - t156))) t157 x10_1 (t157.length : Int) x12_1 x14_2 x15_2 x138_46 = some (r1, r2)) ∧ Aside0 (kq ≤ k2) ∧ Aside0 (Kd.R (Kd.int .u32) 175 wc w.heap.size (fun k_ => (w.heap.size ≤ k_) ∧ some k_ ≠ ((.slice (some ad181) x10_1.length co45) : Value).ownBlock) v170 x4_1) ∧ Aside0 (Kd.V (Kd.int .u32) 175 wc w.heap.size (fun k_ => (w.heap.size ≤ k_) ∧ some k_ ≠ (v170 : Value).ownBlock ∧ some k_ ≠ ((.slice (some ad181) x10_1.length co45) : Value).ownBlock) (.slice (some ad183) t157.length co29) t157) ∧ Aside0 (Kd.R (Kd.int .u32) 175 wc w.heap.size (fun k_ => (w.heap.size ≤ k_) ∧ some k_ ≠ (v170 : Value).ownBlock) (.slice (some ad181) x10_1.length co45) x10_1) ∧ Aside0 (Below w.heap.size w wc))
                     case first =>
                      have H := HC47.out
                      clear HC47
                      by_cases c48 : (x14_2 / 4294967296) = 0
                      ·
                       rw [if_pos c48] at H
                       have c48b0 : ((x14_2 / 4294967296) == 0) = true := beq_iff_eq.mpr c48
                       have c48b1 : ((x14_2 / 4294967296) != 0) = false := bne_eq_false_iff_eq.mpr c48
                       clear c48
                       (first | rw [c48b0] | (simp only [i64_w, i32_w]; rw [c48b0]) | skip)
                       obtain ⟨ji49, hji49⟩ : ∃ j_ : Int, (wrap64 ((t157.length : Int) - 2)) = j_ := ⟨_, rfl⟩
                       replace H : (if 0 ≤ (ji49) then (if (ji49) < (t157.length : Int) then (if 0 ≤ (wrap64 ((wrap64 (x12_1 + (t157.length : Int))) - 2)) then (if (wrap64 ((wrap64 (x12_1 + (t157.length : Int))) - 2)) < (x10_1.length : Int) then (smallbig_nat_div.j2 k2 x4_1 (IntKind.u64.wrap (wrap64 ((wrap64 (32 * (l1.length : Int))) - t156))) t157 x10_1 (t157.length : Int) x12_1 x14_2 x15_2 (decide ((IntKind.u64.wrap (x14_2 * (IntKind.u64.wrap (rd t157 (ji49))))) > (Go.bits .or .u64 (IntKind.u64.wrap (x15_2 * 4294967296)) (IntKind.u64.wrap (rd x10_1 (wrap64 ((wrap64 (x12_1 + (t157.length : Int))) - 2)))))))) else (none)) else (none)) else (none)) else (none)) = some (r1, r2) := by first | (rw [hji49] at H; exact H) | (simp only [hji49] at H ⊢; exact H)
                       have hji49w : (IntKind.i64.wrap ((t157.length : Int) - 2)) = ji49 := (i64_w _).trans hji49
                       by_cases c50 : 0 ≤ (ji49)
                       ·
                        rw [if_pos c50] at H
                        have c50b0 : decide (0 ≤ (ji49)) = true := decide_eq_true c50
                        clear c50
                        by_cases c51 : (ji49) < (t157.length : Int)
                        ·
                         rw [if_pos c51] at H
                         have c51b0 : decide ((ji49) < (t157.length : Int)) = true := decide_eq_true c51
                         clear c51
                         obtain ⟨ji52, hji52⟩ : ∃ j_ : Int, (wrap64 ((wrap64 (x12_1 + (t157.length : Int))) - 2)) = j_ := ⟨_, rfl⟩
                         replace H : (if 0 ≤ (ji52) then (if (ji52) < (x10_1.length : Int) then (smallbig_nat_div.j2 k2 x4_1 (IntKind.u64.wrap (wrap64 ((wrap64 (32 * (l1.length : Int))) - t156))) t157 x10_1 (t157.length : Int) x12_1 x14_2 x15_2 (decide ((IntKind.u64.wrap (x14_2 * (IntKind.u64.wrap (rd t157 (ji49))))) > (Go.bits .or .u64 (IntKind.u64.wrap (x15_2 * 4294967296)) (IntKind.u64.wrap (rd x10_1 (ji52))))))) else (none)) else (none)) = some (r1, r2) := by first | (rw [hji52] at H; exact H) | (simp only [hji52] at H ⊢; exact H)
                         have hji52w : (IntKind.i64.wrap ((wrap64 (x12_1 + (t157.length : Int))) - 2)) = ji52 := (i64_w _).trans hji52
                         have hji52x : wrap64 (ji33 - 2) = ji52 := by rw [← hji33]; exact hji52
                         by_cases c53 : 0 ≤ (ji52)
                         ·
                          rw [if_pos c53] at H
                          have c53b0 : decide (0 ≤ (ji52)) = true := decide_eq_true c53
                          clear c53
                          by_cases c54 : (ji52) < (x10_1.length : Int)
                          ·
                           rw [if_pos c54] at H
                           have c54b0 : decide ((ji52) < (x10_1.length : Int)) = true := decide_eq_true c54
                           clear c54
                           have H' := Aside0.mk H
                           clear H
                           try go_wp2
                           have n0_ := Aside0.mk (Kd.R_drew HO_4.out)
                           have n1_ := Aside0.mk (Kd.V_drew HO_9.out)
                           have n2_ := Aside0.mk (Kd.R_drew HO_10.out)
                           have n3_ := Aside0.mk (below_drew1 HB.out)
                           clear HO_4
                           clear HO_9
                           clear HO_10
                           clear HB
                           have HO_4 := n0_
                           have HO_9 := n1_
                           have HO_10 := n2_
                           have HB := n3_
                           clear n0_ n1_ n2_ n3_
                           have p185 : 0 ≤ ((ji49) : Int) := of_decide_eq_true (by first | (with_reducible assumption) | assumption)
                           have q185 : (ji49) < (t157.length : Int) := of_decide_eq_true (by first | (with_reducible assumption) | assumption)
                           obtain ⟨ad185, e185, hx185_0⟩ := Kd.at_int (Kd.V_reads' HO_9.out).2.2 (ji49) p185 q185
                           obtain rfl : ad183 = ad185 := (by injection e185)
                           replace p185 := eq_true p185
                           replace q185 := eq_true q185
                           have p186 : 0 ≤ ((ji52) : Int) := of_decide_eq_true (by first | (with_reducible assumption) | assumption)
                           have q186 : (ji52) < (x10_1.length : Int) := of_decide_eq_true (by first | (with_reducible assumption) | assumption)
                           obtain ⟨ad186, e186, hx186_0⟩ := Kd.at_int (Kd.R_reads' HO_10.out).2.2 (ji52) p186 q186
                           obtain rfl : ad181 = ad186 := (by injection e186)
                           replace p186 := eq_true p186
                           replace q186 := eq_true q186
                           refine start_ (n := 25) (S := fun w' => w'.cell? (ad183.add ((ji49)).toNat) = some (.int .u32 (rd t157 (ji49))) ∧ w'.cell? (ad181.add ((ji52)).toNat) = some (.int .u32 (rd x10_1 (ji52)))) (ds := []) #[false, false, false, false, false, false, false, false, false, false, false, false, false, false, false, false, false, false, false, false, false, false, false, false, false] (by kernel_rfl) rfl rfl ⟨hx185_0, hx186_0⟩ (fun hHeld => ?_); refine with_tabW smallbig_nat_div.tab18 smallbig_nat_div.bits18 (fun HT_ HW_ => ?_)
                           generalize wr.drew = w55 at HO_4 HO_9 HO_10 HB hx185_0 hx186_0 hHeld ⊢
                           refine pure_ (i := 0) (N := some 114) (v := ?_) (a' := ?_) #[true, false, false, false, false, false, false, false, false, false, false, false, false, false, false, false, false, false, false, false, false, false, false, false, false] rfl rfl (any_of HT_.out (by kernel_rfl)) (fun _ _ _ h => h) (Or.inl ⟨by rfl, ?_⟩) ?_ ?_
                           rotate_left
                           ·
                            intro w'
                            go_simp
                            with_reducible rfl
                           rotate_left
                           ·
                            simp only [Act.put, List.setIfInBounds_toArray, List.set_cons_zero, List.set_cons_succ, i64_w, i32_w]
                            rfl
                           refine pure_ (i := 1) (N := some 115) (v := ?_) (a' := ?_) #[true, true, false, false, false, false, false, false, false, false, false, false, false, false, false, false, false, false, false, false, false, false, false, false, false] rfl rfl (any_of HT_.out (by kernel_rfl)) (fun _ _ _ h => h) (Or.inl ⟨by rfl, ?_⟩) ?_ ?_
                           rotate_left
                           ·
                            intro w'
                            go_simp
                            with_reducible rfl
                           rotate_left
                           ·
                            simp only [Act.put, List.setIfInBounds_toArray, List.set_cons_zero, List.set_cons_succ, i64_w, i32_w]
                            rfl
                           refine pure_ (i := 2) (N := some 116) (v := ?_) (a' := ?_) #[true, true, true, false, false, false, false, false, false, false, false, false, false, false, false, false, false, false, false, false, false, false, false, false, false] rfl rfl (any_of HT_.out (by kernel_rfl)) (fun _ _ _ h => h) (Or.inl ⟨by rfl, ?_⟩) ?_ ?_
                           rotate_left
                           ·
                            intro w'
                            go_simp
                            with_reducible rfl
                           rotate_left
                           ·
                            simp only [Act.put, List.setIfInBounds_toArray, List.set_cons_zero, List.set_cons_succ, i64_w, i32_w]
                            rfl
                           refine pure_ (i := 3) (N := some 117) (v := ?_) (a' := ?_) #[true, true, true, true, false, false, false, false, false, false, false, false, false, false, false, false, false, false, false, false, false, false, false, false, false] rfl rfl (any_of HT_.out (by kernel_rfl)) (fun _ _ _ h => h) (Or.inl ⟨by rfl, ?_⟩) ?_ ?_
                           rotate_left
                           ·
                            intro w'
                            go_simp
                            with_reducible rfl
                           rotate_left
                           ·
                            simp only [Act.put, List.setIfInBounds_toArray, List.set_cons_zero, List.set_cons_succ, i64_w, i32_w]
                            rfl
                           refine pure_ (i := 4) (N := some 118) (v := ?_) (a' := ?_) #[true, true, true, true, true, false, false, false, false, false, false, false, false, false, false, false, false, false, false, false, false, false, false, false, false] rfl rfl (any_of HT_.out (by kernel_rfl)) (fun _ _ _ h => h) (Or.inl ⟨by rfl, ?_⟩) ?_ ?_
                           rotate_left
                           ·
                            intro w'
                            go_simp
                            with_reducible rfl
                           rotate_left
                           ·
                            simp only [Act.put, List.setIfInBounds_toArray, List.set_cons_zero, List.set_cons_succ, i64_w, i32_w]
                            rfl
                           refine pure_ (i := 5) (N := some 119) (v := ?_) (a' := ?_) #[true, true, true, true, true, true, false, false, false, false, false, false, false, false, false, false, false, false, false, false, false, false, false, false, false] rfl rfl (any_of HT_.out (by kernel_rfl)) (fun _ _ _ h => h) (Or.inl ⟨by rfl, ?_⟩) ?_ ?_
                           rotate_left
                           ·
                            intro w'
                            go_simp
                            with_reducible rfl
                           rotate_left
                           ·
                            simp only [Act.put, List.setIfInBounds_toArray, List.set_cons_zero, List.set_cons_succ, i64_w, i32_w]
                            rfl
                           refine pure_ (i := 6) (N := some 120) (v := ?_) (a' := ?_) #[true, true, true, true, true, true, true, false, false, false, false, false, false, false, false, false, false, false, false, false, false, false, false, false, false] rfl rfl (any_of HT_.out (by kernel_rfl)) (fun _ _ _ h => h) (Or.inl ⟨by rfl, ?_⟩) ?_ ?_
                           rotate_left
                           ·
                            intro w'
                            go_simp
                            with_reducible rfl
                           rotate_left
                           ·
                            simp only [Act.put, List.setIfInBounds_toArray, List.set_cons_zero, List.set_cons_succ, i64_w, i32_w]
                            rfl
                           refine pure_ (i := 7) (N := some 121) (v := ?_) (a' := ?_) #[true, true, true, true, true, true, true, true, false, false, false, false, false, false, false, false, false, false, false, false, false, false, false, false, false] rfl rfl (any_of HT_.out (by kernel_rfl)) (fun _ _ _ h => h) (Or.inl ⟨by rfl, ?_⟩) ?_ ?_
                           rotate_left
                           ·
                            intro w'
                            go_simp
                            with_reducible rfl
                           rotate_left
                           ·
                            simp only [Act.put, List.setIfInBounds_toArray, List.set_cons_zero, List.set_cons_succ, i64_w, i32_w]
                            rfl
                           refine pure_ (i := 8) (N := some 122) (v := ?_) (a' := ?_) #[true, true, true, true, true, true, true, true, true, false, false, false, false, false, false, false, false, false, false, false, false, false, false, false, false] rfl rfl (any_of HT_.out (by kernel_rfl)) (fun _ _ _ h => h) (Or.inl ⟨by rfl, ?_⟩) ?_ ?_
                           rotate_left
                           ·
                            intro w'
                            go_simp
                            with_reducible rfl
                           rotate_left
                           ·
                            simp only [Act.put, List.setIfInBounds_toArray, List.set_cons_zero, List.set_cons_succ, i64_w, i32_w]
                            rfl
                           refine pure_ (i := 12) (N := some 126) (v := ?_) (a' := ?_) #[true, true, true, true, true, true, true, true, true, false, false, false, true, false, false, false, false, false, false, false, false, false, false, false, false] rfl rfl (any_of HT_.out (by kernel_rfl)) (fun _ _ _ h => h) (Or.inl ⟨by rfl, ?_⟩) ?_ ?_
                           rotate_left
                           ·
                            intro w'
                            go_simp
                            with_reducible rfl
                           rotate_left
                           ·
                            simp only [Act.put, List.setIfInBounds_toArray, List.set_cons_zero, List.set_cons_succ, i64_w, i32_w]
                            rfl
                           refine pure_ (i := 13) (N := some 127) (v := ?_) (a' := ?_) #[true, true, true, true, true, true, true, true, true, false, false, false, true, true, false, false, false, false, false, false, false, false, false, false, false] rfl rfl (any_of HT_.out (by kernel_rfl)) (fun _ _ _ h => h) (Or.inl ⟨by rfl, ?_⟩) ?_ ?_
                           rotate_left
                           ·
                            intro w'
                            go_simp
                            with_reducible rfl
                           rotate_left
                           ·
                            simp only [Act.put, List.setIfInBounds_toArray, List.set_cons_zero, List.set_cons_succ, i64_w, i32_w]
                            rfl
                           refine pure_ (i := 14) (N := some 128) (v := ?_) (a' := ?_) #[true, true, true, true, true, true, true, true, true, false, false, false, true, true, true, false, false, false, false, false, false, false, false, false, false] rfl rfl (any_of HT_.out (by kernel_rfl)) (fun _ _ _ h => h) (Or.inl ⟨by rfl, ?_⟩) ?_ ?_
                           rotate_left
                           ·
                            intro w'
                            go_simp
                            with_reducible rfl
                           rotate_left
                           ·
                            simp only [Act.put, List.setIfInBounds_toArray, List.set_cons_zero, List.set_cons_succ, i64_w, i32_w]
                            rfl
                           refine pure_ (i := 15) (N := some 129) (v := ?_) (a' := ?_) #[true, true, true, true, true, true, true, true, true, false, false, false, true, true, true, true, false, false, false, false, false, false, false, false, false] rfl rfl (any_of HT_.out (by kernel_rfl)) (fun _ _ _ h => h) (Or.inl ⟨by rfl, ?_⟩) ?_ ?_
                           rotate_left
                           ·
                            intro w'
                            go_simp
                            with_reducible rfl
                           rotate_left
                           ·
                            simp only [Act.put, List.setIfInBounds_toArray, List.set_cons_zero, List.set_cons_succ, i64_w, i32_w]
                            rfl
                           refine pure_ (i := 16) (N := some 130) (v := ?_) (a' := ?_) #[true, true, true, true, true, true, true, true, true, false, false, false, true, true, true, true, true, false, false, false, false, false, false, false, false] rfl rfl (any_of HT_.out (by kernel_rfl)) (fun _ _ _ h => h) (Or.inl ⟨by rfl, ?_⟩) ?_ ?_
                           rotate_left
                           ·
                            intro w'
                            go_simp
                            with_reducible rfl
                           rotate_left
                           ·
                            simp only [Act.put, List.setIfInBounds_toArray, List.set_cons_zero, List.set_cons_succ, i64_w, i32_w]
                            rfl
                           refine pure_ (i := 17) (N := some 131) (v := ?_) (a' := ?_) #[true, true, true, true, true, true, true, true, true, false, false, false, true, true, true, true, true, true, false, false, false, false, false, false, false] rfl rfl (any_of HT_.out (by kernel_rfl)) (fun _ _ _ h => h) (Or.inl ⟨by rfl, ?_⟩) ?_ ?_
                           rotate_left
                           ·
                            intro w'
                            go_simp
                            with_reducible rfl
                           rotate_left
                           ·
                            simp only [Act.put, List.setIfInBounds_toArray, List.set_cons_zero, List.set_cons_succ, i64_w, i32_w]
                            rfl
                           refine pure_ (i := 18) (N := some 132) (v := ?_) (a' := ?_) #[true, true, true, true, true, true, true, true, true, false, false, false, true, true, true, true, true, true, true, false, false, false, false, false, false] rfl rfl (any_of HT_.out (by kernel_rfl)) (fun _ _ _ h => h) (Or.inl ⟨by rfl, ?_⟩) ?_ ?_
                           rotate_left
                           ·
                            intro w'
                            go_simp
                            with_reducible rfl
                           rotate_left
                           ·
                            simp only [Act.put, List.setIfInBounds_toArray, List.set_cons_zero, List.set_cons_succ, i64_w, i32_w]
                            rfl
                           refine pure_ (i := 19) (N := some 133) (v := ?_) (a' := ?_) #[true, true, true, true, true, true, true, true, true, false, false, false, true, true, true, true, true, true, true, true, false, false, false, false, false] rfl rfl (any_of HT_.out (by kernel_rfl)) (fun _ _ _ h => h) (Or.inl ⟨by rfl, ?_⟩) ?_ ?_
                           rotate_left
                           ·
                            intro w'
                            go_simp
                            with_reducible rfl
                           rotate_left
                           ·
                            simp only [Act.put, List.setIfInBounds_toArray, List.set_cons_zero, List.set_cons_succ, i64_w, i32_w]
                            rfl
                           refine take_ (i := 9) (N := some 123) (v := ?_) (a' := ?_) #[true, true, true, true, true, true, true, true, true, true, false, false, true, true, true, true, true, true, true, true, false, false, false, false, false] rfl rfl (take_ofW HT_.out HW_.out (by kernel_rfl)) (fun _ _ _ h => h) (Or.inl ⟨by rfl, ?_⟩) hHeld ?_ ?_
                           rotate_left
                           ·
                            rintro w' ⟨s0, s1⟩
                            go_simp
                            with_reducible rfl
                           rotate_left
                           ·
                            simp only [Act.put, List.setIfInBounds_toArray, List.set_cons_zero, List.set_cons_succ, i64_w, i32_w]
                            rfl
                           refine pure_ (i := 10) (N := some 124) (v := ?_) (a' := ?_) #[true, true, true, true, true, true, true, true, true, true, true, false, true, true, true, true, true, true, true, true, false, false, false, false, false] rfl rfl (any_of HT_.out (by kernel_rfl)) (fun _ _ _ h => h) (Or.inl ⟨by rfl, ?_⟩) ?_ ?_
                           rotate_left
                           ·
                            intro w'
                            go_simp
                            with_reducible rfl
                           rotate_left
                           ·
                            simp only [Act.put, List.setIfInBounds_toArray, List.set_cons_zero, List.set_cons_succ, i64_w, i32_w]
                            rfl
                           refine pure_ (i := 11) (N := some 125) (v := ?_) (a' := ?_) #[true, true, true, true, true, true, true, true, true, true, true, true, true, true, true, true, true, true, true, true, false, false, false, false, false] rfl rfl (any_of HT_.out (by kernel_rfl)) (fun _ _ _ h => h) (Or.inl ⟨by rfl, ?_⟩) ?_ ?_
                           rotate_left
                           ·
                            intro w'
                            go_simp
                            with_reducible rfl
                           rotate_left
                           ·
                            simp only [Act.put, List.setIfInBounds_toArray, List.set_cons_zero, List.set_cons_succ, i64_w, i32_w]
                            rfl
                           refine take_ (i := 20) (N := some 134) (v := ?_) (a' := ?_) #[true, true, true, true, true, true, true, true, true, true, true, true, true, true, true, true, true, true, true, true, true, false, false, false, false] rfl rfl (take_ofW HT_.out HW_.out (by kernel_rfl)) (fun _ _ _ h => h) (Or.inl ⟨by rfl, ?_⟩) hHeld ?_ ?_
                           rotate_left
                           ·
                            rintro w' ⟨s0, s1⟩
                            go_simp
                            with_reducible rfl
                           rotate_left
                           ·
                            simp only [Act.put, List.setIfInBounds_toArray, List.set_cons_zero, List.set_cons_succ, i64_w, i32_w]
                            rfl
                           refine pure_ (i := 21) (N := some 135) (v := ?_) (a' := ?_) #[true, true, true, true, true, true, true, true, true, true, true, true, true, true, true, true, true, true, true, true, true, true, false, false, false] rfl rfl (any_of HT_.out (by kernel_rfl)) (fun _ _ _ h => h) (Or.inl ⟨by rfl, ?_⟩) ?_ ?_
                           rotate_left
                           ·
                            intro w'
                            go_simp
                            with_reducible rfl
                           rotate_left
                           ·
                            simp only [Act.put, List.setIfInBounds_toArray, List.set_cons_zero, List.set_cons_succ, i64_w, i32_w]
                            rfl
                           refine pure_ (i := 22) (N := some 136) (v := ?_) (a' := ?_) #[true, true, true, true, true, true, true, true, true, true, true, true, true, true, true, true, true, true, true, true, true, true, true, false, false] rfl rfl (any_of HT_.out (by kernel_rfl)) (fun _ _ _ h => h) (Or.inl ⟨by rfl, ?_⟩) ?_ ?_
                           rotate_left
                           ·
                            intro w'
                            go_simp
                            with_reducible rfl
                           rotate_left
                           ·
                            simp only [Act.put, List.setIfInBounds_toArray, List.set_cons_zero, List.set_cons_succ, i64_w, i32_w]
                            rfl
                           refine pure_ (i := 23) (N := some 137) (v := ?_) (a' := ?_) #[true, true, true, true, true, true, true, true, true, true, true, true, true, true, true, true, true, true, true, true, true, true, true, true, false] rfl rfl (any_of HT_.out (by kernel_rfl)) (fun _ _ _ h => h) (Or.inl ⟨by rfl, ?_⟩) ?_ ?_
                           rotate_left
                           ·
                            intro w'
                            go_simp
                            with_reducible rfl
                           rotate_left
                           ·
                            simp only [Act.put, List.setIfInBounds_toArray, List.set_cons_zero, List.set_cons_succ, i64_w, i32_w]
                            rfl
                           refine pure_ (i := 24) (N := some 138) (v := ?_) (a' := ?_) #[true, true, true, true, true, true, true, true, true, true, true, true, true, true, true, true, true, true, true, true, true, true, true, true, true] rfl rfl (any_of HT_.out (by kernel_rfl)) (fun _ _ _ h => h) (Or.inl ⟨by rfl, ?_⟩) ?_ ?_
                           rotate_left
                           ·
                            intro w'
                            go_simp
                            with_reducible rfl
                           rotate_left
                           ·
                            simp only [Act.put, List.setIfInBounds_toArray, List.set_cons_zero, List.set_cons_succ, i64_w, i32_w]
                            rfl
                           refine done_ (done_of HT_.out (by kernel_rfl)) ?_
                           try go_wp2
                           go_meet
                           case rel => exact ⟨_, (decide ((IntKind.u64.wrap (x14_2 * (IntKind.u64.wrap (rd t157 (ji49))))) > (Go.bits .or .u64 (IntKind.u64.wrap (x15_2 * 4294967296)) (IntKind.u64.wrap (rd x10_1 (ji52)))))), (by first | rfl | (simp; done) | (simp only [← hji49, ← hji52] <;> (first | rfl | simp)) | (simp [*]; done)), H', ⟨by have := HK1.out; have := HK2.out; first | omega | exact Nat.le_refl _⟩, ⟨by (with_reducible repeat (first | apply Kd.R_alloc | apply Kd.R_drewN | apply Kd.R_drew)); exact HO_4.out⟩, ⟨by (with_reducible repeat (first | apply Kd.V_alloc | apply Kd.V_drewN | apply Kd.V_drew)); exact HO_9.out⟩, ⟨by (with_reducible repeat (first | apply Kd.R_alloc | apply Kd.R_drewN | apply Kd.R_drew)); exact HO_10.out⟩, ⟨by repeat (first | (with_reducible first | exact HB.out | apply below_alloc | apply pw_below_drewN | apply below_drew1) | exact HB.out)⟩⟩
                          ·
                           rw [if_neg c54] at H
                           exact absurd H (by simp)
                         ·
                          rw [if_neg c53] at H
                          exact absurd H (by simp)
                        ·
                         rw [if_neg c51] at H
                         exact absurd H (by simp)
                       ·
                        rw [if_neg c50] at H
                        exact absurd H (by simp)
                      ·
                       rw [if_neg c48] at H
                       have c48b0 : ((x14_2 / 4294967296) == 0) = false := beq_eq_false_iff_ne.mpr c48
                       have c48b1 : ((x14_2 / 4294967296) != 0) = true := bne_iff_ne.mpr c48
                       (first | rw [c48b0] | (simp only [i64_w, i32_w]; rw [c48b0]) | skip)
                       have H' := Aside0.mk H
                       clear H
                       try go_wp2
                       have n0_ := Aside0.mk (Kd.R_drew HO_4.out)
                       have n1_ := Aside0.mk (Kd.V_drew HO_9.out)
                       have n2_ := Aside0.mk (Kd.R_drew HO_10.out)
                       have n3_ := Aside0.mk (below_drew1 HB.out)
                       clear HO_4
                       clear HO_9
                       clear HO_10
                       clear HB
                       have HO_4 := n0_
                       have HO_9 := n1_
                       have HO_10 := n2_
                       have HB := n3_
                       clear n0_ n1_ n2_ n3_
                       refine start_ (n := 25) (S := fun w' => True) (ds := []) #[false, false, false, false, false, false, false, false, false, false, false, false, false, false, false, false, false, false, false, false, false, false, false, false, false] (by kernel_rfl) rfl rfl trivial (fun hHeld => ?_); refine with_tabW smallbig_nat_div.tab18 smallbig_nat_div.bits18 (fun HT_ HW_ => ?_)
                       generalize wr.drew = w56 at HO_4 HO_9 HO_10 HB hHeld ⊢
                       refine pure_ (i := 0) (N := some 114) (v := ?_) (a' := ?_) #[true, false, false, false, false, false, false, false, false, false, false, false, false, false, false, false, false, false, false, false, false, false, false, false, false] rfl rfl (any_of HT_.out (by kernel_rfl)) (fun _ _ _ h => h) (Or.inl ⟨by rfl, ?_⟩) ?_ ?_
                       rotate_left
                       ·
                        intro w'
                        go_simp
                        with_reducible rfl
                       rotate_left
                       ·
                        simp only [Act.put, List.setIfInBounds_toArray, List.set_cons_zero, List.set_cons_succ, i64_w, i32_w]
                        rfl
                       refine pure_ (i := 1) (N := some 115) (v := ?_) (a' := ?_) #[true, true, false, false, false, false, false, false, false, false, false, false, false, false, false, false, false, false, false, false, false, false, false, false, false] rfl rfl (any_of HT_.out (by kernel_rfl)) (fun _ _ _ h => h) (Or.inl ⟨by rfl, ?_⟩) ?_ ?_
                       rotate_left
                       ·
                        intro w'
                        go_simp
                        with_reducible rfl
                       rotate_left
                       ·
                        simp only [Act.put, List.setIfInBounds_toArray, List.set_cons_zero, List.set_cons_succ, i64_w, i32_w]
                        rfl
                       refine pure_ (i := 2) (N := some 116) (v := ?_) (a' := ?_) #[true, true, true, false, false, false, false, false, false, false, false, false, false, false, false, false, false, false, false, false, false, false, false, false, false] rfl rfl (any_of HT_.out (by kernel_rfl)) (fun _ _ _ h => h) (Or.inl ⟨by rfl, ?_⟩) ?_ ?_
                       rotate_left
                       ·
                        intro w'
                        go_simp
                        with_reducible rfl
                       rotate_left
                       ·
                        simp only [Act.put, List.setIfInBounds_toArray, List.set_cons_zero, List.set_cons_succ, i64_w, i32_w]
                        rfl
                       refine pure_ (i := 3) (N := some 117) (v := ?_) (a' := ?_) #[true, true, true, true, false, false, false, false, false, false, false, false, false, false, false, false, false, false, false, false, false, false, false, false, false] rfl rfl (any_of HT_.out (by kernel_rfl)) (fun _ _ _ h => h) (Or.inl ⟨by rfl, ?_⟩) ?_ ?_
                       rotate_left
                       ·
                        intro w'
                        go_simp
                        with_reducible rfl
                       rotate_left
                       ·
                        simp only [Act.put, List.setIfInBounds_toArray, List.set_cons_zero, List.set_cons_succ, i64_w, i32_w]
                        rfl
                       refine pure_ (i := 4) (N := some 118) (v := undef) (a' := ?_) #[true, true, true, true, true, false, false, false, false, false, false, false, false, false, false, false, false, false, false, false, false, false, false, false, false] rfl rfl (any_of HT_.out (by kernel_rfl)) (fun _ _ _ h => h) (Or.inr ⟨by rfl, rfl⟩) ?_ ?_
                       rotate_left
                       ·
                        simp only [Act.put, List.setIfInBounds_toArray, List.set_cons_zero, List.set_cons_succ, i64_w, i32_w]
                        rfl
                       refine pure_ (i := 5) (N := some 119) (v := undef) (a' := ?_) #[true, true, true, true, true, true, false, false, false, false, false, false, false, false, false, false, false, false, false, false, false, false, false, false, false] rfl rfl (any_of HT_.out (by kernel_rfl)) (fun _ _ _ h => h) (Or.inr ⟨by rfl, rfl⟩) ?_ ?_
                       rotate_left
                       ·
                        simp only [Act.put, List.setIfInBounds_toArray, List.set_cons_zero, List.set_cons_succ, i64_w, i32_w]
                        rfl
                       refine pure_ (i := 6) (N := some 120) (v := undef) (a' := ?_) #[true, true, true, true, true, true, true, false, false, false, false, false, false, false, false, false, false, false, false, false, false, false, false, false, false] rfl rfl (any_of HT_.out (by kernel_rfl)) (fun _ _ _ h => h) (Or.inr ⟨by rfl, rfl⟩) ?_ ?_
                       rotate_left
                       ·
                        simp only [Act.put, List.setIfInBounds_toArray, List.set_cons_zero, List.set_cons_succ, i64_w, i32_w]
                        rfl
                       refine pure_ (i := 7) (N := some 121) (v := undef) (a' := ?_) #[true, true, true, true, true, true, true, true, false, false, false, false, false, false, false, false, false, false, false, false, false, false, false, false, false] rfl rfl (any_of HT_.out (by kernel_rfl)) (fun _ _ _ h => h) (Or.inr ⟨by rfl, rfl⟩) ?_ ?_
                       rotate_left
                       ·
                        simp only [Act.put, List.setIfInBounds_toArray, List.set_cons_zero, List.set_cons_succ, i64_w, i32_w]
                        rfl
                       refine pure_ (i := 8) (N := some 122) (v := undef) (a' := ?_) #[true, true, true, true, true, true, true, true, true, false, false, false, false, false, false, false, false, false, false, false, false, false, false, false, false] rfl rfl (any_of HT_.out (by kernel_rfl)) (fun _ _ _ h => h) (Or.inr ⟨by rfl, rfl⟩) ?_ ?_
                       rotate_left
                       ·
                        simp only [Act.put, List.setIfInBounds_toArray, List.set_cons_zero, List.set_cons_succ, i64_w, i32_w]
                        rfl
                       refine pure_ (i := 9) (N := some 123) (v := undef) (a' := ?_) #[true, true, true, true, true, true, true, true, true, true, false, false, false, false, false, false, false, false, false, false, false, false, false, false, false] rfl rfl (any_of HT_.out (by kernel_rfl)) (fun _ _ _ h => h) (Or.inr ⟨by rfl, rfl⟩) ?_ ?_
                       rotate_left
                       ·
                        simp only [Act.put, List.setIfInBounds_toArray, List.set_cons_zero, List.set_cons_succ, i64_w, i32_w]
                        rfl
                       refine pure_ (i := 10) (N := some 124) (v := undef) (a' := ?_) #[true, true, true, true, true, true, true, true, true, true, true, false, false, false, false, false, false, false, false, false, false, false, false, false, false] rfl rfl (any_of HT_.out (by kernel_rfl)) (fun _ _ _ h => h) (Or.inr ⟨by rfl, rfl⟩) ?_ ?_
                       rotate_left
                       ·
                        simp only [Act.put, List.setIfInBounds_toArray, List.set_cons_zero, List.set_cons_succ, i64_w, i32_w]
                        rfl
                       refine pure_ (i := 11) (N := some 125) (v := undef) (a' := ?_) #[true, true, true, true, true, true, true, true, true, true, true, true, false, false, false, false, false, false, false, false, false, false, false, false, false] rfl rfl (any_of HT_.out (by kernel_rfl)) (fun _ _ _ h => h) (Or.inr ⟨by rfl, rfl⟩) ?_ ?_
                       rotate_left
                       ·
                        simp only [Act.put, List.setIfInBounds_toArray, List.set_cons_zero, List.set_cons_succ, i64_w, i32_w]
                        rfl
                       refine pure_ (i := 12) (N := some 126) (v := undef) (a' := ?_) #[true, true, true, true, true, true, true, true, true, true, true, true, true, false, false, false, false, false, false, false, false, false, false, false, false] rfl rfl (any_of HT_.out (by kernel_rfl)) (fun _ _ _ h => h) (Or.inr ⟨by rfl, rfl⟩) ?_ ?_
                       rotate_left
                       ·
                        simp only [Act.put, List.setIfInBounds_toArray, List.set_cons_zero, List.set_cons_succ, i64_w, i32_w]
                        rfl
                       refine pure_ (i := 13) (N := some 127) (v := undef) (a' := ?_) #[true, true, true, true, true, true, true, true, true, true, true, true, true, true, false, false, false, false, false, false, false, false, false, false, false] rfl rfl (any_of HT_.out (by kernel_rfl)) (fun _ _ _ h => h) (Or.inr ⟨by rfl, rfl⟩) ?_ ?_
                       rotate_left
                       ·
                        simp only [Act.put, List.setIfInBounds_toArray, List.set_cons_zero, List.set_cons_succ, i64_w, i32_w]
                        rfl
                       refine pure_ (i := 14) (N := some 128) (v := undef) (a' := ?_) #[true, true, true, true, true, true, true, true, true, true, true, true, true, true, true, false, false, false, false, false, false, false, false, false, false] rfl rfl (any_of HT_.out (by kernel_rfl)) (fun _ _ _ h => h) (Or.inr ⟨by rfl, rfl⟩) ?_ ?_
                       rotate_left
                       ·
                        simp only [Act.put, List.setIfInBounds_toArray, List.set_cons_zero, List.set_cons_succ, i64_w, i32_w]
                        rfl
                       refine pure_ (i := 15) (N := some 129) (v := undef) (a' := ?_) #[true, true, true, true, true, true, true, true, true, true, true, true, true, true, true, true, false, false, false, false, false, false, false, false, false] rfl rfl (any_of HT_.out (by kernel_rfl)) (fun _ _ _ h => h) (Or.inr ⟨by rfl, rfl⟩) ?_ ?_
                       rotate_left
                       ·
                        simp only [Act.put, List.setIfInBounds_toArray, List.set_cons_zero, List.set_cons_succ, i64_w, i32_w]
                        rfl
                       refine pure_ (i := 16) (N := some 130) (v := undef) (a' := ?_) #[true, true, true, true, true, true, true, true, true, true, true, true, true, true, true, true, true, false, false, false, false, false, false, false, false] rfl rfl (any_of HT_.out (by kernel_rfl)) (fun _ _ _ h => h) (Or.inr ⟨by rfl, rfl⟩) ?_ ?_
                       rotate_left
                       ·
                        simp only [Act.put, List.setIfInBounds_toArray, List.set_cons_zero, List.set_cons_succ, i64_w, i32_w]
                        rfl
                       refine pure_ (i := 17) (N := some 131) (v := undef) (a' := ?_) #[true, true, true, true, true, true, true, true, true, true, true, true, true, true, true, true, true, true, false, false, false, false, false, false, false] rfl rfl (any_of HT_.out (by kernel_rfl)) (fun _ _ _ h => h) (Or.inr ⟨by rfl, rfl⟩) ?_ ?_
                       rotate_left
                       ·
                        simp only [Act.put, List.setIfInBounds_toArray, List.set_cons_zero, List.set_cons_succ, i64_w, i32_w]
                        rfl
                       refine pure_ (i := 18) (N := some 132) (v := undef) (a' := ?_) #[true, true, true, true, true, true, true, true, true, true, true, true, true, true, true, true, true, true, true, false, false, false, false, false, false] rfl rfl (any_of HT_.out (by kernel_rfl)) (fun _ _ _ h => h) (Or.inr ⟨by rfl, rfl⟩) ?_ ?_
                       rotate_left
                       ·
                        simp only [Act.put, List.setIfInBounds_toArray, List.set_cons_zero, List.set_cons_succ, i64_w, i32_w]
                        rfl
                       refine pure_ (i := 19) (N := some 133) (v := undef) (a' := ?_) #[true, true, true, true, true, true, true, true, true, true, true, true, true, true, true, true, true, true, true, true, false, false, false, false, false] rfl rfl (any_of HT_.out (by kernel_rfl)) (fun _ _ _ h => h) (Or.inr ⟨by rfl, rfl⟩) ?_ ?_
                       rotate_left
                       ·
                        simp only [Act.put, List.setIfInBounds_toArray, List.set_cons_zero, List.set_cons_succ, i64_w, i32_w]
                        rfl
                       refine pure_ (i := 20) (N := some 134) (v := undef) (a' := ?_) #[true, true, true, true, true, true, true, true, true, true, true, true, true, true, true, true, true, true, true, true, true, false, false, false, false] rfl rfl (any_of HT_.out (by kernel_rfl)) (fun _ _ _ h => h) (Or.inr ⟨by rfl, rfl⟩) ?_ ?_
                       rotate_left
                       ·
                        simp only [Act.put, List.setIfInBounds_toArray, List.set_cons_zero, List.set_cons_succ, i64_w, i32_w]
                        rfl
                       refine pure_ (i := 21) (N := some 135) (v := undef) (a' := ?_) #[true, true, true, true, true, true, true, true, true, true, true, true, true, true, true, true, true, true, true, true, true, true, false, false, false] rfl rfl (any_of HT_.out (by kernel_rfl)) (fun _ _ _ h => h) (Or.inr ⟨by rfl, rfl⟩) ?_ ?_
                       rotate_left
                       ·
                        simp only [Act.put, List.setIfInBounds_toArray, List.set_cons_zero, List.set_cons_succ, i64_w, i32_w]
                        rfl
                       refine pure_ (i := 22) (N := some 136) (v := undef) (a' := ?_) #[true, true, true, true, true, true, true, true, true, true, true, true, true, true, true, true, true, true, true, true, true, true, true, false, false] rfl rfl (any_of HT_.out (by kernel_rfl)) (fun _ _ _ h => h) (Or.inr ⟨by rfl, rfl⟩) ?_ ?_
                       rotate_left
                       ·
                        simp only [Act.put, List.setIfInBounds_toArray, List.set_cons_zero, List.set_cons_succ, i64_w, i32_w]
                        rfl
                       refine pure_ (i := 23) (N := some 137) (v := undef) (a' := ?_) #[true, true, true, true, true, true, true, true, true, true, true, true, true, true, true, true, true, true, true, true, true, true, true, true, false] rfl rfl (any_of HT_.out (by kernel_rfl)) (fun _ _ _ h => h) (Or.inr ⟨by rfl, rfl⟩) ?_ ?_
                       rotate_left
                       ·
                        simp only [Act.put, List.setIfInBounds_toArray, List.set_cons_zero, List.set_cons_succ, i64_w, i32_w]
                        rfl
                       refine pure_ (i := 24) (N := some 138) (v := ?_) (a' := ?_) #[true, true, true, true, true, true, true, true, true, true, true, true, true, true, true, true, true, true, true, true, true, true, true, true, true] rfl rfl (any_of HT_.out (by kernel_rfl)) (fun _ _ _ h => h) (Or.inl ⟨by rfl, ?_⟩) ?_ ?_
                       rotate_left
                       ·
                        intro w'
                        go_simp
                        with_reducible rfl
                       rotate_left
                       ·
                        simp only [Act.put, List.setIfInBounds_toArray, List.set_cons_zero, List.set_cons_succ, i64_w, i32_w]
                        rfl
                       refine done_ (done_of HT_.out (by kernel_rfl)) ?_
                       try go_wp2
                       go_meet
                       case rel => exact ⟨_, (true), (by first | rfl | (simp; done) | (simp [*]; done)), H', ⟨by have := HK1.out; have := HK2.out; first | omega | exact Nat.le_refl _⟩, ⟨by (with_reducible repeat (first | apply Kd.R_alloc | apply Kd.R_drewN | apply Kd.R_drew)); exact HO_4.out⟩, ⟨by (with_reducible repeat (first | apply Kd.V_alloc | apply Kd.V_drewN | apply Kd.V_drew)); exact HO_9.out⟩, ⟨by (with_reducible repeat (first | apply Kd.R_alloc | apply Kd.R_drewN | apply Kd.R_drew)); exact HO_10.out⟩, ⟨by repeat (first | (with_reducible first | exact HB.out | apply below_alloc | apply pw_below_drewN | apply below_drew1) | exact HB.out)⟩⟩
                     case rest =>
                      clear HC47
                      try clear c1
                      try clear p1
                      try clear q1
                      try clear hx1
                      try clear qi1
                      try clear c2
                      try clear p2
                      try clear c3
                      try clear c3b0
                      try clear c3b1
                      try clear c3b2
                      try clear c4
                      try clear c5
                      try clear c5b0
                      try clear c6
                      try clear c6b0
                      try clear c6b1
                      try clear p6
                      try clear c7
                      try clear c7b0
                      try clear c7b1
                      try clear c12
                      try clear p14
                      try clear q14
                      try clear hx14
                      try clear qi14
                      try clear c15
                      try clear c15b0
                      try clear c15b1
                      try clear c16
                      try clear c16b0
                      try clear c16b1
                      try clear c18
                      try clear p18
                      try clear q18
                      try clear hx18
                      try clear c19
                      try clear c19b0
                      try clear c19b1
                      try clear c20
                      try clear c20b0
                      try clear c20b1
                      try clear c32
                      try clear c32b0
                      try clear c34
                      try clear c34b0
                      try clear c35
                      try clear c35b0
                      try clear c37
                      try clear c37b0
                      try clear c38
                      try clear c38b0
                      try clear c40
                      try clear c40b0
                      try clear c41
                      try clear c41b0
                      try clear c42
                      try clear c42b0
                      try clear c42b1
                      try clear c48
                      try clear c48b0
                      try clear c48b1
                      try clear c50
                      try clear c50b0
                      try clear c51
                      try clear c51b0
                      try clear c53
                      try clear c53b0
                      try clear c54
                      try clear c54b0
                      try clear hx148_0
                      try clear hx181_0
                      try clear hx182_0
                      try clear hx183_0
                      try clear hx184_0
                      try clear hx185_0
                      try clear hx186_0
                      try clear p1
                      try clear p14
                      try clear p148
                      try clear p18
                      try clear p181
                      try clear p182
                      try clear p183
                      try clear p184
                      try clear p185
                      try clear p186
                      try clear p2
                      try clear p6
                      try clear q1
                      try clear q14
                      try clear q148
                      try clear q18
                      try clear q181
                      try clear q182
                      try clear q183
                      try clear q184
                      try clear q185
                      try clear q186
                      obtain ⟨kq, x138_46, rfl, HA, HJ46, HO_4, HO_9, HO_10, HB⟩ := hcut
                      cases kq with
                      | zero => exact absurd HA.out (by simp [smallbig_nat_div.j2])
                      | succ kj46 =>
                       have H := HA.out
                       clear HA
                       simp only [smallbig_nat_div.j2] at H
                       by_cases c57 : x138_46 = true
                       ·
                        subst c57
                        have H1 : (if 0 ≤ (wrap64 ((t157.length : Int) - 1)) then (if (wrap64 ((t157.length : Int) - 1)) < (t157.length : Int) then (if ((IntKind.u64.wrap (x15_2 + (IntKind.u64.wrap (rd t157 (wrap64 ((t157.length : Int) - 1)))))) / 4294967296) = 0 then (smallbig_nat_div.l1 kj46 x4_1 (IntKind.u64.wrap (wrap64 ((wrap64 (32 * (l1.length : Int))) - t156))) t157 x10_1 (t157.length : Int) x12_1 (IntKind.u64.wrap (x14_2 - 1)) (IntKind.u64.wrap (x15_2 + (IntKind.u64.wrap (rd t157 (wrap64 ((t157.length : Int) - 1))))))) else (smallbig_nat_div.j3 kj46 x4_1 (IntKind.u64.wrap (wrap64 ((wrap64 (32 * (l1.length : Int))) - t156))) t157 x10_1 (t157.length : Int) x12_1 (IntKind.u64.wrap (x14_2 - 1)))) else (none)) else (none)) = some (r1, r2) := by rw [if_pos rfl] at H; exact H
                        clear H
                        have H := H1
                        clear H1
                        obtain ⟨ji58, hji58⟩ : ∃ j_ : Int, (wrap64 ((t157.length : Int) - 1)) = j_ := ⟨_, rfl⟩
                        replace H : (if 0 ≤ (ji58) then (if (ji58) < (t157.length : Int) then (if ((IntKind.u64.wrap (x15_2 + (IntKind.u64.wrap (rd t157 (ji58))))) / 4294967296) = 0 then (smallbig_nat_div.l1 kj46 x4_1 (IntKind.u64.wrap (wrap64 ((wrap64 (32 * (l1.length : Int))) - t156))) t157 x10_1 (t157.length : Int) x12_1 (IntKind.u64.wrap (x14_2 - 1)) (IntKind.u64.wrap (x15_2 + (IntKind.u64.wrap (rd t157 (ji58)))))) else (smallbig_nat_div.j3 kj46 x4_1 (IntKind.u64.wrap (wrap64 ((wrap64 (32 * (l1.length : Int))) - t156))) t157 x10_1 (t157.length : Int) x12_1 (IntKind.u64.wrap (x14_2 - 1)))) else (none)) else (none)) = some (r1, r2) := by first | (rw [hji58] at H; exact H) | (simp only [hji58] at H ⊢; exact H)
                        have hji58w : (IntKind.i64.wrap ((t157.length : Int) - 1)) = ji58 := (i64_w _).trans hji58
                        (try (have e_ : ji58 = ji39 := hji58.symm.trans hji39; subst e_))
                        by_cases c59 : 0 ≤ (ji58)
                        ·
                         rw [if_pos c59] at H
                         have c59b0 : decide (0 ≤ (ji58)) = true := decide_eq_true c59
                         clear c59
                         by_cases c60 : (ji58) < (t157.length : Int)
                         ·
                          rw [if_pos c60] at H
                          have c60b0 : decide ((ji58) < (t157.length : Int)) = true := decide_eq_true c60
                          clear c60
                          by_cases c61 : ((IntKind.u64.wrap (x15_2 + (IntKind.u64.wrap (rd t157 (ji58))))) / 4294967296) = 0
                          ·
                           rw [if_pos c61] at H
                           have c61b0 : (((IntKind.u64.wrap (x15_2 + (IntKind.u64.wrap (rd t157 (ji58))))) / 4294967296) == 0) = true := beq_iff_eq.mpr c61
                           have c61b1 : (((IntKind.u64.wrap (x15_2 + (IntKind.u64.wrap (rd t157 (ji58))))) / 4294967296) != 0) = false := bne_eq_false_iff_eq.mpr c61
                           clear c61
                           have H' := Aside0.mk H
                           clear H
                           have p187 : 0 ≤ ((ji58) : Int) := of_decide_eq_true (by first | (with_reducible assumption) | assumption)
                           have q187 : (ji58) < (t157.length : Int) := of_decide_eq_true (by first | (with_reducible assumption) | assumption)
                           obtain ⟨ad187, e187, hx187_0⟩ := Kd.at_int (Kd.V_reads' HO_9.out).2.2 (ji58) p187 q187
                           obtain rfl : ad183 = ad187 := (by injection e187)
                           replace p187 := eq_true p187
                           replace q187 := eq_true q187
                           go_wp2
                           go_roundg kj46
                           case measure => have := HK1.out; have := HK2.out; have := HJ46.out; omega
                           case rel => exact ⟨(IntKind.u64.wrap (x14_2 - 1)), (IntKind.u64.wrap (x15_2 + (IntKind.u64.wrap (rd t157 (ji58))))), (by first | rfl | (simp; done) | (simp [*]; done)), (by first | rfl | (simp; done) | (simp only [← hji58] <;> (first | rfl | simp)) | (simp [*]; done)), H', ⟨by have := HK1.out; have := HK2.out; have := HJ46.out; omega⟩, ⟨by (with_reducible repeat (first | apply Kd.R_alloc | apply Kd.R_drewN | apply Kd.R_drew)); exact HO_4.out⟩, ⟨by (with_reducible repeat (first | apply Kd.V_alloc | apply Kd.V_drewN | apply Kd.V_drew)); exact HO_9.out⟩, ⟨by (with_reducible repeat (first | apply Kd.R_alloc | apply Kd.R_drewN | apply Kd.R_drew)); exact HO_10.out⟩, ⟨by repeat (first | (with_reducible first | exact HB.out | apply below_alloc | apply pw_below_drewN | apply below_drew1) | exact HB.out)⟩⟩
                          ·
                           rw [if_neg c61] at H
                           have c61b0 : (((IntKind.u64.wrap (x15_2 + (IntKind.u64.wrap (rd t157 (ji58))))) / 4294967296) == 0) = false := beq_eq_false_iff_ne.mpr c61
                           have c61b1 : (((IntKind.u64.wrap (x15_2 + (IntKind.u64.wrap (rd t157 (ji58))))) / 4294967296) != 0) = true := bne_iff_ne.mpr c61
                           have H' := Aside0.mk H
                           clear H
                           have p187 : 0 ≤ ((ji58) : Int) := of_decide_eq_true (by first | (with_reducible assumption) | assumption)
                           have q187 : (ji58) < (t157.length : Int) := of_decide_eq_true (by first | (with_reducible assumption) | assumption)
                           obtain ⟨ad187, e187, hx187_0⟩ := Kd.at_int (Kd.V_reads' HO_9.out).2.2 (ji58) p187 q187
                           obtain rfl : ad183 = ad187 := (by injection e187)
                           replace p187 := eq_true p187
                           replace q187 := eq_true q187
                           go_wp2
                           go_meet
                           case rel => exact ⟨_, (IntKind.u64.wrap (x14_2 - 1)), (by first | rfl | (simp; done) | (simp [*]; done)), H', ⟨by have := HK1.out; have := HK2.out; have := HJ46.out; first | omega | exact Nat.le_refl _⟩, ⟨by (with_reducible repeat (first | apply Kd.R_alloc | apply Kd.R_drewN | apply Kd.R_drew)); exact HO_4.out⟩, ⟨by (with_reducible repeat (first | apply Kd.V_alloc | apply Kd.V_drewN | apply Kd.V_drew)); exact HO_9.out⟩, ⟨by (with_reducible repeat (first | apply Kd.R_alloc | apply Kd.R_drewN | apply Kd.R_drew)); exact HO_10.out⟩, ⟨by repeat (first | (with_reducible first | exact HB.out | apply below_alloc | apply pw_below_drewN | apply below_drew1) | exact HB.out)⟩⟩
                         ·
                          rw [if_neg c60] at H
                          exact absurd H (by simp)
                        ·
                         rw [if_neg c59] at H
                         exact absurd H (by simp)
                       ·
                        replace c57 := Bool.eq_false_iff.mpr c57
                        subst c57
                        have H1 : (smallbig_nat_div.j3 kj46 x4_1 (IntKind.u64.wrap (wrap64 ((wrap64 (32 * (l1.length : Int))) - t156))) t157 x10_1 (t157.length : Int) x12_1 x14_2) = some (r1, r2) := by rw [if_neg (show ¬ (false = true) by decide)] at H; exact H
                        clear H
                        have H := H1
                        clear H1
                        have H' := Aside0.mk H
                        clear H
                        go_wp2
                        go_meet
                        case rel => exact ⟨_, (x14_2), (by first | rfl | (simp; done) | (simp [*]; done)), H', ⟨by have := HK1.out; have := HK2.out; have := HJ46.out; first | omega | exact Nat.le_refl _⟩, ⟨by (with_reducible repeat (first | apply Kd.R_alloc | apply Kd.R_drewN | apply Kd.R_drew)); exact HO_4.out⟩, ⟨by (with_reducible repeat (first | apply Kd.V_alloc | apply Kd.V_drewN | apply Kd.V_drew)); exact HO_9.out⟩, ⟨by (with_reducible repeat (first | apply Kd.R_alloc | apply Kd.R_drewN | apply Kd.R_drew)); exact HO_10.out⟩, ⟨by repeat (first | (with_reducible first | exact HB.out | apply below_alloc | apply pw_below_drewN | apply below_drew1) | exact HB.out)⟩⟩
                  case rest =>
                   clear HC43
                   try clear c1
                   try clear p1
                   try clear q1
                   try clear hx1
                   try clear qi1
                   try clear c2
                   try clear p2
                   try clear c3
                   try clear c3b0
                   try clear c3b1
                   try clear c3b2
                   try clear c4
                   try clear c5
                   try clear c5b0
                   try clear c6
                   try clear c6b0
                   try clear c6b1
                   try clear p6
                   try clear c7
                   try clear c7b0
                   try clear c7b1
                   try clear c12
                   try clear p14
                   try clear q14
                   try clear hx14
                   try clear qi14
                   try clear c15
                   try clear c15b0
                   try clear c15b1
                   try clear c16
                   try clear c16b0
                   try clear c16b1
                   try clear c18
                   try clear p18
                   try clear q18
                   try clear hx18
                   try clear c19
                   try clear c19b0
                   try clear c19b1
                   try clear c20
                   try clear c20b0
                   try clear c20b1
                   try clear c32
                   try clear c32b0
                   try clear c34
                   try clear c34b0
                   try clear c35
                   try clear c35b0
                   try clear c37
                   try clear c37b0
                   try clear c38
                   try clear c38b0
                   try clear c40
                   try clear c40b0
                   try clear c41
                   try clear c41b0
                   try clear c42
                   try clear c42b0
                   try clear c42b1
                   try clear c48
                   try clear c48b0
                   try clear c48b1
                   try clear c50
                   try clear c50b0
                   try clear c51
                   try clear c51b0
                   try clear c53
                   try clear c53b0
                   try clear c54
                   try clear c54b0
                   try clear c57
                   try clear c59
                   try clear c59b0
                   try clear c60
                   try clear c60b0
                   try clear c61
                   try clear c61b0
                   try clear c61b1
                   try clear hx148_0
                   try clear hx181_0
                   try clear hx182_0
                   try clear hx183_0
                   try clear hx184_0
                   try clear hx185_0
                   try clear hx186_0
                   try clear hx187_0
                   try clear p1
                   try clear p14
                   try clear p148
                   try clear p18
                   try clear p181
                   try clear p182
                   try clear p183
                   try clear p184
                   try clear p185
                   try clear p186
                   try clear p187
                   try clear p2
                   try clear p6
                   try clear q1
                   try clear q14
                   try clear q148
                   try clear q18
                   try clear q181
                   try clear q182
                   try clear q183
                   try clear q184
                   try clear q185
                   try clear q186
                   try clear q187
                   obtain ⟨kq, x14_42, rfl, HA, HJ42, HO_4, HO_9, HO_10, HB⟩ := hcut
                   cases kq with
                   | zero => exact absurd HA.out (by simp [smallbig_nat_div.j3])
                   | succ kj42 =>
                    have H := HA.out
                    clear HA
                    simp only [smallbig_nat_div.j3] at H
                    have H' := Aside0.mk H
                    clear H
                    go_wp2
                    obtain ⟨goX, coX, eoX, gbX, glX, clX, HGX⟩ := Kd.R_form HO_10.out hpos_.out
                    (first | cases eoX | (injection eoX with ea_ en_ ec_; (first | subst ea_ | (injection ea_ with ea_; subst ea_)); subst ec_; clear en_))
                    clear gbX glX clX HGX
                    (try simp only [add_plain])
                    go_loopg [16, 17, 18] kj42 (fun kq v16 v17 v18 w' => ∃ (x10_3 : List Int) (x16_3 : Int) (x17_3 : Int) (x18_3 : Int), v16 = .int .u64 x16_3 ∧ v17 = .int .u64 x17_3 ∧ v18 = .int .i64 x18_3 ∧ Aside0 (smallbig_nat_div.l2 kq x4_1 (IntKind.u64.wrap (wrap64 ((wrap64 (32 * (l1.length : Int))) - t156))) t157 x10_3 (t157.length : Int) x12_1 x14_42 x16_3 x17_3 x18_3 = some (r1, r2)) ∧ Aside0 (kq ≤ kj42) ∧ Aside0 (Kd.R (Kd.int .u32) 175 w' w.heap.size (fun k_ => (w.heap.size ≤ k_) ∧ some k_ ≠ ((.slice (some (⟨goX, 0, none⟩ : Addr)) x10_1.length co45) : Value).ownBlock) v170 x4_1) ∧ Aside0 (Kd.V (Kd.int .u32) 175 w' w.heap.size (fun k_ => (w.heap.size ≤ k_) ∧ some k_ ≠ (v170 : Value).ownBlock ∧ some k_ ≠ ((.slice (some (⟨goX, 0, none⟩ : Addr)) x10_1.length co45) : Value).ownBlock) (.slice (some ad183) t157.length co29) t157) ∧ Aside0 (Kd.R (Kd.int .u32) 175 w' w.heap.size (fun k_ => (w.heap.size ≤ k_) ∧ some k_ ≠ (v170 : Value).ownBlock) (.slice (some (⟨goX, 0, none⟩ : Addr)) x10_1.length co45) x10_3) ∧ Aside0 (Below w.heap.size w w'))
                    case atStart => exact ⟨(x10_1), (0), (0), (0), (by first | rfl | (simp; done) | (simp [*]; done)), (by first | rfl | (simp; done) | (simp [*]; done)), (by first | rfl | (simp; done) | (simp [*]; done)), H', ⟨Nat.le_refl _⟩, ⟨by (with_reducible repeat (first | apply Kd.R_alloc | apply Kd.R_drewN | apply Kd.R_drew)); exact HO_4.out⟩, ⟨by (with_reducible repeat (first | apply Kd.V_alloc | apply Kd.V_drewN | apply Kd.V_drew)); exact HO_9.out⟩, ⟨by (with_reducible repeat (first | apply Kd.R_alloc | apply Kd.R_drewN | apply Kd.R_drew)); exact HO_10.out⟩, ⟨by repeat (first | (with_reducible first | exact HB.out | apply below_alloc | apply pw_below_drewN | apply below_drew1) | exact HB.out)⟩⟩
                    case round =>
                     clear H'
                     try clear c1
                     try clear p1
                     try clear q1
                     try clear hx1
                     try clear qi1
                     try clear c2
                     try clear p2
                     try clear c3
                     try clear c3b0
                     try clear c3b1
                     try clear c3b2
                     try clear c4
                     try clear c5
                     try clear c5b0
                     try clear c6
                     try clear c6b0
                     try clear c6b1
                     try clear p6
                     try clear c7
                     try clear c7b0
                     try clear c7b1
                     try clear c12
                     try clear p14
                     try clear q14
                     try clear hx14
                     try clear qi14
                     try clear c15
                     try clear c15b0
                     try clear c15b1
                     try clear c16
                     try clear c16b0
                     try clear c16b1
                     try clear c18
                     try clear p18
                     try clear q18
                     try clear hx18
                     try clear c19
                     try clear c19b0
                     try clear c19b1
                     try clear c20
                     try clear c20b0
                     try clear c20b1
                     try clear c32
                     try clear c32b0
                     try clear c34
                     try clear c34b0
                     try clear c35
                     try clear c35b0
                     try clear c37
                     try clear c37b0
                     try clear c38
                     try clear c38b0
                     try clear c40
                     try clear c40b0
                     try clear c41
                     try clear c41b0
                     try clear c42
                     try clear c42b0
                     try clear c42b1
                     try clear c48
                     try clear c48b0
                     try clear c48b1
                     try clear c50
                     try clear c50b0
                     try clear c51
                     try clear c51b0
                     try clear c53
                     try clear c53b0
                     try clear c54
                     try clear c54b0
                     try clear c57
                     try clear c59
                     try clear c59b0
                     try clear c60
                     try clear c60b0
                     try clear c61
                     try clear c61b0
                     try clear c61b1
                     try clear hx148_0
                     try clear hx181_0
                     try clear hx182_0
                     try clear hx183_0
                     try clear hx184_0
                     try clear hx185_0
                     try clear hx186_0
                     try clear hx187_0
                     try clear p1
                     try clear p14
                     try clear p148
                     try clear p18
                     try clear p181
                     try clear p182
                     try clear p183
                     try clear p184
                     try clear p185
                     try clear p186
                     try clear p187
                     try clear p2
                     try clear p6
                     try clear q1
                     try clear q14
                     try clear q148
                     try clear q18
                     try clear q181
                     try clear q182
                     try clear q183
                     try clear q184
                     try clear q185
                     try clear q186
                     try clear q187
                     obtain ⟨x10_3, x16_3, x17_3, x18_3, rfl, rfl, rfl, HA, HK3, HO_4, HO_9, HO_10, HB⟩ := hrel
                     have hl10_3 := (Kd.R_reads' HO_10.out).1
                     rw [hl10_3] at HO_10
                     (try simp only [hl10_3])
                     (try simp only [hl10_3] at HO_4)
                     (try simp only [hl10_3] at HO_9)
                     cases gk with
                     | zero => exact absurd HA.out (by simp [smallbig_nat_div.l2])
                     | succ k3 =>
                      have H := HA.out
                      clear HA
                      simp only [smallbig_nat_div.l2] at H
                      by_cases c62 : x18_3 < (t157.length : Int)
                      ·
                       rw [if_pos c62] at H
                       have c62b0 : decide (x18_3 < (t157.length : Int)) = true := decide_eq_true c62
                       clear c62
                       by_cases c63 : 0 ≤ x18_3
                       ·
                        rw [if_pos c63] at H
                        have c63b0 : decide (0 ≤ x18_3) = true := decide_eq_true c63
                        clear c63
                        by_cases c64 : x18_3 < (t157.length : Int)
                        ·
                         rw [if_pos c64] at H
                         have c64b0 : decide (x18_3 < (t157.length : Int)) = true := decide_eq_true c64
                         clear c64
                         obtain ⟨ji65, hji65⟩ : ∃ j_ : Int, (wrap64 (x12_1 + x18_3)) = j_ := ⟨_, rfl⟩
                         replace H : (if 0 ≤ (ji65) then (if (ji65) < (x10_3.length : Int) then (smallbig_nat_div.l2 k3 x4_1 (IntKind.u64.wrap (wrap64 ((wrap64 (32 * (l1.length : Int))) - t156))) t157 (x10_3.set ((ji65) : Int).toNat ((IntKind.u64.wrap ((IntKind.u64.wrap ((IntKind.u64.wrap (rd x10_3 (ji65))) - ((IntKind.u64.wrap (x16_3 + (IntKind.u64.wrap (x14_42 * (IntKind.u64.wrap (rd t157 x18_3)))))) % 4294967296))) - x17_3)) % 4294967296)) (t157.length : Int) x12_1 x14_42 ((IntKind.u64.wrap (x16_3 + (IntKind.u64.wrap (x14_42 * (IntKind.u64.wrap (rd t157 x18_3)))))) / 4294967296) ((IntKind.u64.wrap ((IntKind.u64.wrap ((IntKind.u64.wrap (rd x10_3 (ji65))) - ((IntKind.u64.wrap (x16_3 + (IntKind.u64.wrap (x14_42 * (IntKind.u64.wrap (rd t157 x18_3)))))) % 4294967296))) - x17_3)) / 9223372036854775808) (wrap64 (x18_3 + 1))) else (none)) else (none)) = some (r1, r2) := by first | (rw [hji65] at H; exact H) | (simp only [hji65] at H ⊢; exact H)
                         have hji65w : (IntKind.i64.wrap (x12_1 + x18_3)) = ji65 := (i64_w _).trans hji65
                         by_cases c66 : 0 ≤ (ji65)
                         ·
                          rw [if_pos c66] at H
                          have c66b0 : decide (0 ≤ (ji65)) = true := decide_eq_true c66
                          clear c66
                          by_cases c67 : (ji65) < (x10_3.length : Int)
                          ·
                           rw [if_pos c67] at H
                           have c67b0 : decide ((ji65) < (x10_3.length : Int)) = true := decide_eq_true c67
                           clear c67
                           obtain ⟨y190, hy190⟩ : ∃ y_ : List Int, y_ = (x10_3.set ((ji65) : Int).toNat ((IntKind.u64.wrap ((IntKind.u64.wrap ((IntKind.u64.wrap (rd x10_3 (ji65))) - ((IntKind.u64.wrap (x16_3 + (IntKind.u64.wrap (x14_42 * (IntKind.u64.wrap (rd t157 x18_3)))))) % 4294967296))) - x17_3)) % 4294967296)) := ⟨_, rfl⟩
                           replace H : (smallbig_nat_div.l2 k3 x4_1 (IntKind.u64.wrap (wrap64 ((wrap64 (32 * (l1.length : Int))) - t156))) t157 y190 (t157.length : Int) x12_1 x14_42 ((IntKind.u64.wrap (x16_3 + (IntKind.u64.wrap (x14_42 * (IntKind.u64.wrap (rd t157 x18_3)))))) / 4294967296) ((IntKind.u64.wrap ((IntKind.u64.wrap ((IntKind.u64.wrap (rd x10_3 (ji65))) - ((IntKind.u64.wrap (x16_3 + (IntKind.u64.wrap (x14_42 * (IntKind.u64.wrap (rd t157 x18_3)))))) % 4294967296))) - x17_3)) / 9223372036854775808) (wrap64 (x18_3 + 1))) = some (r1, r2) := by first | (rw [hy190]; with_reducible exact H) | (have H2_ := (Option.bind_some _ _).symm.trans H; rw [hy190]; with_reducible exact H2_) | (have H2_ := (Option.bind_some _ _).symm.trans H; with_reducible exact H2_) | with_reducible exact H | (rw [hy190]; exact H) | exact H
                           have Ny190 := Aside0.mk hy190
                           clear hy190
                           have H' := Aside0.mk H
                           clear H
                           have p188 : 0 ≤ (x18_3 : Int) := of_decide_eq_true (by first | (with_reducible assumption) | assumption)
                           have q188 : x18_3 < (t157.length : Int) := of_decide_eq_true (by first | (with_reducible assumption) | assumption)
                           obtain ⟨ad188, e188, hx188_0⟩ := Kd.at_int (Kd.V_reads' HO_9.out).2.2 x18_3 p188 q188
                           obtain rfl : ad183 = ad188 := (by injection e188)
                           replace p188 := eq_true p188
                           replace q188 := eq_true q188
                           have p189 : 0 ≤ ((ji65) : Int) := of_decide_eq_true (by first | (with_reducible assumption) | assumption)
                           have q189 : (ji65) < (x10_3.length : Int) := of_decide_eq_true (by first | (with_reducible assumption) | assumption)
                           obtain ⟨ad189, e189, hx189_0⟩ := Kd.at_int (Kd.R_reads' HO_10.out).2.2 (ji65) p189 q189
                           obtain rfl : (⟨goX, 0, none⟩ : Addr) = ad189 := (by injection e189)
                           replace p189 := eq_true p189
                           replace q189 := eq_true q189
                           have p68 : 0 ≤ ((ji65) : Int) := of_decide_eq_true (by first | (with_reducible assumption) | assumption)
                           have q68 : ((ji65) : Int) < ((x10_3.length : Int) : Int) := of_decide_eq_true (by first | (with_reducible assumption) | assumption)
                           obtain ⟨go68, co68, eo68, gb68, gl68, cl68, HG68⟩ := Kd.R_form HO_10.out (by omega)
                           (try (have hx_ := eo68; injection hx_ with ha_ hb_ hc_; injection ha_ with ha_; injection ha_ with hx_; have hy_ := hx_.symm; subst hy_))
                           (first | cases eo68 | (injection eo68 with ea_ en_ ec_; (first | subst ea_ | (injection ea_ with ea_; subst ea_)); subst ec_; clear en_))
                           have GB68 := Aside0.mk gb68
                           have GG68 := Aside0.mk HG68
                           clear gb68 gl68 HG68
                           (first | simp only [add_plain] at hx181_0 | skip)
                           (first | simp only [add_plain] at hx182_0 | skip)
                           (first | simp only [add_plain] at hx186_0 | skip)
                           (first | simp only [add_plain] at hx189_0 | skip)
                           obtain ⟨hx68_0, hf68_0⟩ := Kd.R_celln 0 HO_10.out ((ji65) : Int) p68 q68
                           replace p68 := eq_true p68
                           replace q68 := eq_true q68
                           have HP69 := Kd.R_putg HO_10.out ((ji65) : Int) ((IntKind.u64.wrap ((IntKind.u64.wrap ((IntKind.u64.wrap (rd x10_3 (ji65))) - ((IntKind.u64.wrap (x16_3 + (IntKind.u64.wrap (x14_42 * (IntKind.u64.wrap (rd t157 x18_3)))))) % 4294967296))) - x17_3)) % 4294967296)
                           go_wp2_with (first | ((with_reducible refine gate_store (t := 175) (p := 187) rfl ?_); refine store_event (t := 175) (p := 187) (v := ?vo_w70) (w1 := (wr.setCell ⟨go68, ((ji65) : Int).toNat, none⟩ (.int .u32 ((IntKind.u64.wrap ((IntKind.u64.wrap ((IntKind.u64.wrap (rd x10_3 (ji65))) - ((IntKind.u64.wrap (x16_3 + (IntKind.u64.wrap (x14_42 * (IntKind.u64.wrap (rd t157 x18_3)))))) % 4294967296))) - x17_3)) % 4294967296)))) ?hg ?ho ?hn ?hr ?_; (case ho => rfl); (case hg => rfl); (case hn => rfl); (case hr => first | (go_simp; done) | (go_simp; rfl)); intro w70 hw; have hg : wr.grownBy w70 (some go68) := (by rw [hw]; exact HP69.2); have hp_ : Kd.R (Kd.int .u32) 175 w70 w.heap.size (fun k_ => (w.heap.size ≤ k_) ∧ some k_ ≠ (v170 : Value).ownBlock) (.slice (some ⟨go68, 0, none⟩) x10_3.length co45) y190 := (by rw [hw, Ny190.out]; exact HP69.1); clear HP69; have n0_ := Aside0.mk (Kd.R_after (v := (.slice (some ⟨go68, 0, none⟩) x10_3.length co45)) (v1 := (.slice (some ⟨go68, 0, none⟩) x10_3.length co45)) (ok := (fun k_ => (w.heap.size ≤ k_))) (by (with_reducible repeat (first | apply Kd.R_alloc | apply Kd.R_drewN | apply Kd.R_drew)); exact HO_4.out) hg (.inl rfl)); have n1_ := Aside0.mk (Kd.V_afterv (v := (.slice (some ⟨go68, 0, none⟩) x10_3.length co45)) (v1 := (.slice (some ⟨go68, 0, none⟩) x10_3.length co45)) (ok := (fun k_ => (w.heap.size ≤ k_) ∧ some k_ ≠ (v170 : Value).ownBlock)) (by (with_reducible repeat (first | apply Kd.V_alloc | apply Kd.V_drewN | apply Kd.V_drew)); exact Kd.V_mono HO_9.out (fun _ hk => ⟨⟨hk.1, hk.2.1⟩, hk.2.2⟩)) hg (.inl rfl)); have n2_ := Aside0.mk (hp_); have n3_ := Aside0.mk ((by rw [hw]; exact below_set (HB.out) GB68.out : Below w.heap.size w w70)); clear HO_4; clear HO_9; clear HO_10; clear HB; have HO_4 := n0_; have HO_9 := n1_; have HO_10 := n2_; have HB := n3_; clear n0_ n1_ n2_ n3_; clear hg hw hp_))
                           (try simp only [← hl10_3])
                           (try simp only [add_plain])
                           go_roundg k3
                           case measure => have := HK1.out; have := HJ42.out; have := HK3.out; omega
                           case rel => exact ⟨(y190), ((IntKind.u64.wrap (x16_3 + (IntKind.u64.wrap (x14_42 * (IntKind.u64.wrap (rd t157 x18_3)))))) / 4294967296), ((IntKind.u64.wrap ((IntKind.u64.wrap ((IntKind.u64.wrap (rd x10_3 (ji65))) - ((IntKind.u64.wrap (x16_3 + (IntKind.u64.wrap (x14_42 * (IntKind.u64.wrap (rd t157 x18_3)))))) % 4294967296))) - x17_3)) / 9223372036854775808), (wrap64 (x18_3 + 1)), (by first | rfl | (simp; done) | (simp [*]; done)), (by first | rfl | (simp; done) | (simp only [← hji65] <;> (first | rfl | simp)) | (simp [*]; done)), (by first | rfl | (simp; done) | (simp [*]; done)), H', ⟨by have := HK1.out; have := HJ42.out; have := HK3.out; omega⟩, ⟨by (try simp only [hl10_3]); (with_reducible repeat (first | apply Kd.R_alloc | apply Kd.R_drewN | apply Kd.R_drew)); exact HO_4.out⟩, ⟨by (try simp only [hl10_3]); (with_reducible repeat (first | apply Kd.V_alloc | apply Kd.V_drewN | apply Kd.V_drew)); exact Kd.V_mono HO_9.out (fun _ hk => ⟨hk.1.1, ⟨hk.1.2, hk.2⟩⟩)⟩, ⟨by (try simp only [hl10_3]); (with_reducible repeat (first | apply Kd.R_alloc | apply Kd.R_drewN | apply Kd.R_drew)); exact HO_10.out⟩, ⟨by repeat (first | (with_reducible first | exact HB.out | apply below_alloc | apply pw_below_drewN | apply below_drew1) | exact HB.out)⟩⟩
                          ·
                           rw [if_neg c67] at H
                           exact absurd H (by simp)
                         ·
                          rw [if_neg c66] at H
                          exact absurd H (by simp)
                        ·
                         rw [if_neg c64] at H
                         exact absurd H (by simp)
                       ·
                        rw [if_neg c63] at H
                        exact absurd H (by simp)
                      ·
                       rw [if_neg c62] at H
                       have c62b0 : decide (x18_3 < (t157.length : Int)) = false := decide_eq_false c62
                       clear c62
                       obtain ⟨ji71, hji71⟩ : ∃ j_ : Int, (wrap64 (x12_1 + (t157.length : Int))) = j_ := ⟨_, rfl⟩
                       replace H : (if 0 ≤ (ji71) then (if (ji71) < (x10_3.length : Int) then ((some (x10_3.set ((ji71) : Int).toNat ((IntKind.u64.wrap ((IntKind.u64.wrap ((IntKind.u64.wrap (rd x10_3 (ji71))) - x16_3)) - x17_3)) % 4294967296) : List Int)).bind fun y192 => (if ((IntKind.u64.wrap ((IntKind.u64.wrap ((IntKind.u64.wrap (rd x10_3 (ji71))) - x16_3)) - x17_3)) / 9223372036854775808) = 0 then (if 0 ≤ x12_1 then (if x12_1 < (x4_1.length : Int) then (smallbig_nat_div.l0 k3 (x4_1.set (x12_1 : Int).toNat ((x14_42) % 4294967296)) (IntKind.u64.wrap (wrap64 ((wrap64 (32 * (l1.length : Int))) - t156))) t157 y192 (t157.length : Int) (wrap64 (x12_1 - 1))) else (none)) else (none)) else (smallbig_nat_div.l3 k3 x4_1 (IntKind.u64.wrap (wrap64 ((wrap64 (32 * (l1.length : Int))) - t156))) t157 y192 (t157.length : Int) x12_1 (IntKind.u64.wrap (x14_42 - 1)) 0 0))) else (none)) else (none)) = some (r1, r2) := by first | (rw [hji71] at H; exact H) | (simp only [hji71] at H ⊢; exact H)
                       have hji71w : (IntKind.i64.wrap (x12_1 + (t157.length : Int))) = ji71 := (i64_w _).trans hji71
                       (try (have e_ : ji71 = ji33 := hji71.symm.trans hji33; subst e_))
                       by_cases c72 : 0 ≤ (ji71)
                       ·
                        rw [if_pos c72] at H
                        have c72b0 : decide (0 ≤ (ji71)) = true := decide_eq_true c72
                        clear c72
                        by_cases c73 : (ji71) < (x10_3.length : Int)
                        ·
                         rw [if_pos c73] at H
                         have c73b0 : decide ((ji71) < (x10_3.length : Int)) = true := decide_eq_true c73
                         clear c73
                         obtain ⟨y192, hy192⟩ : ∃ y_ : List Int, y_ = (x10_3.set ((ji71) : Int).toNat ((IntKind.u64.wrap ((IntKind.u64.wrap ((IntKind.u64.wrap (rd x10_3 (ji71))) - x16_3)) - x17_3)) % 4294967296)) := ⟨_, rfl⟩
                         replace H : (if ((IntKind.u64.wrap ((IntKind.u64.wrap ((IntKind.u64.wrap (rd x10_3 (ji71))) - x16_3)) - x17_3)) / 9223372036854775808) = 0 then (if 0 ≤ x12_1 then (if x12_1 < (x4_1.length : Int) then (smallbig_nat_div.l0 k3 (x4_1.set (x12_1 : Int).toNat ((x14_42) % 4294967296)) (IntKind.u64.wrap (wrap64 ((wrap64 (32 * (l1.length : Int))) - t156))) t157 y192 (t157.length : Int) (wrap64 (x12_1 - 1))) else (none)) else (none)) else (smallbig_nat_div.l3 k3 x4_1 (IntKind.u64.wrap (wrap64 ((wrap64 (32 * (l1.length : Int))) - t156))) t157 y192 (t157.length : Int) x12_1 (IntKind.u64.wrap (x14_42 - 1)) 0 0)) = some (r1, r2) := by first | (rw [hy192]; with_reducible exact H) | (have H2_ := (Option.bind_some _ _).symm.trans H; rw [hy192]; with_reducible exact H2_) | (have H2_ := (Option.bind_some _ _).symm.trans H; with_reducible exact H2_) | with_reducible exact H | (rw [hy192]; exact H) | exact H
                         have Ny192 := Aside0.mk hy192
                         clear hy192
                         by_cases c75 : ((IntKind.u64.wrap ((IntKind.u64.wrap ((IntKind.u64.wrap (rd x10_3 (ji71))) - x16_3)) - x17_3)) / 9223372036854775808) = 0
                         ·
                          rw [if_pos c75] at H
                          have c75b0 : (((IntKind.u64.wrap ((IntKind.u64.wrap ((IntKind.u64.wrap (rd x10_3 (ji71))) - x16_3)) - x17_3)) / 9223372036854775808) == 0) = true := beq_iff_eq.mpr c75
                          have c75b1 : (((IntKind.u64.wrap ((IntKind.u64.wrap ((IntKind.u64.wrap (rd x10_3 (ji71))) - x16_3)) - x17_3)) / 9223372036854775808) != 0) = false := bne_eq_false_iff_eq.mpr c75
                          clear c75
                          by_cases c76 : 0 ≤ x12_1
                          ·
                           rw [if_pos c76] at H
                           have c76b0 : decide (0 ≤ x12_1) = true := decide_eq_true c76
                           clear c76
                           by_cases c77 : x12_1 < (x4_1.length : Int)
                           ·
                            rw [if_pos c77] at H
                            have c77b0 : decide (x12_1 < (x4_1.length : Int)) = true := decide_eq_true c77
                            clear c77
                            obtain ⟨y193, hy193⟩ : ∃ y_ : List Int, y_ = (x4_1.set (x12_1 : Int).toNat ((x14_42) % 4294967296)) := ⟨_, rfl⟩
                            replace H : (smallbig_nat_div.l0 k3 y193 (IntKind.u64.wrap (wrap64 ((wrap64 (32 * (l1.length : Int))) - t156))) t157 y192 (t157.length : Int) (wrap64 (x12_1 - 1))) = some (r1, r2) := by first | (rw [hy193]; with_reducible exact H) | (have H2_ := (Option.bind_some _ _).symm.trans H; rw [hy193]; with_reducible exact H2_) | (have H2_ := (Option.bind_some _ _).symm.trans H; with_reducible exact H2_) | with_reducible exact H | (rw [hy193]; exact H) | exact H
                            have Ny193 := Aside0.mk hy193
                            clear hy193
                            have H' := Aside0.mk H
                            clear H
                            have p191 : 0 ≤ ((ji71) : Int) := of_decide_eq_true (by first | (with_reducible assumption) | assumption)
                            have q191 : (ji71) < (x10_3.length : Int) := of_decide_eq_true (by first | (with_reducible assumption) | assumption)
                            obtain ⟨ad191, e191, hx191_0⟩ := Kd.at_int (Kd.R_reads' HO_10.out).2.2 (ji71) p191 q191
                            obtain rfl : (⟨goX, 0, none⟩ : Addr) = ad191 := (by injection e191)
                            replace p191 := eq_true p191
                            replace q191 := eq_true q191
                            have p74 : 0 ≤ ((ji71) : Int) := of_decide_eq_true (by first | (with_reducible assumption) | assumption)
                            have q74 : ((ji71) : Int) < ((x10_3.length : Int) : Int) := of_decide_eq_true (by first | (with_reducible assumption) | assumption)
                            obtain ⟨go74, co74, eo74, gb74, gl74, cl74, HG74⟩ := Kd.R_form HO_10.out (by omega)
                            (try (have hx_ := eo74; injection hx_ with ha_ hb_ hc_; injection ha_ with ha_; injection ha_ with hx_; have hy_ := hx_.symm; subst hy_))
                            (first | cases eo74 | (injection eo74 with ea_ en_ ec_; (first | subst ea_ | (injection ea_ with ea_; subst ea_)); subst ec_; clear en_))
                            have GB74 := Aside0.mk gb74
                            have GG74 := Aside0.mk HG74
                            clear gb74 gl74 HG74
                            (first | simp only [add_plain] at hx191_0 | skip)
                            obtain ⟨hx74_0, hf74_0⟩ := Kd.R_celln 0 HO_10.out ((ji71) : Int) p74 q74
                            replace p74 := eq_true p74
                            replace q74 := eq_true q74
                            have HP79 := Kd.R_putg HO_10.out ((ji71) : Int) ((IntKind.u64.wrap ((IntKind.u64.wrap ((IntKind.u64.wrap (rd x10_3 (ji71))) - x16_3)) - x17_3)) % 4294967296)
                            go_wp2_with (first | ((with_reducible refine gate_store (t := 175) (p := 207) rfl ?_); refine store_event (t := 175) (p := 207) (v := ?vo_w80) (w1 := (wr.setCell ⟨go74, ((ji71) : Int).toNat, none⟩ (.int .u32 ((IntKind.u64.wrap ((IntKind.u64.wrap ((IntKind.u64.wrap (rd x10_3 (ji71))) - x16_3)) - x17_3)) % 4294967296)))) ?hg ?ho ?hn ?hr ?_; (case ho => rfl); (case hg => rfl); (case hn => rfl); (case hr => first | (go_simp; done) | (go_simp; rfl)); intro w80 hw; have hg : wr.grownBy w80 (some go74) := (by rw [hw]; exact HP79.2); have hp_ : Kd.R (Kd.int .u32) 175 w80 w.heap.size (fun k_ => (w.heap.size ≤ k_) ∧ some k_ ≠ (v170 : Value).ownBlock) (.slice (some ⟨go74, 0, none⟩) x10_3.length co45) y192 := (by rw [hw, Ny192.out]; exact HP79.1); clear HP79; have n0_ := Aside0.mk (Kd.R_after (v := (.slice (some ⟨go74, 0, none⟩) x10_3.length co45)) (v1 := (.slice (some ⟨go74, 0, none⟩) x10_3.length co45)) (ok := (fun k_ => (w.heap.size ≤ k_))) (by (with_reducible repeat (first | apply Kd.R_alloc | apply Kd.R_drewN | apply Kd.R_drew)); exact HO_4.out) hg (.inl rfl)); have n1_ := Aside0.mk (Kd.V_afterv (v := (.slice (some ⟨go74, 0, none⟩) x10_3.length co45)) (v1 := (.slice (some ⟨go74, 0, none⟩) x10_3.length co45)) (ok := (fun k_ => (w.heap.size ≤ k_) ∧ some k_ ≠ (v170 : Value).ownBlock)) (by (with_reducible repeat (first | apply Kd.V_alloc | apply Kd.V_drewN | apply Kd.V_drew)); exact Kd.V_mono HO_9.out (fun _ hk => ⟨⟨hk.1, hk.2.1⟩, hk.2.2⟩)) hg (.inl rfl)); have n2_ := Aside0.mk (hp_); have n3_ := Aside0.mk ((by rw [hw]; exact below_set (HB.out) GB74.out : Below w.heap.size w w80)); clear HO_4; clear HO_9; clear HO_10; clear HB; have HO_4 := n0_; have HO_9 := n1_; have HO_10 := n2_; have HB := n3_; clear n0_ n1_ n2_ n3_; clear hg hw hp_; have p78 : 0 ≤ (x12_1 : Int) := of_decide_eq_true (by first | (with_reducible assumption) | assumption); have q78 : (x12_1 : Int) < ((x4_1.length : Int) : Int) := of_decide_eq_true (by first | (with_reducible assumption) | assumption); obtain ⟨go78, co78, eo78, gb78, gl78, cl78, HG78⟩ := Kd.R_form HO_4.out (by omega); (first | cases eo78 | (injection eo78 with ea_ en_ ec_; (first | subst ea_ | (injection ea_ with ea_; subst ea_)); subst ec_; clear en_)); have GB78 := Aside0.mk gb78; have GG78 := Aside0.mk HG78; clear gb78 gl78 HG78; obtain ⟨hx78_0, hf78_0⟩ := Kd.R_celln 0 HO_4.out (x12_1 : Int) p78 q78; replace p78 := eq_true p78; replace q78 := eq_true q78; obtain ⟨hy81_, hz81_⟩ := Kd.R_celln 0 HO_4.out (x12_1 : Int) (of_decide_eq_true (by first | (with_reducible assumption) | assumption)) (of_decide_eq_true (by first | (with_reducible assumption) | assumption)); have HP81 := Kd.R_putg HO_4.out (x12_1 : Int) ((x14_42) % 4294967296)) | ((with_reducible refine gate_store (t := 175) (p := 256) rfl ?_); refine store_event (t := 175) (p := 256) (v := ?vo_w82) (w1 := (w80.setCell ⟨go78, (x12_1 : Int).toNat, none⟩ (.int .u32 ((x14_42) % 4294967296)))) ?hg ?ho ?hn ?hr ?_; (case ho => rfl); (case hg => rfl); (case hn => rfl); (case hr => first | (go_simp; done) | (go_simp; rfl)); intro w82 hw; have hg : w80.grownBy w82 (some go78) := (by rw [hw]; exact HP81.2); have hp_ : Kd.R (Kd.int .u32) 175 w82 w.heap.size (fun k_ => (w.heap.size ≤ k_) ∧ some k_ ≠ (.slice (some ⟨go74, 0, none⟩) x10_3.length co45 : Value).ownBlock) (.slice (some ⟨go78, 0, none⟩) x4_1.length co78) y193 := (by rw [hw, Ny193.out]; exact HP81.1); clear HP81; have n0_ := Aside0.mk (hp_); have n1_ := Aside0.mk (Kd.V_afterv (v := (.slice (some ⟨go78, 0, none⟩) x4_1.length co78)) (v1 := (.slice (some ⟨go78, 0, none⟩) x4_1.length co78)) (ok := (fun k_ => (w.heap.size ≤ k_) ∧ some k_ ≠ (.slice (some ⟨go74, 0, none⟩) x10_3.length co45 : Value).ownBlock)) (by (with_reducible repeat (first | apply Kd.V_alloc | apply Kd.V_drewN | apply Kd.V_drew)); exact Kd.V_mono HO_9.out (fun _ hk => ⟨⟨hk.1.1, hk.2⟩, hk.1.2⟩)) hg (.inl rfl)); have n2_ := Aside0.mk (Kd.R_after (v := (.slice (some ⟨go78, 0, none⟩) x4_1.length co78)) (v1 := (.slice (some ⟨go78, 0, none⟩) x4_1.length co78)) (ok := (fun k_ => (w.heap.size ≤ k_))) (by (with_reducible repeat (first | apply Kd.R_alloc | apply Kd.R_drewN | apply Kd.R_drew)); exact HO_10.out) hg (.inl rfl)); have n3_ := Aside0.mk ((by rw [hw]; exact below_set (HB.out) GB78.out : Below w.heap.size w w82)); clear HO_4; clear HO_9; clear HO_10; clear HB; have HO_4 := n0_; have HO_9 := n1_; have HO_10 := n2_; have HB := n3_; clear n0_ n1_ n2_ n3_; clear hg hw hp_))
                            (try simp only [← hl10_3])
                            (try simp only [add_plain])
                            go_roundg k3
                            case measure => have := HK1.out; have := HJ42.out; have := HK3.out; omega
                            case rel => exact ⟨(y193), (y192), (wrap64 (x12_1 - 1)), (by first | rfl | (simp; done) | (simp [*]; done)), H', ⟨by have := HK1.out; have := HJ42.out; have := HK3.out; omega⟩, ⟨by (try simp only [hl10_3]); (with_reducible repeat (first | apply Kd.R_alloc | apply Kd.R_drewN | apply Kd.R_drew)); exact HO_4.out⟩, ⟨by (try simp only [hl10_3]); (with_reducible repeat (first | apply Kd.V_alloc | apply Kd.V_drewN | apply Kd.V_drew)); exact Kd.V_mono HO_9.out (fun _ hk => ⟨hk.1.1, ⟨hk.2, hk.1.2⟩⟩)⟩, ⟨by (try simp only [hl10_3]); (with_reducible repeat (first | apply Kd.R_alloc | apply Kd.R_drewN | apply Kd.R_drew)); exact HO_10.out⟩, ⟨by repeat (first | (with_reducible first | exact HB.out | apply below_alloc | apply pw_below_drewN | apply below_drew1) | exact HB.out)⟩⟩
                           ·
                            rw [if_neg c77] at H
                            exact absurd H (by simp)
                          ·
                           rw [if_neg c76] at H
                           exact absurd H (by simp)
                         ·
                          rw [if_neg c75] at H
                          have c75b0 : (((IntKind.u64.wrap ((IntKind.u64.wrap ((IntKind.u64.wrap (rd x10_3 (ji71))) - x16_3)) - x17_3)) / 9223372036854775808) == 0) = false := beq_eq_false_iff_ne.mpr c75
                          have c75b1 : (((IntKind.u64.wrap ((IntKind.u64.wrap ((IntKind.u64.wrap (rd x10_3 (ji71))) - x16_3)) - x17_3)) / 9223372036854775808) != 0) = true := bne_iff_ne.mpr c75
                          have H' := Aside0.mk H
                          clear H
                          have p191 : 0 ≤ ((ji71) : Int) := of_decide_eq_true (by first | (with_reducible assumption) | assumption)
                          have q191 : (ji71) < (x10_3.length : Int) := of_decide_eq_true (by first | (with_reducible assumption) | assumption)
                          obtain ⟨ad191, e191, hx191_0⟩ := Kd.at_int (Kd.R_reads' HO_10.out).2.2 (ji71) p191 q191
                          obtain rfl : (⟨goX, 0, none⟩ : Addr) = ad191 := (by injection e191)
                          replace p191 := eq_true p191
                          replace q191 := eq_true q191
                          have p74 : 0 ≤ ((ji71) : Int) := of_decide_eq_true (by first | (with_reducible assumption) | assumption)
                          have q74 : ((ji71) : Int) < ((x10_3.length : Int) : Int) := of_decide_eq_true (by first | (with_reducible assumption) | assumption)
                          obtain ⟨go74, co74, eo74, gb74, gl74, cl74, HG74⟩ := Kd.R_form HO_10.out (by omega)
                          (try (have hx_ := eo74; injection hx_ with ha_ hb_ hc_; injection ha_ with ha_; injection ha_ with hx_; have hy_ := hx_.symm; subst hy_))
                          (first | cases eo74 | (injection eo74 with ea_ en_ ec_; (first | subst ea_ | (injection ea_ with ea_; subst ea_)); subst ec_; clear en_))
                          have GB74 := Aside0.mk gb74
                          have GG74 := Aside0.mk HG74
                          clear gb74 gl74 HG74
                          (first | simp only [add_plain] at hx191_0 | skip)
                          obtain ⟨hx74_0, hf74_0⟩ := Kd.R_celln 0 HO_10.out ((ji71) : Int) p74 q74
                          replace p74 := eq_true p74
                          replace q74 := eq_true q74
                          have HP83 := Kd.R_putg HO_10.out ((ji71) : Int) ((IntKind.u64.wrap ((IntKind.u64.wrap ((IntKind.u64.wrap (rd x10_3 (ji71))) - x16_3)) - x17_3)) % 4294967296)
                          go_wp2_with (first | ((with_reducible refine gate_store (t := 175) (p := 207) rfl ?_); refine store_event (t := 175) (p := 207) (v := ?vo_w84) (w1 := (wr.setCell ⟨go74, ((ji71) : Int).toNat, none⟩ (.int .u32 ((IntKind.u64.wrap ((IntKind.u64.wrap ((IntKind.u64.wrap (rd x10_3 (ji71))) - x16_3)) - x17_3)) % 4294967296)))) ?hg ?ho ?hn ?hr ?_; (case ho => rfl); (case hg => rfl); (case hn => rfl); (case hr => first | (go_simp; done) | (go_simp; rfl)); intro w84 hw; have hg : wr.grownBy w84 (some go74) := (by rw [hw]; exact HP83.2); have hp_ : Kd.R (Kd.int .u32) 175 w84 w.heap.size (fun k_ => (w.heap.size ≤ k_) ∧ some k_ ≠ (v170 : Value).ownBlock) (.slice (some ⟨go74, 0, none⟩) x10_3.length co45) y192 := (by rw [hw, Ny192.out]; exact HP83.1); clear HP83; have n0_ := Aside0.mk (Kd.R_after (v := (.slice (some ⟨go74, 0, none⟩) x10_3.length co45)) (v1 := (.slice (some ⟨go74, 0, none⟩) x10_3.length co45)) (ok := (fun k_ => (w.heap.size ≤ k_))) (by (with_reducible repeat (first | apply Kd.R_alloc | apply Kd.R_drewN | apply Kd.R_drew)); exact HO_4.out) hg (.inl rfl)); have n1_ := Aside0.mk (Kd.V_afterv (v := (.slice (some ⟨go74, 0, none⟩) x10_3.length co45)) (v1 := (.slice (some ⟨go74, 0, none⟩) x10_3.length co45)) (ok := (fun k_ => (w.heap.size ≤ k_) ∧ some k_ ≠ (v170 : Value).ownBlock)) (by (with_reducible repeat (first | apply Kd.V_alloc | apply Kd.V_drewN | apply Kd.V_drew)); exact Kd.V_mono HO_9.out (fun _ hk => ⟨⟨hk.1, hk.2.1⟩, hk.2.2⟩)) hg (.inl rfl)); have n2_ := Aside0.mk (hp_); have n3_ := Aside0.mk ((by rw [hw]; exact below_set (HB.out) GB74.out : Below w.heap.size w w84)); clear HO_4; clear HO_9; clear HO_10; clear HB; have HO_4 := n0_; have HO_9 := n1_; have HO_10 := n2_; have HB := n3_; clear n0_ n1_ n2_ n3_; clear hg hw hp_))
                          go_loopg [16, 21] k3 (fun kq v16 v21 w' => ∃ (x10_4 : List Int) (x16_4 : Int) (x21_4 : Int), v16 = .int .u64 x16_4 ∧ v21 = .int .i64 x21_4 ∧ Aside0 (smallbig_nat_div.l3 kq x4_1 (IntKind.u64.wrap (wrap64 ((wrap64 (32 * (l1.length : Int))) - t156))) t157 x10_4 (t157.length : Int) x12_1 (IntKind.u64.wrap (x14_42 - 1)) x16_4 x21_4 = some (r1, r2)) ∧ Aside0 (kq ≤ k3) ∧ Aside0 (Kd.R (Kd.int .u32) 175 w' w.heap.size (fun k_ => (w.heap.size ≤ k_) ∧ some k_ ≠ ((.slice (some ⟨go74, 0, none⟩) x10_3.length co45) : Value).ownBlock) v170 x4_1) ∧ Aside0 (Kd.V (Kd.int .u32) 175 w' w.heap.size (fun k_ => (w.heap.size ≤ k_) ∧ some k_ ≠ (v170 : Value).ownBlock ∧ some k_ ≠ ((.slice (some ⟨go74, 0, none⟩) x10_3.length co45) : Value).ownBlock) (.slice (some ad183) t157.length co29) t157) ∧ Aside0 (Kd.R (Kd.int .u32) 175 w' w.heap.size (fun k_ => (w.heap.size ≤ k_) ∧ some k_ ≠ (v170 : Value).ownBlock) (.slice (some ⟨go74, 0, none⟩) x10_3.length co45) x10_4) ∧ Aside0 (Below w.heap.size w w'))
                          case atStart => exact ⟨(y192), (0), (0), (by first | rfl | (simp; done) | (simp [*]; done)), (by first | rfl | (simp; done) | (simp [*]; done)), H', ⟨Nat.le_refl _⟩, ⟨by (try simp only [hl10_3]); (with_reducible repeat (first | apply Kd.R_alloc | apply Kd.R_drewN | apply Kd.R_drew)); exact HO_4.out⟩, ⟨by (try simp only [hl10_3]); (with_reducible repeat (first | apply Kd.V_alloc | apply Kd.V_drewN | apply Kd.V_drew)); exact Kd.V_mono HO_9.out (fun _ hk => ⟨hk.1.1, ⟨hk.1.2, hk.2⟩⟩)⟩, ⟨by (try simp only [hl10_3]); (with_reducible repeat (first | apply Kd.R_alloc | apply Kd.R_drewN | apply Kd.R_drew)); exact HO_10.out⟩, ⟨by repeat (first | (with_reducible first | exact HB.out | apply below_alloc | apply pw_below_drewN | apply below_drew1) | exact HB.out)⟩⟩
                          case round =>
                           clear H'
                           try clear c1
                           try clear p1
                           try clear q1
                           try clear hx1
                           try clear qi1
                           try clear c2
                           try clear p2
                           try clear c3
                           try clear c3b0
                           try clear c3b1
                           try clear c3b2
                           try clear c4
                           try clear c5
                           try clear c5b0
                           try clear c6
                           try clear c6b0
                           try clear c6b1
                           try clear p6
                           try clear q6
                           try clear hx6
                           try clear hf6
                           try clear c7
                           try clear c7b0
                           try clear c7b1
                           try clear p7
                           try clear q7
                           try clear hx7
                           try clear hf7
                           try clear c12
                           try clear p14
                           try clear q14
                           try clear hx14
                           try clear qi14
                           try clear c15
                           try clear c15b0
                           try clear c15b1
                           try clear c16
                           try clear c16b0
                           try clear c16b1
                           try clear c18
                           try clear p18
                           try clear q18
                           try clear hx18
                           try clear c19
                           try clear c19b0
                           try clear c19b1
                           try clear p19
                           try clear q19
                           try clear hx19
                           try clear c20
                           try clear c20b0
                           try clear c20b1
                           try clear c32
                           try clear c32b0
                           try clear c34
                           try clear c34b0
                           try clear c35
                           try clear c35b0
                           try clear c37
                           try clear c37b0
                           try clear c38
                           try clear c38b0
                           try clear c40
                           try clear c40b0
                           try clear c41
                           try clear c41b0
                           try clear c42
                           try clear c42b0
                           try clear c42b1
                           try clear c48
                           try clear c48b0
                           try clear c48b1
                           try clear c50
                           try clear c50b0
                           try clear c51
                           try clear c51b0
                           try clear c53
                           try clear c53b0
                           try clear c54
                           try clear c54b0
                           try clear c57
                           try clear c59
                           try clear c59b0
                           try clear c60
                           try clear c60b0
                           try clear c61
                           try clear c61b0
                           try clear c61b1
                           try clear c62
                           try clear c62b0
                           try clear c63
                           try clear c63b0
                           try clear c64
                           try clear c64b0
                           try clear p64
                           try clear c66
                           try clear c66b0
                           try clear c67
                           try clear c67b0
                           try clear p68
                           try clear q68
                           try clear hx68
                           try clear hf68
                           try clear c72
                           try clear c72b0
                           try clear c73
                           try clear c73b0
                           try clear p74
                           try clear q74
                           try clear hx74
                           try clear hf74
                           try clear c75
                           try clear c75b0
                           try clear c75b1
                           try clear c76
                           try clear c76b0
                           try clear c77
                           try clear c77b0
                           try clear p78
                           try clear q78
                           try clear hx78
                           try clear hf78
                           try clear hx148_0
                           try clear hx181_0
                           try clear hx182_0
                           try clear hx183_0
                           try clear hx184_0
                           try clear hx185_0
                           try clear hx186_0
                           try clear hx187_0
                           try clear hx188_0
                           try clear hx189_0
                           try clear hx191_0
                           try clear hx68_0
                           try clear hx74_0
                           try clear hx78_0
                           try clear p1
                           try clear p14
                           try clear p148
                           try clear p18
                           try clear p181
                           try clear p182
                           try clear p183
                           try clear p184
                           try clear p185
                           try clear p186
                           try clear p187
                           try clear p188
                           try clear p189
                           try clear p191
                           try clear p2
                           try clear p6
                           try clear p68
                           try clear p74
                           try clear p78
                           try clear q1
                           try clear q14
                           try clear q148
                           try clear q18
                           try clear q181
                           try clear q182
                           try clear q183
                           try clear q184
                           try clear q185
                           try clear q186
                           try clear q187
                           try clear q188
                           try clear q189
                           try clear q191
                           try clear q68
                           try clear q74
                           try clear q78
                           obtain ⟨x10_4, x16_4, x21_4, rfl, rfl, HA, HK4, HO_4, HO_9, HO_10, HB⟩ := hrel
                           have hl10_4 := (Kd.R_reads' HO_10.out).1
                           rw [hl10_4] at HO_10
                           (try simp only [hl10_4])
                           (try simp only [hl10_4] at HO_4)
                           (try simp only [hl10_4] at HO_9)
                           cases gk with
                           | zero => exact absurd HA.out (by simp [smallbig_nat_div.l3])
                           | succ k4 =>
                            have H := HA.out
                            clear HA
                            simp only [smallbig_nat_div.l3] at H
                            by_cases c85 : x21_4 < (t157.length : Int)
                            ·
                             rw [if_pos c85] at H
                             have c85b0 : decide (x21_4 < (t157.length : Int)) = true := decide_eq_true c85
                             clear c85
                             obtain ⟨ji86, hji86⟩ : ∃ j_ : Int, (wrap64 (x12_1 + x21_4)) = j_ := ⟨_, rfl⟩
                             replace H : (if 0 ≤ (ji86) then (if (ji86) < (x10_4.length : Int) then (if 0 ≤ x21_4 then (if x21_4 < (t157.length : Int) then (smallbig_nat_div.l3 k4 x4_1 (IntKind.u64.wrap (wrap64 ((wrap64 (32 * (l1.length : Int))) - t156))) t157 (x10_4.set ((ji86) : Int).toNat ((IntKind.u64.wrap (x16_4 + (IntKind.u64.wrap ((IntKind.u64.wrap (rd x10_4 (ji86))) + (IntKind.u64.wrap (rd t157 x21_4)))))) % 4294967296)) (t157.length : Int) x12_1 (IntKind.u64.wrap (x14_42 - 1)) ((IntKind.u64.wrap (x16_4 + (IntKind.u64.wrap ((IntKind.u64.wrap (rd x10_4 (ji86))) + (IntKind.u64.wrap (rd t157 x21_4)))))) / 4294967296) (wrap64 (x21_4 + 1))) else (none)) else (none)) else (none)) else (none)) = some (r1, r2) := by first | (rw [hji86] at H; exact H) | (simp only [hji86] at H ⊢; exact H)
                             have hji86w : (IntKind.i64.wrap (x12_1 + x21_4)) = ji86 := (i64_w _).trans hji86
                             by_cases c87 : 0 ≤ (ji86)
                             ·
                              rw [if_pos c87] at H
                              have c87b0 : decide (0 ≤ (ji86)) = true := decide_eq_true c87
                              clear c87
                              by_cases c88 : (ji86) < (x10_4.length : Int)
                              ·
                               rw [if_pos c88] at H
                               have c88b0 : decide ((ji86) < (x10_4.length : Int)) = true := decide_eq_true c88
                               clear c88
                               by_cases c89 : 0 ≤ x21_4
                               ·
                                rw [if_pos c89] at H
                                have c89b0 : decide (0 ≤ x21_4) = true := decide_eq_true c89
                                clear c89
                                by_cases c90 : x21_4 < (t157.length : Int)
                                ·
                                 rw [if_pos c90] at H
                                 have c90b0 : decide (x21_4 < (t157.length : Int)) = true := decide_eq_true c90
                                 clear c90
                                 obtain ⟨y196, hy196⟩ : ∃ y_ : List Int, y_ = (x10_4.set ((ji86) : Int).toNat ((IntKind.u64.wrap (x16_4 + (IntKind.u64.wrap ((IntKind.u64.wrap (rd x10_4 (ji86))) + (IntKind.u64.wrap (rd t157 x21_4)))))) % 4294967296)) := ⟨_, rfl⟩
                                 replace H : (smallbig_nat_div.l3 k4 x4_1 (IntKind.u64.wrap (wrap64 ((wrap64 (32 * (l1.length : Int))) - t156))) t157 y196 (t157.length : Int) x12_1 (IntKind.u64.wrap (x14_42 - 1)) ((IntKind.u64.wrap (x16_4 + (IntKind.u64.wrap ((IntKind.u64.wrap (rd x10_4 (ji86))) + (IntKind.u64.wrap (rd t157 x21_4)))))) / 4294967296) (wrap64 (x21_4 + 1))) = some (r1, r2) := by first | (rw [hy196]; with_reducible exact H) | (have H2_ := (Option.bind_some _ _).symm.trans H; rw [hy196]; with_reducible exact H2_) | (have H2_ := (Option.bind_some _ _).symm.trans H; with_reducible exact H2_) | with_reducible exact H | (rw [hy196]; exact H) | exact H
                                 have Ny196 := Aside0.mk hy196
                                 clear hy196
                                 have H' := Aside0.mk H
                                 clear H
                                 try go_wp2
                                 have n0_ := Aside0.mk (Kd.R_drew HO_4.out)
                                 have n1_ := Aside0.mk (Kd.V_drew HO_9.out)
                                 have n2_ := Aside0.mk (Kd.R_drew HO_10.out)
                                 have n3_ := Aside0.mk (below_drew1 HB.out)
                                 clear HO_4
                                 clear HO_9
                                 clear HO_10
                                 clear HB
                                 have HO_4 := n0_
                                 have HO_9 := n1_
                                 have HO_10 := n2_
                                 have HB := n3_
                                 clear n0_ n1_ n2_ n3_
                                 have p194 : 0 ≤ ((ji86) : Int) := of_decide_eq_true (by first | (with_reducible assumption) | assumption)
                                 have q194 : (ji86) < (x10_4.length : Int) := of_decide_eq_true (by first | (with_reducible assumption) | assumption)
                                 obtain ⟨ad194, e194, hx194_0⟩ := Kd.at_int (Kd.R_reads' HO_10.out).2.2 (ji86) p194 q194
                                 obtain rfl : (⟨go74, 0, none⟩ : Addr) = ad194 := (by injection e194)
                                 (first | simp only [add_plain] at hx194_0 | simp only [add_at] at hx194_0 | simp only [Addr.add, Nat.zero_add] at hx194_0 | skip)
                                 replace p194 := eq_true p194
                                 replace q194 := eq_true q194
                                 have p195 : 0 ≤ (x21_4 : Int) := of_decide_eq_true (by first | (with_reducible assumption) | assumption)
                                 have q195 : x21_4 < (t157.length : Int) := of_decide_eq_true (by first | (with_reducible assumption) | assumption)
                                 obtain ⟨ad195, e195, hx195_0⟩ := Kd.at_int (Kd.V_reads' HO_9.out).2.2 x21_4 p195 q195
                                 obtain rfl : ad183 = ad195 := (by injection e195)
                                 replace p195 := eq_true p195
                                 replace q195 := eq_true q195
                                 refine start_ (n := 16) (S := fun w' => w'.cell? ⟨go74, ((ji86)).toNat, none⟩ = some (.int .u32 (rd x10_4 (ji86))) ∧ w'.cell? (ad183.add (x21_4).toNat) = some (.int .u32 (rd t157 x21_4))) (ds := []) #[false, false, false, false, false, false, false, false, false, false, false, false, false, false, false, false] (by kernel_rfl) rfl rfl ⟨hx194_0, hx195_0⟩ (fun hHeld => ?_); refine with_tabW smallbig_nat_div.tab38 smallbig_nat_div.bits38 (fun HT_ HW_ => ?_)
                                 generalize wr.drew = w92 at HO_4 HO_9 HO_10 HB hx194_0 hx195_0 hHeld ⊢
                                 refine pure_ (i := 0) (N := some 218) (v := ?_) (a' := ?_) #[true, false, false, false, false, false, false, false, false, false, false, false, false, false, false, false] rfl rfl (any_of HT_.out (by kernel_rfl)) (fun _ _ _ h => h) (Or.inl ⟨by rfl, ?_⟩) ?_ ?_
                                 rotate_left
                                 ·
                                  intro w'
                                  go_simp
                                  with_reducible rfl
                                 rotate_left
                                 ·
                                  simp only [Act.put, List.setIfInBounds_toArray, List.set_cons_zero, List.set_cons_succ, i64_w, i32_w]
                                  rfl
                                 refine pure_ (i := 1) (N := some 219) (v := ?_) (a' := ?_) #[true, true, false, false, false, false, false, false, false, false, false, false, false, false, false, false] rfl rfl (any_of HT_.out (by kernel_rfl)) (fun _ _ _ h => h) (Or.inl ⟨by rfl, ?_⟩) ?_ ?_
                                 rotate_left
                                 ·
                                  intro w'
                                  go_simp
                                  with_reducible rfl
                                 rotate_left
                                 ·
                                  simp only [Act.put, List.setIfInBounds_toArray, List.set_cons_zero, List.set_cons_succ, i64_w, i32_w]
                                  rfl
                                 refine pure_ (i := 2) (N := some 220) (v := ?_) (a' := ?_) #[true, true, true, false, false, false, false, false, false, false, false, false, false, false, false, false] rfl rfl (any_of HT_.out (by kernel_rfl)) (fun _ _ _ h => h) (Or.inl ⟨by rfl, ?_⟩) ?_ ?_
                                 rotate_left
                                 ·
                                  intro w'
                                  go_simp
                                  with_reducible rfl
                                 rotate_left
                                 ·
                                  simp only [Act.put, List.setIfInBounds_toArray, List.set_cons_zero, List.set_cons_succ, i64_w, i32_w]
                                  rfl
                                 refine pure_ (i := 3) (N := some 221) (v := ?_) (a' := ?_) #[true, true, true, true, false, false, false, false, false, false, false, false, false, false, false, false] rfl rfl (any_of HT_.out (by kernel_rfl)) (fun _ _ _ h => h) (Or.inl ⟨by rfl, ?_⟩) ?_ ?_
                                 rotate_left
                                 ·
                                  intro w'
                                  go_simp
                                  with_reducible rfl
                                 rotate_left
                                 ·
                                  simp only [Act.put, List.setIfInBounds_toArray, List.set_cons_zero, List.set_cons_succ, i64_w, i32_w]
                                  rfl
                                 refine pure_ (i := 4) (N := some 222) (v := ?_) (a' := ?_) #[true, true, true, true, true, false, false, false, false, false, false, false, false, false, false, false] rfl rfl (any_of HT_.out (by kernel_rfl)) (fun _ _ _ h => h) (Or.inl ⟨by rfl, ?_⟩) ?_ ?_
                                 rotate_left
                                 ·
                                  intro w'
                                  go_simp
                                  with_reducible rfl
                                 rotate_left
                                 ·
                                  simp only [Act.put, List.setIfInBounds_toArray, List.set_cons_zero, List.set_cons_succ, i64_w, i32_w]
                                  rfl
                                 refine pure_ (i := 5) (N := some 223) (v := ?_) (a' := ?_) #[true, true, true, true, true, true, false, false, false, false, false, false, false, false, false, false] rfl rfl (any_of HT_.out (by kernel_rfl)) (fun _ _ _ h => h) (Or.inl ⟨by rfl, ?_⟩) ?_ ?_
                                 rotate_left
                                 ·
                                  intro w'
                                  go_simp
                                  with_reducible rfl
                                 rotate_left
                                 ·
                                  simp only [Act.put, List.setIfInBounds_toArray, List.set_cons_zero, List.set_cons_succ, i64_w, i32_w]
                                  rfl
                                 refine pure_ (i := 8) (N := some 226) (v := ?_) (a' := ?_) #[true, true, true, true, true, true, false, false, true, false, false, false, false, false, false, false] rfl rfl (any_of HT_.out (by kernel_rfl)) (fun _ _ _ h => h) (Or.inl ⟨by rfl, ?_⟩) ?_ ?_
                                 rotate_left
                                 ·
                                  intro w'
                                  go_simp
                                  with_reducible rfl
                                 rotate_left
                                 ·
                                  simp only [Act.put, List.setIfInBounds_toArray, List.set_cons_zero, List.set_cons_succ, i64_w, i32_w]
                                  rfl
                                 refine pure_ (i := 9) (N := some 227) (v := ?_) (a' := ?_) #[true, true, true, true, true, true, false, false, true, true, false, false, false, false, false, false] rfl rfl (any_of HT_.out (by kernel_rfl)) (fun _ _ _ h => h) (Or.inl ⟨by rfl, ?_⟩) ?_ ?_
                                 rotate_left
                                 ·
                                  intro w'
                                  go_simp
                                  with_reducible rfl
                                 rotate_left
                                 ·
                                  simp only [Act.put, List.setIfInBounds_toArray, List.set_cons_zero, List.set_cons_succ, i64_w, i32_w]
                                  rfl
                                 refine pure_ (i := 10) (N := some 228) (v := ?_) (a' := ?_) #[true, true, true, true, true, true, false, false, true, true, true, false, false, false, false, false] rfl rfl (any_of HT_.out (by kernel_rfl)) (fun _ _ _ h => h) (Or.inl ⟨by rfl, ?_⟩) ?_ ?_
                                 rotate_left
                                 ·
                                  intro w'
                                  go_simp
                                  with_reducible rfl
                                 rotate_left
                                 ·
                                  simp only [Act.put, List.setIfInBounds_toArray, List.set_cons_zero, List.set_cons_succ, i64_w, i32_w]
                                  rfl
                                 refine take_ (i := 6) (N := some 224) (v := ?_) (a' := ?_) #[true, true, true, true, true, true, true, false, true, true, true, false, false, false, false, false] rfl rfl (take_ofW HT_.out HW_.out (by kernel_rfl)) (fun _ _ _ h => h) (Or.inl ⟨by rfl, ?_⟩) hHeld ?_ ?_
                                 rotate_left
                                 ·
                                  rintro w' ⟨s0, s1⟩
                                  go_simp
                                  with_reducible rfl
                                 rotate_left
                                 ·
                                  simp only [Act.put, List.setIfInBounds_toArray, List.set_cons_zero, List.set_cons_succ, i64_w, i32_w]
                                  rfl
                                 refine pure_ (i := 7) (N := some 225) (v := ?_) (a' := ?_) #[true, true, true, true, true, true, true, true, true, true, true, false, false, false, false, false] rfl rfl (any_of HT_.out (by kernel_rfl)) (fun _ _ _ h => h) (Or.inl ⟨by rfl, ?_⟩) ?_ ?_
                                 rotate_left
                                 ·
                                  intro w'
                                  go_simp
                                  with_reducible rfl
                                 rotate_left
                                 ·
                                  simp only [Act.put, List.setIfInBounds_toArray, List.set_cons_zero, List.set_cons_succ, i64_w, i32_w]
                                  rfl
                                 refine take_ (i := 11) (N := some 229) (v := ?_) (a' := ?_) #[true, true, true, true, true, true, true, true, true, true, true, true, false, false, false, false] rfl rfl (take_ofW HT_.out HW_.out (by kernel_rfl)) (fun _ _ _ h => h) (Or.inl ⟨by rfl, ?_⟩) hHeld ?_ ?_
                                 rotate_left
                                 ·
                                  rintro w' ⟨s0, s1⟩
                                  go_simp
                                  with_reducible rfl
                                 rotate_left
                                 ·
                                  simp only [Act.put, List.setIfInBounds_toArray, List.set_cons_zero, List.set_cons_succ, i64_w, i32_w]
                                  rfl
                                 refine pure_ (i := 12) (N := some 230) (v := ?_) (a' := ?_) #[true, true, true, true, true, true, true, true, true, true, true, true, true, false, false, false] rfl rfl (any_of HT_.out (by kernel_rfl)) (fun _ _ _ h => h) (Or.inl ⟨by rfl, ?_⟩) ?_ ?_
                                 rotate_left
                                 ·
                                  intro w'
                                  go_simp
                                  with_reducible rfl
                                 rotate_left
                                 ·
                                  simp only [Act.put, List.setIfInBounds_toArray, List.set_cons_zero, List.set_cons_succ, i64_w, i32_w]
                                  rfl
                                 refine pure_ (i := 13) (N := some 231) (v := ?_) (a' := ?_) #[true, true, true, true, true, true, true, true, true, true, true, true, true, true, false, false] rfl rfl (any_of HT_.out (by kernel_rfl)) (fun _ _ _ h => h) (Or.inl ⟨by rfl, ?_⟩) ?_ ?_
                                 rotate_left
                                 ·
                                  intro w'
                                  go_simp
                                  with_reducible rfl
                                 rotate_left
                                 ·
                                  simp only [Act.put, List.setIfInBounds_toArray, List.set_cons_zero, List.set_cons_succ, i64_w, i32_w]
                                  rfl
                                 refine pure_ (i := 14) (N := some 232) (v := ?_) (a' := ?_) #[true, true, true, true, true, true, true, true, true, true, true, true, true, true, true, false] rfl rfl (any_of HT_.out (by kernel_rfl)) (fun _ _ _ h => h) (Or.inl ⟨by rfl, ?_⟩) ?_ ?_
                                 rotate_left
                                 ·
                                  intro w'
                                  go_simp
                                  with_reducible rfl
                                 rotate_left
                                 ·
                                  simp only [Act.put, List.setIfInBounds_toArray, List.set_cons_zero, List.set_cons_succ, i64_w, i32_w]
                                  rfl
                                 refine pure_ (i := 15) (N := some 16) (v := ?_) (a' := ?_) #[true, true, true, true, true, true, true, true, true, true, true, true, true, true, true, true] rfl rfl (any_of HT_.out (by kernel_rfl)) (fun _ _ _ h => h) (Or.inl ⟨by rfl, ?_⟩) ?_ ?_
                                 rotate_left
                                 ·
                                  intro w'
                                  go_simp
                                  with_reducible rfl
                                 rotate_left
                                 ·
                                  simp only [Act.put, List.setIfInBounds_toArray, List.set_cons_zero, List.set_cons_succ, i64_w, i32_w]
                                  rfl
                                 refine done_ (done_of HT_.out (by kernel_rfl)) ?_
                                 have p91 : 0 ≤ ((ji86) : Int) := of_decide_eq_true (by first | (with_reducible assumption) | assumption)
                                 have q91 : ((ji86) : Int) < ((x10_4.length : Int) : Int) := of_decide_eq_true (by first | (with_reducible assumption) | assumption)
                                 obtain ⟨hx91_0, hf91_0⟩ := Kd.R_celln 0 HO_10.out ((ji86) : Int) p91 q91
                                 replace p91 := eq_true p91
                                 replace q91 := eq_true q91
                                 obtain ⟨hy93_, hz93_⟩ := Kd.R_celln 0 HO_10.out ((ji86) : Int) (of_decide_eq_true (by first | (with_reducible assumption) | assumption)) (of_decide_eq_true (by first | (with_reducible assumption) | assumption))
                                 have HP93 := Kd.R_putg HO_10.out ((ji86) : Int) ((IntKind.u64.wrap (x16_4 + (IntKind.u64.wrap ((IntKind.u64.wrap (rd x10_4 (ji86))) + (IntKind.u64.wrap (rd t157 x21_4)))))) % 4294967296)
                                 try go_wp2_with (first | ((with_reducible refine gate_store (t := 175) (p := 239) rfl ?_); refine store_event (t := 175) (p := 239) (v := ?vo_w94) (w1 := (w92.setCell ⟨go74, ((ji86) : Int).toNat, none⟩ (.int .u32 ((IntKind.u64.wrap (x16_4 + (IntKind.u64.wrap ((IntKind.u64.wrap (rd x10_4 (ji86))) + (IntKind.u64.wrap (rd t157 x21_4)))))) % 4294967296)))) ?hg ?ho ?hn ?hr ?_; (case ho => rfl); (case hg => rfl); (case hn => rfl); (case hr => first | (go_simp; done) | (go_simp; rfl)); intro w94 hw; have hg : w92.grownBy w94 (some go74) := (by rw [hw]; exact HP93.2); have hp_ : Kd.R (Kd.int .u32) 175 w94 w.heap.size (fun k_ => (w.heap.size ≤ k_) ∧ some k_ ≠ (v170 : Value).ownBlock) (.slice (some ⟨go74, 0, none⟩) x10_4.length co45) y196 := (by rw [hw, Ny196.out]; exact HP93.1); clear HP93; have n0_ := Aside0.mk (Kd.R_after (v := (.slice (some ⟨go74, 0, none⟩) x10_4.length co45)) (v1 := (.slice (some ⟨go74, 0, none⟩) x10_4.length co45)) (ok := (fun k_ => (w.heap.size ≤ k_))) (by (with_reducible repeat (first | apply Kd.R_alloc | apply Kd.R_drewN | apply Kd.R_drew)); exact HO_4.out) hg (.inl rfl)); have n1_ := Aside0.mk (Kd.V_afterv (v := (.slice (some ⟨go74, 0, none⟩) x10_4.length co45)) (v1 := (.slice (some ⟨go74, 0, none⟩) x10_4.length co45)) (ok := (fun k_ => (w.heap.size ≤ k_) ∧ some k_ ≠ (v170 : Value).ownBlock)) (by (with_reducible repeat (first | apply Kd.V_alloc | apply Kd.V_drewN | apply Kd.V_drew)); exact Kd.V_mono HO_9.out (fun _ hk => ⟨⟨hk.1, hk.2.1⟩, hk.2.2⟩)) hg (.inl rfl)); have n2_ := Aside0.mk (hp_); have n3_ := Aside0.mk ((by rw [hw]; exact below_set (HB.out) GB74.out : Below w.heap.size w w94)); clear HO_4; clear HO_9; clear HO_10; clear HB; have HO_4 := n0_; have HO_9 := n1_; have HO_10 := n2_; have HB := n3_; clear n0_ n1_ n2_ n3_; clear hg hw hp_))
                                 (try simp only [← hl10_4])
                                 (try simp only [add_plain])
                                 go_roundg k4
                                 case measure => have := HK1.out; have := HJ42.out; have := HK3.out; have := HK4.out; omega
                                 case rel => exact ⟨(y196), ((IntKind.u64.wrap (x16_4 + (IntKind.u64.wrap ((IntKind.u64.wrap (rd x10_4 (ji86))) + (IntKind.u64.wrap (rd t157 x21_4)))))) / 4294967296), (wrap64 (x21_4 + 1)), (by first | rfl | (simp; done) | (simp only [← hji86] <;> (first | rfl | simp)) | (simp [*]; done)), (by first | rfl | (simp; done) | (simp [*]; done)), H', ⟨by have := HK1.out; have := HJ42.out; have := HK3.out; have := HK4.out; omega⟩, ⟨by (try simp only [hl10_3]); (try simp only [hl10_4]); (with_reducible repeat (first | apply Kd.R_alloc | apply Kd.R_drewN | apply Kd.R_drew)); exact HO_4.out⟩, ⟨by (try simp only [hl10_3]); (try simp only [hl10_4]); (with_reducible repeat (first | apply Kd.V_alloc | apply Kd.V_drewN | apply Kd.V_drew)); exact Kd.V_mono HO_9.out (fun _ hk => ⟨hk.1.1, ⟨hk.1.2, hk.2⟩⟩)⟩, ⟨by (try simp only [hl10_3]); (try simp only [hl10_4]); (with_reducible repeat (first | apply Kd.R_alloc | apply Kd.R_drewN | apply Kd.R_drew)); exact HO_10.out⟩, ⟨by repeat (first | (with_reducible first | exact HB.out | apply below_alloc | apply pw_below_drewN | apply below_drew1) | exact HB.out)⟩⟩
                                ·
                                 rw [if_neg c90] at H
                                 exact absurd H (by simp)
                               ·
                                rw [if_neg c89] at H
                                exact absurd H (by simp)
                              ·
                               rw [if_neg c88] at H
                               exact absurd H (by simp)
                             ·
                              rw [if_neg c87] at H
                              exact absurd H (by simp)
                            ·
                             rw [if_neg c85] at H
                             have c85b0 : decide (x21_4 < (t157.length : Int)) = false := decide_eq_false c85
                             clear c85
                             obtain ⟨ji95, hji95⟩ : ∃ j_ : Int, (wrap64 (x12_1 + (t157.length : Int))) = j_ := ⟨_, rfl⟩
                             replace H : (if 0 ≤ (ji95) then (if (ji95) < (x10_4.length : Int) then (if 0 ≤ x12_1 then (if x12_1 < (x4_1.length : Int) then (smallbig_nat_div.l0 k4 (x4_1.set (x12_1 : Int).toNat (((IntKind.u64.wrap (x14_42 - 1))) % 4294967296)) (IntKind.u64.wrap (wrap64 ((wrap64 (32 * (l1.length : Int))) - t156))) t157 (x10_4.set ((ji95) : Int).toNat (((rd x10_4 (ji95)) + ((x16_4) % 4294967296)) % 4294967296)) (t157.length : Int) (wrap64 (x12_1 - 1))) else (none)) else (none)) else (none)) else (none)) = some (r1, r2) := by first | (rw [hji95] at H; exact H) | (simp only [hji95] at H ⊢; exact H)
                             have hji95w : (IntKind.i64.wrap (x12_1 + (t157.length : Int))) = ji95 := (i64_w _).trans hji95
                             (try (have e_ : ji95 = ji71 := hji95.symm.trans hji71; subst e_))
                             by_cases c96 : 0 ≤ (ji95)
                             ·
                              rw [if_pos c96] at H
                              have c96b0 : decide (0 ≤ (ji95)) = true := decide_eq_true c96
                              clear c96
                              by_cases c97 : (ji95) < (x10_4.length : Int)
                              ·
                               rw [if_pos c97] at H
                               have c97b0 : decide ((ji95) < (x10_4.length : Int)) = true := decide_eq_true c97
                               clear c97
                               obtain ⟨y198, hy198⟩ : ∃ y_ : List Int, y_ = (x10_4.set ((ji95) : Int).toNat (((rd x10_4 (ji95)) + ((x16_4) % 4294967296)) % 4294967296)) := ⟨_, rfl⟩
                               replace H : (if 0 ≤ x12_1 then (if x12_1 < (x4_1.length : Int) then (smallbig_nat_div.l0 k4 (x4_1.set (x12_1 : Int).toNat (((IntKind.u64.wrap (x14_42 - 1))) % 4294967296)) (IntKind.u64.wrap (wrap64 ((wrap64 (32 * (l1.length : Int))) - t156))) t157 y198 (t157.length : Int) (wrap64 (x12_1 - 1))) else (none)) else (none)) = some (r1, r2) := by first | (rw [hy198]; with_reducible exact H) | (have H2_ := (Option.bind_some _ _).symm.trans H; rw [hy198]; with_reducible exact H2_) | (have H2_ := (Option.bind_some _ _).symm.trans H; with_reducible exact H2_) | with_reducible exact H | (rw [hy198]; exact H) | exact H
                               have Ny198 := Aside0.mk hy198
                               clear hy198
                               by_cases c99 : 0 ≤ x12_1
                               ·
                                rw [if_pos c99] at H
                                have c99b0 : decide (0 ≤ x12_1) = true := decide_eq_true c99
                                clear c99
                                by_cases c100 : x12_1 < (x4_1.length : Int)
                                ·
                                 rw [if_pos c100] at H
                                 have c100b0 : decide (x12_1 < (x4_1.length : Int)) = true := decide_eq_true c100
                                 clear c100
                                 obtain ⟨y199, hy199⟩ : ∃ y_ : List Int, y_ = (x4_1.set (x12_1 : Int).toNat (((IntKind.u64.wrap (x14_42 - 1))) % 4294967296)) := ⟨_, rfl⟩
                                 replace H : (smallbig_nat_div.l0 k4 y199 (IntKind.u64.wrap (wrap64 ((wrap64 (32 * (l1.length : Int))) - t156))) t157 y198 (t157.length : Int) (wrap64 (x12_1 - 1))) = some (r1, r2) := by first | (rw [hy199]; with_reducible exact H) | (have H2_ := (Option.bind_some _ _).symm.trans H; rw [hy199]; with_reducible exact H2_) | (have H2_ := (Option.bind_some _ _).symm.trans H; with_reducible exact H2_) | with_reducible exact H | (rw [hy199]; exact H) | exact H
                                 have Ny199 := Aside0.mk hy199
                                 clear hy199
                                 have H' := Aside0.mk H
                                 clear H
                                 have p197 : 0 ≤ ((ji95) : Int) := of_decide_eq_true (by first | (with_reducible assumption) | assumption)
                                 have q197 : (ji95) < (x10_4.length : Int) := of_decide_eq_true (by first | (with_reducible assumption) | assumption)
                                 obtain ⟨ad197, e197, hx197_0⟩ := Kd.at_int (Kd.R_reads' HO_10.out).2.2 (ji95) p197 q197
                                 obtain rfl : (⟨go74, 0, none⟩ : Addr) = ad197 := (by injection e197)
                                 (first | simp only [add_plain] at hx197_0 | simp only [add_at] at hx197_0 | simp only [Addr.add, Nat.zero_add] at hx197_0 | skip)
                                 replace p197 := eq_true p197
                                 replace q197 := eq_true q197
                                 have p98 : 0 ≤ ((ji95) : Int) := of_decide_eq_true (by first | (with_reducible assumption) | assumption)
                                 have q98 : ((ji95) : Int) < ((x10_4.length : Int) : Int) := of_decide_eq_true (by first | (with_reducible assumption) | assumption)
                                 obtain ⟨hx98_0, hf98_0⟩ := Kd.R_celln 0 HO_10.out ((ji95) : Int) p98 q98
                                 replace p98 := eq_true p98
                                 replace q98 := eq_true q98
                                 have HP102 := Kd.R_putg HO_10.out ((ji95) : Int) (((rd x10_4 (ji95)) + ((x16_4) % 4294967296)) % 4294967296)
                                 go_wp2_with (first | ((with_reducible refine gate_store (t := 175) (p := 251) rfl ?_); refine store_event (t := 175) (p := 251) (v := ?vo_w103) (w1 := (wr.setCell ⟨go74, ((ji95) : Int).toNat, none⟩ (.int .u32 (((rd x10_4 (ji95)) + ((x16_4) % 4294967296)) % 4294967296)))) ?hg ?ho ?hn ?hr ?_; (case ho => rfl); (case hg => rfl); (case hn => rfl); (case hr => first | (go_simp; done) | (go_simp; rfl)); intro w103 hw; have hg : wr.grownBy w103 (some go74) := (by rw [hw]; exact HP102.2); have hp_ : Kd.R (Kd.int .u32) 175 w103 w.heap.size (fun k_ => (w.heap.size ≤ k_) ∧ some k_ ≠ (v170 : Value).ownBlock) (.slice (some ⟨go74, 0, none⟩) x10_4.length co45) y198 := (by rw [hw, Ny198.out]; exact HP102.1); clear HP102; have n0_ := Aside0.mk (Kd.R_after (v := (.slice (some ⟨go74, 0, none⟩) x10_4.length co45)) (v1 := (.slice (some ⟨go74, 0, none⟩) x10_4.length co45)) (ok := (fun k_ => (w.heap.size ≤ k_))) (by (with_reducible repeat (first | apply Kd.R_alloc | apply Kd.R_drewN | apply Kd.R_drew)); exact HO_4.out) hg (.inl rfl)); have n1_ := Aside0.mk (Kd.V_afterv (v := (.slice (some ⟨go74, 0, none⟩) x10_4.length co45)) (v1 := (.slice (some ⟨go74, 0, none⟩) x10_4.length co45)) (ok := (fun k_ => (w.heap.size ≤ k_) ∧ some k_ ≠ (v170 : Value).ownBlock)) (by (with_reducible repeat (first | apply Kd.V_alloc | apply Kd.V_drewN | apply Kd.V_drew)); exact Kd.V_mono HO_9.out (fun _ hk => ⟨⟨hk.1, hk.2.1⟩, hk.2.2⟩)) hg (.inl rfl)); have n2_ := Aside0.mk (hp_); have n3_ := Aside0.mk ((by rw [hw]; exact below_set (HB.out) GB74.out : Below w.heap.size w w103)); clear HO_4; clear HO_9; clear HO_10; clear HB; have HO_4 := n0_; have HO_9 := n1_; have HO_10 := n2_; have HB := n3_; clear n0_ n1_ n2_ n3_; clear hg hw hp_; have p101 : 0 ≤ (x12_1 : Int) := of_decide_eq_true (by first | (with_reducible assumption) | assumption); have q101 : (x12_1 : Int) < ((x4_1.length : Int) : Int) := of_decide_eq_true (by first | (with_reducible assumption) | assumption); obtain ⟨go101, co101, eo101, gb101, gl101, cl101, HG101⟩ := Kd.R_form HO_4.out (by omega); (first | cases eo101 | (injection eo101 with ea_ en_ ec_; (first | subst ea_ | (injection ea_ with ea_; subst ea_)); subst ec_; clear en_)); have GB101 := Aside0.mk gb101; have GG101 := Aside0.mk HG101; clear gb101 gl101 HG101; obtain ⟨hx101_0, hf101_0⟩ := Kd.R_celln 0 HO_4.out (x12_1 : Int) p101 q101; replace p101 := eq_true p101; replace q101 := eq_true q101; obtain ⟨hy104_, hz104_⟩ := Kd.R_celln 0 HO_4.out (x12_1 : Int) (of_decide_eq_true (by first | (with_reducible assumption) | assumption)) (of_decide_eq_true (by first | (with_reducible assumption) | assumption)); have HP104 := Kd.R_putg HO_4.out (x12_1 : Int) (((IntKind.u64.wrap (x14_42 - 1))) % 4294967296)) | ((with_reducible refine gate_store (t := 175) (p := 256) rfl ?_); refine store_event (t := 175) (p := 256) (v := ?vo_w105) (w1 := (w103.setCell ⟨go101, (x12_1 : Int).toNat, none⟩ (.int .u32 (((IntKind.u64.wrap (x14_42 - 1))) % 4294967296)))) ?hg ?ho ?hn ?hr ?_; (case ho => rfl); (case hg => rfl); (case hn => rfl); (case hr => first | (go_simp; done) | (go_simp; rfl)); intro w105 hw; have hg : w103.grownBy w105 (some go101) := (by rw [hw]; exact HP104.2); have hp_ : Kd.R (Kd.int .u32) 175 w105 w.heap.size (fun k_ => (w.heap.size ≤ k_) ∧ some k_ ≠ (.slice (some ⟨go74, 0, none⟩) x10_4.length co45 : Value).ownBlock) (.slice (some ⟨go101, 0, none⟩) x4_1.length co101) y199 := (by rw [hw, Ny199.out]; exact HP104.1); clear HP104; have n0_ := Aside0.mk (hp_); have n1_ := Aside0.mk (Kd.V_afterv (v := (.slice (some ⟨go101, 0, none⟩) x4_1.length co101)) (v1 := (.slice (some ⟨go101, 0, none⟩) x4_1.length co101)) (ok := (fun k_ => (w.heap.size ≤ k_) ∧ some k_ ≠ (.slice (some ⟨go74, 0, none⟩) x10_4.length co45 : Value).ownBlock)) (by (with_reducible repeat (first | apply Kd.V_alloc | apply Kd.V_drewN | apply Kd.V_drew)); exact Kd.V_mono HO_9.out (fun _ hk => ⟨⟨hk.1.1, hk.2⟩, hk.1.2⟩)) hg (.inl rfl)); have n2_ := Aside0.mk (Kd.R_after (v := (.slice (some ⟨go101, 0, none⟩) x4_1.length co101)) (v1 := (.slice (some ⟨go101, 0, none⟩) x4_1.length co101)) (ok := (fun k_ => (w.heap.size ≤ k_))) (by (with_reducible repeat (first | apply Kd.R_alloc | apply Kd.R_drewN | apply Kd.R_drew)); exact HO_10.out) hg (.inl rfl)); have n3_ := Aside0.mk ((by rw [hw]; exact below_set (HB.out) GB101.out : Below w.heap.size w w105)); clear HO_4; clear HO_9; clear HO_10; clear HB; have HO_4 := n0_; have HO_9 := n1_; have HO_10 := n2_; have HB := n3_; clear n0_ n1_ n2_ n3_; clear hg hw hp_))
                                 (try simp only [← hl10_3, ← hl10_4])
                                 (try simp only [add_plain])
                                 go_roundg k4
                                 case measure => have := HK1.out; have := HJ42.out; have := HK3.out; have := HK4.out; omega
                                 case rel => exact ⟨(y199), (y198), (wrap64 (x12_1 - 1)), (by first | rfl | (simp; done) | (simp [*]; done)), H', ⟨by have := HK1.out; have := HJ42.out; have := HK3.out; have := HK4.out; omega⟩, ⟨by (try simp only [hl10_3]); (try simp only [hl10_4]); (with_reducible repeat (first | apply Kd.R_alloc | apply Kd.R_drewN | apply Kd.R_drew)); exact HO_4.out⟩, ⟨by (try simp only [hl10_3]); (try simp only [hl10_4]); (with_reducible repeat (first | apply Kd.V_alloc | apply Kd.V_drewN | apply Kd.V_drew)); exact Kd.V_mono HO_9.out (fun _ hk => ⟨hk.1.1, ⟨hk.2, hk.1.2⟩⟩)⟩, ⟨by (try simp only [hl10_3]); (try simp only [hl10_4]); (with_reducible repeat (first | apply Kd.R_alloc | apply Kd.R_drewN | apply Kd.R_drew)); exact HO_10.out⟩, ⟨by repeat (first | (with_reducible first | exact HB.out | apply below_alloc | apply pw_below_drewN | apply below_drew1) | exact HB.out)⟩⟩
                                ·
                                 rw [if_neg c100] at H
                                 exact absurd H (by simp)
                               ·
                                rw [if_neg c99] at H
                                exact absurd H (by simp)
                              ·
                               rw [if_neg c97] at H
                               exact absurd H (by simp)
                             ·
                              rw [if_neg c96] at H
                              exact absurd H (by simp)
                        ·
                         rw [if_neg c73] at H
                         exact absurd H (by simp)
                       ·
                        rw [if_neg c72] at H
                        exact absurd H (by simp)
                ·
                 rw [if_neg c41] at H
                 exact absurd H (by simp)
               ·
                rw [if_neg c40] at H
                exact absurd H (by simp)
              ·
               rw [if_neg c38] at H
               exact absurd H (by simp)
             ·
              rw [if_neg c37] at H
              exact absurd H (by simp)
            ·
             rw [if_neg c35] at H
             exact absurd H (by simp)
           ·
            rw [if_neg c34] at H
            exact absurd H (by simp)
          ·
           rw [if_neg c32] at H
           have c32b0 : decide (0 ≤ x12_1) = false := decide_eq_false c32
           clear c32
           replace H := Option.bind_eq_some_iff.mp H
           obtain ⟨t172, A1060, H⟩ := H
           replace H : ((smallbig_nat_norm.f k1 x10_1).bind fun t175 => ((smallbig_nat_rsh.f k1 t175 (IntKind.u64.wrap (wrap64 ((wrap64 (32 * (l1.length : Int))) - t156)))).bind fun t178 => (some (t172, t178)))) = some (r1, r2) := H
           have A106 := Aside0.mk A1060
           clear A1060
           replace H := Option.bind_eq_some_iff.mp H
           obtain ⟨t175, A1070, H⟩ := H
           replace H : ((smallbig_nat_rsh.f k1 t175 (IntKind.u64.wrap (wrap64 ((wrap64 (32 * (l1.length : Int))) - t156)))).bind fun t178 => (some (t172, t178))) = some (r1, r2) := H
           have A107 := Aside0.mk A1070
           clear A1070
           replace H := Option.bind_eq_some_iff.mp H
           obtain ⟨t178, A1080, H⟩ := H
           replace H : (some (t172, t178)) = some (r1, r2) := H
           have A108 := Aside0.mk A1080
           clear A1080
           simp only [Option.some.injEq, Prod.mk.injEq] at H
           obtain ⟨rfl, rfl⟩ := H
           obtain ⟨Ao109, co109, eo109⟩ := Kd.R_slice HO_4.out
           subst eo109
           go_wp2_with (first | ((with_reducible refine gate_callee (f := 193) rfl ?_); refine goesL_ (some 258) rfl rfl Tryz.func193 (by kernel_rfl) rfl #[.slice Ao109 x4_1.length co109] rfl (by (try simp only [List.map_toArray, List.map_cons, List.map_nil]); first | done | rfl | (simp only [List.length_drop, List.length_take]; rfl)) ?_; (with_reducible refine (smallbig_nat_norm.calls k1 (fun k_ => some k_ = (.slice Ao109 x4_1.length co109 : Value).ownBlock) _ _ x4_1 t172 _ ?side1 A106.out).mono ?_); (case side1 => exact Kd.R_V (Kd.R_tight rfl (HO_4.out))); rintro e w110 ⟨v173, rfl, ho0, hb⟩; refine ⟨_, rfl, ?_⟩; have n0_ := Aside0.mk (Kd.R_below (by (with_reducible repeat (first | apply Kd.R_alloc | apply Kd.R_drewN | apply Kd.R_drew)); exact HO_4.out) hb); have n1_ := Aside0.mk (Kd.V_below (by (with_reducible repeat (first | apply Kd.V_alloc | apply Kd.V_drewN | apply Kd.V_drew)); exact HO_9.out) hb); have n2_ := Aside0.mk (Kd.R_below (by (with_reducible repeat (first | apply Kd.R_alloc | apply Kd.R_drewN | apply Kd.R_drew)); exact HO_10.out) hb); have n3_ := Aside0.mk (Kd.V_lower (Kd.V_mono (ok' := fun k_ => (w.heap.size ≤ k_) ∧ some k_ ≠ (v161 : Value).ownBlock) ho0 (fun k_ hk_ => ⟨Or.elim hk_ (fun hs_ => ((HO_4.out).1 k_ hs_.symm).1) (fun hn_ => (Nat.le_trans (below_size (by repeat (first | (with_reducible first | exact HB.out | apply below_alloc | apply pw_below_drewN | apply below_drew1) | exact HB.out))) hn_)), Or.elim hk_ (fun hs_ => ((HO_4.out).1 k_ hs_.symm).2) (fun hn_ => (Kd.fresh' (Kd.R_lt (by (with_reducible repeat (first | apply Kd.R_alloc | apply Kd.R_drewN | apply Kd.R_drew)); exact HO_10.out)) k_ hn_))⟩)) (below_size (by repeat (first | (with_reducible first | exact HB.out | apply below_alloc | apply pw_below_drewN | apply below_drew1) | exact HB.out)))); have n4_ := Aside0.mk (below_step (by repeat (first | (with_reducible first | exact HB.out | apply below_alloc | apply pw_below_drewN | apply below_drew1) | exact HB.out)) hb); clear HO_4; clear HO_9; clear HO_10; clear HB; have HO_4 := n0_; have HO_9 := n1_; have HO_10 := n2_; have HO174 := n3_; have HB := n4_; clear n0_ n1_ n2_ n3_ n4_; (try clear hb); (try clear hb2); (try clear hk); (try clear hi); (try clear ho0); obtain ⟨Ao111, co111, eo111⟩ := Kd.R_slice HO_10.out; subst eo111) | ((with_reducible refine gate_callee (f := 193) rfl ?_); refine goesL_ (some 260) rfl rfl Tryz.func193 (by kernel_rfl) rfl #[.slice Ao111 x10_1.length co111] rfl (by (try simp only [List.map_toArray, List.map_cons, List.map_nil]); first | done | rfl | (simp only [List.length_drop, List.length_take]; rfl)) ?_; (with_reducible refine (smallbig_nat_norm.calls k1 (fun k_ => some k_ = (.slice Ao111 x10_1.length co111 : Value).ownBlock) _ _ x10_1 t175 _ ?side1 A107.out).mono ?_); (case side1 => exact Kd.R_V (Kd.R_tight rfl (HO_10.out))); rintro e w112 ⟨v176, rfl, ho0, hb⟩; refine ⟨_, rfl, ?_⟩; have n0_ := Aside0.mk (Kd.R_below (by (with_reducible repeat (first | apply Kd.R_alloc | apply Kd.R_drewN | apply Kd.R_drew)); exact HO_4.out) hb); have n1_ := Aside0.mk (Kd.V_below (by (with_reducible repeat (first | apply Kd.V_alloc | apply Kd.V_drewN | apply Kd.V_drew)); exact HO_9.out) hb); have n2_ := Aside0.mk (Kd.R_below (by (with_reducible repeat (first | apply Kd.R_alloc | apply Kd.R_drewN | apply Kd.R_drew)); exact HO_10.out) hb); have n3_ := Aside0.mk (Kd.V_below (by (with_reducible repeat (first | apply Kd.V_alloc | apply Kd.V_drewN | apply Kd.V_drew)); exact HO174.out) hb); have n4_ := Aside0.mk (Kd.V_lower (Kd.V_mono (ok' := fun k_ => (w.heap.size ≤ k_) ∧ some k_ ≠ (.slice Ao109 x4_1.length co109 : Value).ownBlock) ho0 (fun k_ hk_ => ⟨Or.elim hk_ (fun hs_ => ((HO_10.out).1 k_ hs_.symm).1) (fun hn_ => (Nat.le_trans (below_size (by repeat (first | (with_reducible first | exact HB.out | apply below_alloc | apply pw_below_drewN | apply below_drew1) | exact HB.out))) hn_)), Or.elim hk_ (fun hs_ => ((HO_10.out).1 k_ hs_.symm).2) (fun hn_ => (Kd.fresh' (Kd.R_lt (by (with_reducible repeat (first | apply Kd.R_alloc | apply Kd.R_drewN | apply Kd.R_drew)); exact HO_4.out)) k_ hn_))⟩)) (below_size (by repeat (first | (with_reducible first | exact HB.out | apply below_alloc | apply pw_below_drewN | apply below_drew1) | exact HB.out)))); have n5_ := Aside0.mk (below_step (by repeat (first | (with_reducible first | exact HB.out | apply below_alloc | apply pw_below_drewN | apply below_drew1) | exact HB.out)) hb); clear HO_4; clear HO_9; clear HO_10; clear HO174; clear HB; have HO_4 := n0_; have HO_9 := n1_; have HO_10 := n2_; have HO174 := n3_; have HO177 := n4_; have HB := n5_; clear n0_ n1_ n2_ n3_ n4_ n5_; (try clear hb); (try clear hb2); (try clear hk); (try clear hi); (try clear ho0); obtain ⟨Ao113, co113, eo113⟩ := Kd.V_slice HO177.out; subst eo113) | ((with_reducible refine gate_callee (f := 194) rfl ?_); refine goesL_ (some 262) rfl rfl Tryz.func194 (by kernel_rfl) rfl #[.slice Ao113 t175.length co113, .int .u64 (IntKind.u64.wrap (wrap64 ((wrap64 (32 * (l1.length : Int))) - t156)))] rfl (by (try simp only [List.map_toArray, List.map_cons, List.map_nil]); first | done | rfl | (simp only [List.length_drop, List.length_take]; rfl)) ?_; (with_reducible refine (smallbig_nat_rsh.calls k1 _ _ t175 (IntKind.u64.wrap (wrap64 ((wrap64 (32 * (l1.length : Int))) - t156))) t178 _ ?side1 ?side2 A108.out).mono ?_); (case side1 => repeat (first | exact (Kd.V_reads' HO177.out).2.2 | (with_reducible refine Kd.C_alloc ?_ _) | (with_reducible refine Kd.C_drewN ?_ _) | (with_reducible refine Kd.C_drew ?_))); (case side2 => exact (Kd.V_reads' HO177.out).2.1); rintro e w114 ⟨v179, rfl, ho0, hb⟩; refine ⟨_, rfl, ?_⟩; have n0_ := Aside0.mk (Kd.R_below (by (with_reducible repeat (first | apply Kd.R_alloc | apply Kd.R_drewN | apply Kd.R_drew)); exact HO_4.out) hb); have n1_ := Aside0.mk (Kd.V_below (by (with_reducible repeat (first | apply Kd.V_alloc | apply Kd.V_drewN | apply Kd.V_drew)); exact HO_9.out) hb); have n2_ := Aside0.mk (Kd.R_below (by (with_reducible repeat (first | apply Kd.R_alloc | apply Kd.R_drewN | apply Kd.R_drew)); exact HO_10.out) hb); have n3_ := Aside0.mk (Kd.V_below (by (with_reducible repeat (first | apply Kd.V_alloc | apply Kd.V_drewN | apply Kd.V_drew)); exact HO174.out) hb); have n4_ := Aside0.mk (Kd.V_below (by (with_reducible repeat (first | apply Kd.V_alloc | apply Kd.V_drewN | apply Kd.V_drew)); exact HO177.out) hb); have n5_ := Aside0.mk (Kd.V_lower (Kd.V_mono (ok' := fun k_ => (w.heap.size ≤ k_) ∧ some k_ ≠ (.slice Ao109 x4_1.length co109 : Value).ownBlock ∧ some k_ ≠ (.slice Ao111 x10_1.length co111 : Value).ownBlock) ho0 (fun k_ hk_ => ⟨(Nat.le_trans (below_size (by repeat (first | (with_reducible first | exact HB.out | apply below_alloc | apply pw_below_drewN | apply below_drew1) | exact HB.out))) hk_), (Kd.fresh' (Kd.R_lt (by (with_reducible repeat (first | apply Kd.R_alloc | apply Kd.R_drewN | apply Kd.R_drew)); exact HO_4.out)) k_ hk_), (Kd.fresh' (Kd.R_lt (by (with_reducible repeat (first | apply Kd.R_alloc | apply Kd.R_drewN | apply Kd.R_drew)); exact HO_10.out)) k_ hk_)⟩)) (below_size (by repeat (first | (with_reducible first | exact HB.out | apply below_alloc | apply pw_below_drewN | apply below_drew1) | exact HB.out)))); have n6_ := Aside0.mk (below_step (by repeat (first | (with_reducible first | exact HB.out | apply below_alloc | apply pw_below_drewN | apply below_drew1) | exact HB.out)) hb); clear HO_4; clear HO_9; clear HO_10; clear HO174; clear HO177; clear HB; have HO_4 := n0_; have HO_9 := n1_; have HO_10 := n2_; have HO174 := n3_; have HO177 := n4_; have HO180 := n5_; have HB := n6_; clear n0_ n1_ n2_ n3_ n4_ n5_ n6_; (try clear hb); (try clear hb2); (try clear hk); (try clear hi); (try clear ho0)))
           go_ret2
           exact ⟨_, _, by first | rfl | (simp [errW_none, errW_some] <;> rfl) | (simp only [← hji14, ← hji18]; first | rfl | (simp [errW_none, errW_some] <;> rfl)) | (simp [*, errW_none, errW_some] <;> rfl), by (with_reducible repeat (first | apply Kd.V_alloc | apply Kd.V_drewN | apply Kd.V_drew)); exact Kd.V_mono HO174.out (fun _ hk => hk.1), by (with_reducible repeat (first | apply Kd.V_alloc | apply Kd.V_drewN | apply Kd.V_drew)); exact Kd.V_mono HO180.out (fun _ hk => hk.1), by repeat (first | (with_reducible first | exact HB.out | apply below_alloc | apply pw_below_drewN | apply below_drew1) | exact HB.out)⟩
       ·
        rw [if_neg c20] at H
        exact absurd H (by simp)
      ·
       rw [if_neg c19] at H
       exact absurd H (by simp)
     ·
      rw [if_neg c16] at H
      exact absurd H (by simp)
    ·
     rw [if_neg c15] at H
     exact absurd H (by simp)

end Go.Proofs.YtaiidipcmnejoaaGreatDoor.Pdiv
