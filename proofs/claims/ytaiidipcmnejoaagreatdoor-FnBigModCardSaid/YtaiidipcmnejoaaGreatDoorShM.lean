/- The walks of nat.lsh and nat.rsh. -/
import Derived.Test.YtaiidipcmnejoaaGreatDoorPdivx0
import Derived.Test.YtaiidipcmnejoaaGreatDoorPdivx1
namespace Go.Proofs.YtaiidipcmnejoaaGreatDoor.Pdiv
open Go.RowKit Go.Proofs.YtaiidipcmnejoaaGreatDoorW.PrintWords Go.Proofs.YtaiidipcmnejoaaGreatDoorW.PrintLast Go.Proofs.YtaiidipcmnejoaaGreatDoorW.PrintMore
attribute [local go_sem] max2_int min2_int max_two min_two max_three min_three max_four min_four   -- for this text's walks alone
set_option linter.unusedVariables false
set_option linter.unusedSimpArgs false

/-! ### smallbig_nat_lsh: function 192 -/
def smallbig_nat_lsh.l0 : Nat → Int → Int → List Int → List Int → Int → Int → Option (List Int)
 | 0, _, _, _, _, _, _ => none
 | k + 1, x5, x6, x7, x25, x26, x27 => if x27 < x26 then (if 0 ≤ x27 then (if x27 < (x25.length : Int) then (if 0 ≤ x6 then (if 0 ≤ (wrap64 (x27 + x5)) then (if (wrap64 (x27 + x5)) < (x7.length : Int) then (if 0 ≤ (wrap64 ((wrap64 (x27 + x5)) + 1)) then (if (wrap64 ((wrap64 (x27 + x5)) + 1)) < (x7.length : Int) then (smallbig_nat_lsh.l0 k x5 x6 ((x7.set ((wrap64 (x27 + x5)) : Int).toNat (Go.bits .or .u32 (rd x7 (wrap64 (x27 + x5))) ((shl .u64 (IntKind.u64.wrap (rd x25 x27)) x6) % 4294967296))).set ((wrap64 ((wrap64 (x27 + x5)) + 1)) : Int).toNat (((shl .u64 (IntKind.u64.wrap (rd x25 x27)) x6) / 4294967296) % 4294967296)) x25 x26 (wrap64 (x27 + 1))) else (none)) else (none)) else (none)) else (none)) else (none)) else (none)) else (none)) else ((smallbig_nat_norm.f k x7).bind fun t133 => (some t133))
def smallbig_nat_lsh.f (k : Nat) (l0 : List Int) (a1 : Int) : Option (List Int) := if (l0.length : Int) = 0 then (some ([] : List Int)) else (if 0 ≤ (wrap64 ((wrap64 ((l0.length : Int) + (wrap64 (IntKind.u64.wrap (Int.tdiv a1 32))))) + 1)) then (if (wrap64 ((wrap64 ((l0.length : Int) + (wrap64 (IntKind.u64.wrap (Int.tdiv a1 32))))) + 1) : Int).toNat ≤ 70368744177664 then (smallbig_nat_lsh.l0 k (wrap64 (IntKind.u64.wrap (Int.tdiv a1 32))) (Int.tmod a1 32) (List.replicate (wrap64 ((wrap64 ((l0.length : Int) + (wrap64 (IntKind.u64.wrap (Int.tdiv a1 32))))) + 1) : Int).toNat 0) l0 (l0.length : Int) 0) else (none)) else (none))
set_option maxHeartbeats 8000000 in
set_option maxRecDepth 100000 in
theorem smallbig_nat_lsh.calls (k : Nat) (A0 : Option Addr) (c0 : Nat) (l0 : List Int) (a1 : Int) (r : List Int) (w : World) (hr0 : Kd.C (Kd.int .u32) w A0 l0.length l0) (hc0 : l0.length ≤ c0) (h : smallbig_nat_lsh.f k l0 a1 = some r) :
  Calls Tryz.prog 192 #[.slice A0 l0.length c0, .int .u64 a1] w fun e w' => ∃ v0_ : Value, e = .returned (v0_) ∧ Kd.V (Kd.int .u32) 175 w' w.heap.size (fun k_ => (w.heap.size ≤ k_)) v0_ r ∧ Below w.heap.size w w' := by
 have HR0 := Aside0.mk hr0
 have HC0 := Aside0.mk hc0
 clear hr0 hc0
 have HB := Aside0.mk (Below.refl w.heap.size w)
 have H : (if (l0.length : Int) = 0 then (some ([] : List Int)) else (if 0 ≤ (wrap64 ((wrap64 ((l0.length : Int) + (wrap64 (IntKind.u64.wrap (Int.tdiv a1 32))))) + 1)) then (if (wrap64 ((wrap64 ((l0.length : Int) + (wrap64 (IntKind.u64.wrap (Int.tdiv a1 32))))) + 1) : Int).toNat ≤ 70368744177664 then (smallbig_nat_lsh.l0 k (wrap64 (IntKind.u64.wrap (Int.tdiv a1 32))) (Int.tmod a1 32) (List.replicate (wrap64 ((wrap64 ((l0.length : Int) + (wrap64 (IntKind.u64.wrap (Int.tdiv a1 32))))) + 1) : Int).toNat 0) l0 (l0.length : Int) 0) else (none)) else (none))) = some r := h
 clear h
 by_cases c3 : (l0.length : Int) = 0
 ·
  rw [if_pos c3] at H
  have c3b0 : ((l0.length : Int) == 0) = true := beq_iff_eq.mpr c3
  have c3b1 : ((l0.length : Int) != 0) = false := bne_eq_false_iff_eq.mpr c3
  clear c3
  obtain rfl := Option.some.inj H
  go_enter Tryz.func192, Tryz.ntmps192
  go_wp2
  go_ret
  exact ⟨.slice none 0 0, by first | rfl | (simp [errW_none, errW_some] <;> rfl) | (simp [*, errW_none, errW_some] <;> rfl), Kd.V_nil _ _ _ _ _, by repeat (first | (with_reducible first | exact HB.out | apply below_alloc | apply pw_below_drewN | apply below_drew1) | exact HB.out)⟩
 ·
  rw [if_neg c3] at H
  have c3b0 : ((l0.length : Int) == 0) = false := beq_eq_false_iff_ne.mpr c3
  have c3b1 : ((l0.length : Int) != 0) = true := bne_iff_ne.mpr c3
  have c3b2 : ¬ (l0 = []) := fun h_ => c3 (by rw [h_]; rfl)
  obtain ⟨ji4, hji4⟩ : ∃ j_ : Int, (wrap64 ((wrap64 ((l0.length : Int) + (wrap64 (IntKind.u64.wrap (Int.tdiv a1 32))))) + 1)) = j_ := ⟨_, rfl⟩
  replace H : (if 0 ≤ (ji4) then (if (ji4 : Int).toNat ≤ 70368744177664 then (smallbig_nat_lsh.l0 k (wrap64 (IntKind.u64.wrap (Int.tdiv a1 32))) (Int.tmod a1 32) (List.replicate (ji4 : Int).toNat 0) l0 (l0.length : Int) 0) else (none)) else (none)) = some r := by first | (rw [hji4] at H; exact H) | (simp only [hji4] at H ⊢; exact H)
  have hji4w : (IntKind.i64.wrap ((wrap64 ((l0.length : Int) + (wrap64 (IntKind.u64.wrap (Int.tdiv a1 32))))) + 1)) = ji4 := (i64_w _).trans hji4
  by_cases c5 : 0 ≤ (ji4)
  ·
   rw [if_pos c5] at H
   have c5b0 := eq_true c5
   have c5b1 : decide (0 ≤ (ji4)) = true := decide_eq_true c5
   clear c5
   by_cases c6 : (ji4 : Int).toNat ≤ 70368744177664
   ·
    rw [if_pos c6] at H
    have c6b0 := eq_true c6
    have c6b1 : decide ((ji4 : Int).toNat ≤ 70368744177664) = true := decide_eq_true c6
    clear c6
    obtain ⟨y126, hy126⟩ : ∃ y_ : List Int, y_ = (List.replicate (ji4 : Int).toNat 0) := ⟨_, rfl⟩
    replace H : (smallbig_nat_lsh.l0 k (wrap64 (IntKind.u64.wrap (Int.tdiv a1 32))) (Int.tmod a1 32) y126 l0 (l0.length : Int) 0) = some r := by first | (rw [hy126]; with_reducible exact H) | (have H2_ := (Option.bind_some _ _).symm.trans H; rw [hy126]; with_reducible exact H2_) | (have H2_ := (Option.bind_some _ _).symm.trans H; with_reducible exact H2_) | with_reducible exact H | (rw [hy126]; exact H) | exact H
    have Ny126 := Aside0.mk hy126
    clear hy126
    have H' := Aside0.mk H
    clear H
    go_enter Tryz.func192, Tryz.ntmps192
    go_wp2_with (first | ((with_reducible refine gate_dst (N := 24) rfl ?_); refine Kd.R_make (Kd.int .u32) _ 175 rfl (N := 24) rfl 95 _ _ rfl ji4 rfl rfl Tryz.underlying95 (.int .u32 0) 4 info175 rfl (by decide) (by omega) 0 (ok := fun _ => True) (okp := fun _ => True) rfl (fun _ hk => hk) trivial (of_decide_eq_true (by first | (with_reducible assumption) | assumption)) (Nat.le_trans (Nat.mul_le_mul_right _ (of_decide_eq_true (by first | (with_reducible assumption) | assumption) : ji4.toNat ≤ 70368744177664)) (by omega)) (Below.refl _ _) (Nat.le_refl _) ?_; intro v127 w7 ho8 hb hg_ hnew_; clear hg_ hnew_; (first | rw [← Ny126.out] at ho8 | (simp only [Int.reduceToNat] at ho8; rw [← Ny126.out] at ho8)); have n0_ := Aside0.mk (Kd.R_lower (Kd.R_newM (M := fun k_ => (w.heap.size ≤ k_)) ho8 (below_size (by repeat (first | (with_reducible first | exact HB.out | apply below_alloc | apply pw_below_drewN | apply below_drew1) | exact HB.out))) (fun k_ h_ => h_)) (below_size (by repeat (first | (with_reducible first | exact HB.out | apply below_alloc | apply pw_below_drewN | apply below_drew1) | exact HB.out)))); have n1_ := Aside0.mk (below_step (by repeat (first | (with_reducible first | exact HB.out | apply below_alloc | apply pw_below_drewN | apply below_drew1) | exact HB.out)) hb); clear HB; have HO128 := n0_; have HB := n1_; clear n0_ n1_; clear hb ho8))
    go_loopg [27] k (fun kq v27 w' => ∃ (x7_1 : List Int) (x27_1 : Int), v27 = .int .i64 x27_1 ∧ Aside0 (smallbig_nat_lsh.l0 kq (wrap64 (IntKind.u64.wrap (Int.tdiv a1 32))) (Int.tmod a1 32) x7_1 l0 (l0.length : Int) x27_1 = some r) ∧ Aside0 (kq ≤ k) ∧ Aside0 (Kd.R (Kd.int .u32) 175 w' w.heap.size (fun k_ => (w.heap.size ≤ k_)) v127 x7_1) ∧ Aside0 (Below w.heap.size w w'))
    case atStart => exact ⟨(y126), (0), (by first | rfl | (simp; done) | (simp [*]; done)), H', ⟨Nat.le_refl _⟩, ⟨by (with_reducible repeat (first | apply Kd.R_alloc | apply Kd.R_drewN | apply Kd.R_drew)); exact Kd.R_mono HO128.out (fun _ hk => hk.1)⟩, ⟨by repeat (first | (with_reducible first | exact HB.out | apply below_alloc | apply pw_below_drewN | apply below_drew1) | exact HB.out)⟩⟩
    case round =>
     clear H'
     try clear c1
     try clear p2
     try clear c3
     try clear c3b0
     try clear c3b1
     try clear c3b2
     try clear c5
     try clear c5b0
     try clear c5b1
     try clear c6
     try clear c6b0
     try clear c6b1
     try clear p6
     obtain ⟨x7_1, x27_1, rfl, HA, HK1, HO_7, HB⟩ := hrel
     cases gk with
     | zero => exact absurd HA.out (by simp [smallbig_nat_lsh.l0])
     | succ k1 =>
      have H := HA.out
      clear HA
      simp only [smallbig_nat_lsh.l0] at H
      by_cases c9 : x27_1 < (l0.length : Int)
      ·
       rw [if_pos c9] at H
       have c9b0 : decide (x27_1 < (l0.length : Int)) = true := decide_eq_true c9
       clear c9
       by_cases c10 : 0 ≤ x27_1
       ·
        rw [if_pos c10] at H
        have c10b0 : decide (0 ≤ x27_1) = true := decide_eq_true c10
        clear c10
        by_cases c11 : x27_1 < (l0.length : Int)
        ·
         rw [if_pos c11] at H
         have c11b0 : decide (x27_1 < (l0.length : Int)) = true := decide_eq_true c11
         clear c11
         obtain ⟨ji12, hji12⟩ : ∃ j_ : Int, (Int.tmod a1 32) = j_ := ⟨_, rfl⟩
         replace H : (if 0 ≤ (ji12) then (if 0 ≤ (wrap64 (x27_1 + (wrap64 (IntKind.u64.wrap (Int.tdiv a1 32))))) then (if (wrap64 (x27_1 + (wrap64 (IntKind.u64.wrap (Int.tdiv a1 32))))) < (x7_1.length : Int) then (if 0 ≤ (wrap64 ((wrap64 (x27_1 + (wrap64 (IntKind.u64.wrap (Int.tdiv a1 32))))) + 1)) then (if (wrap64 ((wrap64 (x27_1 + (wrap64 (IntKind.u64.wrap (Int.tdiv a1 32))))) + 1)) < (x7_1.length : Int) then (smallbig_nat_lsh.l0 k1 (wrap64 (IntKind.u64.wrap (Int.tdiv a1 32))) (ji12) ((x7_1.set ((wrap64 (x27_1 + (wrap64 (IntKind.u64.wrap (Int.tdiv a1 32))))) : Int).toNat (Go.bits .or .u32 (rd x7_1 (wrap64 (x27_1 + (wrap64 (IntKind.u64.wrap (Int.tdiv a1 32)))))) ((shl .u64 (IntKind.u64.wrap (rd l0 x27_1)) (ji12)) % 4294967296))).set ((wrap64 ((wrap64 (x27_1 + (wrap64 (IntKind.u64.wrap (Int.tdiv a1 32))))) + 1)) : Int).toNat (((shl .u64 (IntKind.u64.wrap (rd l0 x27_1)) (ji12)) / 4294967296) % 4294967296)) l0 (l0.length : Int) (wrap64 (x27_1 + 1))) else (none)) else (none)) else (none)) else (none)) else (none)) = some r := by first | (rw [hji12] at H; exact H) | (simp only [hji12] at H ⊢; exact H)
         by_cases c13 : 0 ≤ (ji12)
         ·
          rw [if_pos c13] at H
          have c13b0 := eq_true c13
          have c13b1 : decide (0 ≤ (ji12)) = true := decide_eq_true c13
          clear c13
          obtain ⟨ji14, hji14⟩ : ∃ j_ : Int, (shl .u64 (IntKind.u64.wrap (rd l0 x27_1)) (ji12)) = j_ := ⟨_, rfl⟩
          replace H : (if 0 ≤ (wrap64 (x27_1 + (wrap64 (IntKind.u64.wrap (Int.tdiv a1 32))))) then (if (wrap64 (x27_1 + (wrap64 (IntKind.u64.wrap (Int.tdiv a1 32))))) < (x7_1.length : Int) then (if 0 ≤ (wrap64 ((wrap64 (x27_1 + (wrap64 (IntKind.u64.wrap (Int.tdiv a1 32))))) + 1)) then (if (wrap64 ((wrap64 (x27_1 + (wrap64 (IntKind.u64.wrap (Int.tdiv a1 32))))) + 1)) < (x7_1.length : Int) then (smallbig_nat_lsh.l0 k1 (wrap64 (IntKind.u64.wrap (Int.tdiv a1 32))) (ji12) ((x7_1.set ((wrap64 (x27_1 + (wrap64 (IntKind.u64.wrap (Int.tdiv a1 32))))) : Int).toNat (Go.bits .or .u32 (rd x7_1 (wrap64 (x27_1 + (wrap64 (IntKind.u64.wrap (Int.tdiv a1 32)))))) ((ji14) % 4294967296))).set ((wrap64 ((wrap64 (x27_1 + (wrap64 (IntKind.u64.wrap (Int.tdiv a1 32))))) + 1)) : Int).toNat (((ji14) / 4294967296) % 4294967296)) l0 (l0.length : Int) (wrap64 (x27_1 + 1))) else (none)) else (none)) else (none)) else (none)) = some r := by first | (rw [hji14] at H; exact H) | (simp only [hji14] at H ⊢; exact H)
          have hji14_ : (IntKind.u64.wrap ((IntKind.u64.wrap (rd l0 x27_1)) * 2 ^ min (ji12).toNat 64)) = ji14 := hji14
          have hji14z : (ji12) ≤ 64 → (IntKind.u64.wrap ((IntKind.u64.wrap (rd l0 x27_1)) * 2 ^ (ji12).toNat)) = ji14 := shl_small hji14
          obtain ⟨ji15, hji15⟩ : ∃ j_ : Int, (wrap64 (x27_1 + (wrap64 (IntKind.u64.wrap (Int.tdiv a1 32))))) = j_ := ⟨_, rfl⟩
          replace H : (if 0 ≤ (ji15) then (if (ji15) < (x7_1.length : Int) then (if 0 ≤ (wrap64 ((ji15) + 1)) then (if (wrap64 ((ji15) + 1)) < (x7_1.length : Int) then (smallbig_nat_lsh.l0 k1 (wrap64 (IntKind.u64.wrap (Int.tdiv a1 32))) (ji12) ((x7_1.set ((ji15) : Int).toNat (Go.bits .or .u32 (rd x7_1 (ji15)) ((ji14) % 4294967296))).set ((wrap64 ((ji15) + 1)) : Int).toNat (((ji14) / 4294967296) % 4294967296)) l0 (l0.length : Int) (wrap64 (x27_1 + 1))) else (none)) else (none)) else (none)) else (none)) = some r := by first | (rw [hji15] at H; exact H) | (simp only [hji15] at H ⊢; exact H)
          have hji15w : (IntKind.i64.wrap (x27_1 + (wrap64 (IntKind.u64.wrap (Int.tdiv a1 32))))) = ji15 := (i64_w _).trans hji15
          by_cases c16 : 0 ≤ (ji15)
          ·
           rw [if_pos c16] at H
           have c16b0 : decide (0 ≤ (ji15)) = true := decide_eq_true c16
           clear c16
           by_cases c17 : (ji15) < (x7_1.length : Int)
           ·
            rw [if_pos c17] at H
            have c17b0 : decide ((ji15) < (x7_1.length : Int)) = true := decide_eq_true c17
            clear c17
            obtain ⟨y131, hy131⟩ : ∃ y_ : List Int, y_ = (x7_1.set ((ji15) : Int).toNat (Go.bits .or .u32 (rd x7_1 (ji15)) ((ji14) % 4294967296))) := ⟨_, rfl⟩
            replace H : (if 0 ≤ (wrap64 ((ji15) + 1)) then (if (wrap64 ((ji15) + 1)) < (x7_1.length : Int) then (smallbig_nat_lsh.l0 k1 (wrap64 (IntKind.u64.wrap (Int.tdiv a1 32))) (ji12) (y131.set ((wrap64 ((ji15) + 1)) : Int).toNat (((ji14) / 4294967296) % 4294967296)) l0 (l0.length : Int) (wrap64 (x27_1 + 1))) else (none)) else (none)) = some r := by first | (rw [hy131]; with_reducible exact H) | (have H2_ := (Option.bind_some _ _).symm.trans H; rw [hy131]; with_reducible exact H2_) | (have H2_ := (Option.bind_some _ _).symm.trans H; with_reducible exact H2_) | with_reducible exact H | (rw [hy131]; exact H) | exact H
            have Ny131 := Aside0.mk hy131
            clear hy131
            obtain ⟨ji19, hji19⟩ : ∃ j_ : Int, (wrap64 ((ji15) + 1)) = j_ := ⟨_, rfl⟩
            replace H : (if 0 ≤ (ji19) then (if (ji19) < (x7_1.length : Int) then (smallbig_nat_lsh.l0 k1 (wrap64 (IntKind.u64.wrap (Int.tdiv a1 32))) (ji12) (y131.set ((ji19) : Int).toNat (((ji14) / 4294967296) % 4294967296)) l0 (l0.length : Int) (wrap64 (x27_1 + 1))) else (none)) else (none)) = some r := by first | (rw [hji19] at H; exact H) | (simp only [hji19] at H ⊢; exact H)
            have hji19w : (IntKind.i64.wrap ((ji15) + 1)) = ji19 := (i64_w _).trans hji19
            by_cases c20 : 0 ≤ (ji19)
            ·
             rw [if_pos c20] at H
             have c20b0 : decide (0 ≤ (ji19)) = true := decide_eq_true c20
             clear c20
             by_cases c21 : (ji19) < (x7_1.length : Int)
             ·
              rw [if_pos c21] at H
              have c21b0 : decide ((ji19) < (x7_1.length : Int)) = true := decide_eq_true c21
              clear c21
              obtain ⟨y132, hy132⟩ : ∃ y_ : List Int, y_ = (y131.set ((ji19) : Int).toNat (((ji14) / 4294967296) % 4294967296)) := ⟨_, rfl⟩
              replace H : (smallbig_nat_lsh.l0 k1 (wrap64 (IntKind.u64.wrap (Int.tdiv a1 32))) (ji12) y132 l0 (l0.length : Int) (wrap64 (x27_1 + 1))) = some r := by first | (rw [hy132]; with_reducible exact H) | (have H2_ := (Option.bind_some _ _).symm.trans H; rw [hy132]; with_reducible exact H2_) | (have H2_ := (Option.bind_some _ _).symm.trans H; with_reducible exact H2_) | with_reducible exact H | (rw [hy132]; exact H) | exact H
              have Ny132 := Aside0.mk hy132
              clear hy132
              have H' := Aside0.mk H
              clear H
              have p129 : 0 ≤ (x27_1 : Int) := of_decide_eq_true (by first | (with_reducible assumption) | assumption)
              have q129 : x27_1 < (l0.length : Int) := of_decide_eq_true (by first | (with_reducible assumption) | assumption)
              obtain ⟨ad129, e129, hx129_0⟩ := Kd.at_int HR0.out x27_1 p129 q129
              cases e129
              replace hx129_0 := (HB.out.cell (World.block_lt_of_cell? w _ hx129_0)).trans hx129_0
              replace p129 := eq_true p129
              replace q129 := eq_true q129
              obtain ⟨Ao23, co23, eo23⟩ := Kd.R_slice HO_7.out
              subst eo23
              have p130 : 0 ≤ ((ji15) : Int) := of_decide_eq_true (by first | (with_reducible assumption) | assumption)
              have q130 : (ji15) < (x7_1.length : Int) := of_decide_eq_true (by first | (with_reducible assumption) | assumption)
              obtain ⟨ad130, e130, hx130_0⟩ := Kd.at_int (Kd.R_reads' HO_7.out).2.2 (ji15) p130 q130
              cases e130
              replace p130 := eq_true p130
              replace q130 := eq_true q130
              have p18 : 0 ≤ ((ji15) : Int) := of_decide_eq_true (by first | (with_reducible assumption) | assumption)
              have q18 : ((ji15) : Int) < ((x7_1.length : Int) : Int) := of_decide_eq_true (by first | (with_reducible assumption) | assumption)
              obtain ⟨go18, co18, eo18, gb18, gl18, cl18, HG18⟩ := Kd.R_form HO_7.out (by omega)
              (first | cases eo18 | (injection eo18 with ea_ en_ ec_; (first | subst ea_ | (injection ea_ with ea_; subst ea_)); subst ec_; clear en_))
              have GB18 := Aside0.mk gb18
              have GG18 := Aside0.mk HG18
              clear gb18 gl18 HG18
              (first | simp only [add_plain] at hx130_0 | skip)
              obtain ⟨hx18_0, hf18_0⟩ := Kd.R_celln 0 HO_7.out ((ji15) : Int) p18 q18
              replace p18 := eq_true p18
              replace q18 := eq_true q18
              have HP24 := Kd.R_putg HO_7.out ((ji15) : Int) (Go.bits .or .u32 (rd x7_1 (ji15)) ((ji14) % 4294967296))
              go_wp2_with (first | ((with_reducible refine gate_store (t := 175) (p := 45) rfl ?_); refine store_event (t := 175) (p := 45) (v := ?vo_w25) (w1 := (wr.setCell ⟨go18, ((ji15) : Int).toNat, none⟩ (.int .u32 (Go.bits .or .u32 (rd x7_1 (ji15)) ((ji14) % 4294967296))))) ?hg ?ho ?hn ?hr ?_; (case ho => rfl); (case hg => rfl); (case hn => rfl); (case hr => first | (go_simp; done) | (go_simp; rfl)); intro w25 hw; have hg : wr.grownBy w25 (some go18) := (by rw [hw]; exact HP24.2); have hp_ : Kd.R (Kd.int .u32) 175 w25 w.heap.size (fun k_ => (w.heap.size ≤ k_)) (.slice (some ⟨go18, 0, none⟩) x7_1.length co23) y131 := (by rw [hw, Ny131.out]; exact HP24.1); clear HP24; have n0_ := Aside0.mk (hp_); have n1_ := Aside0.mk ((by rw [hw]; exact below_set (HB.out) GB18.out : Below w.heap.size w w25)); clear HO_7; clear HB; have HO_7 := n0_; have HB := n1_; clear n0_ n1_; clear hg hw hp_; have p22 : 0 ≤ ((ji19) : Int) := of_decide_eq_true (by first | (with_reducible assumption) | assumption); have q22 : ((ji19) : Int) < ((x7_1.length : Int) : Int) := of_decide_eq_true (by first | (with_reducible assumption) | assumption); obtain ⟨hx22_0, hf22_0⟩ := Kd.R_celln 0 HO_7.out ((ji19) : Int) p22 q22; replace p22 := eq_true p22; replace q22 := eq_true q22; obtain ⟨hy26_, hz26_⟩ := Kd.R_celln 0 HO_7.out ((ji19) : Int) (of_decide_eq_true (by first | (with_reducible assumption) | assumption)) (of_decide_eq_true (by first | (with_reducible assumption) | assumption)); have HP26 := Kd.R_putg HO_7.out ((ji19) : Int) (((ji14) / 4294967296) % 4294967296)) | ((with_reducible refine gate_store (t := 175) (p := 54) rfl ?_); refine store_event (t := 175) (p := 54) (v := ?vo_w27) (w1 := (w25.setCell ⟨go18, ((ji19) : Int).toNat, none⟩ (.int .u32 (((ji14) / 4294967296) % 4294967296)))) ?hg ?ho ?hn ?hr ?_; (case ho => rfl); (case hg => rfl); (case hn => rfl); (case hr => first | (go_simp; done) | (go_simp; rfl)); intro w27 hw; have hg : w25.grownBy w27 (some go18) := (by rw [hw]; exact HP26.2); have hp_ : Kd.R (Kd.int .u32) 175 w27 w.heap.size (fun k_ => (w.heap.size ≤ k_)) (.slice (some ⟨go18, 0, none⟩) x7_1.length co23) y132 := (by rw [hw, Ny132.out]; exact HP26.1); clear HP26; have n0_ := Aside0.mk (hp_); have n1_ := Aside0.mk ((by rw [hw]; exact below_set (HB.out) GB18.out : Below w.heap.size w w27)); clear HO_7; clear HB; have HO_7 := n0_; have HB := n1_; clear n0_ n1_; clear hg hw hp_))
              go_roundg k1
              case measure => have := HK1.out; omega
              case rel => exact ⟨(y132), (wrap64 (x27_1 + 1)), (by first | rfl | (simp; done) | (simp [*]; done)), (by rw [hji12]; exact H'), ⟨by have := HK1.out; omega⟩, ⟨by (with_reducible repeat (first | apply Kd.R_alloc | apply Kd.R_drewN | apply Kd.R_drew)); exact HO_7.out⟩, ⟨by repeat (first | (with_reducible first | exact HB.out | apply below_alloc | apply pw_below_drewN | apply below_drew1) | exact HB.out)⟩⟩
             ·
              rw [if_neg c21] at H
              exact absurd H (by simp)
            ·
             rw [if_neg c20] at H
             exact absurd H (by simp)
           ·
            rw [if_neg c17] at H
            exact absurd H (by simp)
          ·
           rw [if_neg c16] at H
           exact absurd H (by simp)
         ·
          rw [if_neg c13] at H
          exact absurd H (by simp)
        ·
         rw [if_neg c11] at H
         exact absurd H (by simp)
       ·
        rw [if_neg c10] at H
        exact absurd H (by simp)
      ·
       rw [if_neg c9] at H
       have c9b0 : decide (x27_1 < (l0.length : Int)) = false := decide_eq_false c9
       clear c9
       replace H := Option.bind_eq_some_iff.mp H
       obtain ⟨t133, A280, H⟩ := H
       replace H : (some t133) = some r := H
       have A28 := Aside0.mk A280
       clear A280
       obtain rfl := Option.some.inj H
       obtain ⟨Ao29, co29, eo29⟩ := Kd.R_slice HO_7.out
       subst eo29
       go_wp2_with (first | ((with_reducible refine gate_callee (f := 193) rfl ?_); refine goesL_ (some 57) rfl rfl Tryz.func193 (by kernel_rfl) rfl #[.slice Ao29 x7_1.length co29] rfl (by (try simp only [List.map_toArray, List.map_cons, List.map_nil]); first | done | rfl | (simp only [List.length_drop, List.length_take]; rfl)) ?_; (with_reducible refine (smallbig_nat_norm.calls k1 (fun k_ => some k_ = (.slice Ao29 x7_1.length co29 : Value).ownBlock) _ _ x7_1 t133 _ ?side1 A28.out).mono ?_); (case side1 => exact Kd.R_V (Kd.R_tight rfl (HO_7.out))); rintro e w30 ⟨v134, rfl, ho0, hb⟩; refine ⟨_, rfl, ?_⟩; have n0_ := Aside0.mk (Kd.R_below (by (with_reducible repeat (first | apply Kd.R_alloc | apply Kd.R_drewN | apply Kd.R_drew)); exact HO_7.out) hb); have n1_ := Aside0.mk (Kd.V_lower (Kd.V_mono (ok' := fun k_ => (w.heap.size ≤ k_)) ho0 (fun k_ hk_ => Or.elim hk_ (fun hs_ => ((HO_7.out).1 k_ hs_.symm)) (fun hn_ => (Nat.le_trans (below_size (by repeat (first | (with_reducible first | exact HB.out | apply below_alloc | apply pw_below_drewN | apply below_drew1) | exact HB.out))) hn_)))) (below_size (by repeat (first | (with_reducible first | exact HB.out | apply below_alloc | apply pw_below_drewN | apply below_drew1) | exact HB.out)))); have n2_ := Aside0.mk (below_step (by repeat (first | (with_reducible first | exact HB.out | apply below_alloc | apply pw_below_drewN | apply below_drew1) | exact HB.out)) hb); clear HO_7; clear HB; have HO_7 := n0_; have HO135 := n1_; have HB := n2_; clear n0_ n1_ n2_; (try clear hb); (try clear hb2); (try clear hk); (try clear hi); (try clear ho0)))
       go_ret
       exact ⟨_, by first | rfl | (simp [errW_none, errW_some] <;> rfl) | (simp only [← hji4]; first | rfl | (simp [errW_none, errW_some] <;> rfl)) | (simp [*, errW_none, errW_some] <;> rfl), by (with_reducible repeat (first | apply Kd.V_alloc | apply Kd.V_drewN | apply Kd.V_drew)); exact HO135.out, by repeat (first | (with_reducible first | exact HB.out | apply below_alloc | apply pw_below_drewN | apply below_drew1) | exact HB.out)⟩
   ·
    rw [if_neg c6] at H
    exact absurd H (by simp)
  ·
   rw [if_neg c5] at H
   exact absurd H (by simp)

/-! ### smallbig_nat_rsh: function 194 -/
def smallbig_nat_rsh.l0 : Nat → List Int → Int → List Int → Int → Int → Option (List Int)
 | 0, _, _, _, _, _ => none
 | k + 1, x0, x6, x7, x26, x27 => if x27 < x26 then (if 0 ≤ x27 then (if x27 < (x0.length : Int) then (if (wrap64 (x27 + 1)) < (x0.length : Int) then (if 0 ≤ (wrap64 (x27 + 1)) then (if 0 ≤ x6 then (if x27 < (x7.length : Int) then (smallbig_nat_rsh.l0 k x0 x6 (x7.set (x27 : Int).toNat ((shr .u64 (Go.bits .or .u64 (IntKind.u64.wrap (rd x0 x27)) (IntKind.u64.wrap ((IntKind.u64.wrap (rd x0 (wrap64 (x27 + 1)))) * 4294967296))) x6) % 4294967296)) x26 (wrap64 (x27 + 1))) else (none)) else (none)) else (none)) else (if 0 ≤ x6 then (if x27 < (x7.length : Int) then (smallbig_nat_rsh.l0 k x0 x6 (x7.set (x27 : Int).toNat ((shr .u64 (IntKind.u64.wrap (rd x0 x27)) x6) % 4294967296)) x26 (wrap64 (x27 + 1))) else (none)) else (none))) else (none)) else (none)) else ((smallbig_nat_norm.f k x7).bind fun t144 => (some t144))
def smallbig_nat_rsh.f (k : Nat) (l0 : List Int) (a1 : Int) : Option (List Int) := if (IntKind.u64.wrap (Int.tdiv a1 32)) ≥ (IntKind.u64.wrap ((l0.length : Int))) then (some ([] : List Int)) else (if 0 ≤ (IntKind.u64.wrap (Int.tdiv a1 32)) then (if (IntKind.u64.wrap (Int.tdiv a1 32)) ≤ (l0.length : Int) then (if 0 ≤ ((l0.drop ((IntKind.u64.wrap (Int.tdiv a1 32)) : Int).toNat).length : Int) then (if (((l0.drop ((IntKind.u64.wrap (Int.tdiv a1 32)) : Int).toNat).length : Int) : Int).toNat ≤ 70368744177664 then (smallbig_nat_rsh.l0 k (l0.drop ((IntKind.u64.wrap (Int.tdiv a1 32)) : Int).toNat) (Int.tmod a1 32) (List.replicate (((l0.drop ((IntKind.u64.wrap (Int.tdiv a1 32)) : Int).toNat).length : Int) : Int).toNat 0) ((l0.drop ((IntKind.u64.wrap (Int.tdiv a1 32)) : Int).toNat).length : Int) 0) else (none)) else (none)) else (none)) else (none))
set_option maxHeartbeats 8000000 in
set_option maxRecDepth 100000 in
theorem smallbig_nat_rsh.calls (k : Nat) (A0 : Option Addr) (c0 : Nat) (l0 : List Int) (a1 : Int) (r : List Int) (w : World) (hr0 : Kd.C (Kd.int .u32) w A0 l0.length l0) (hc0 : l0.length ≤ c0) (h : smallbig_nat_rsh.f k l0 a1 = some r) :
  Calls Tryz.prog 194 #[.slice A0 l0.length c0, .int .u64 a1] w fun e w' => ∃ v0_ : Value, e = .returned (v0_) ∧ Kd.V (Kd.int .u32) 175 w' w.heap.size (fun k_ => (w.heap.size ≤ k_)) v0_ r ∧ Below w.heap.size w w' := by
 have HR0 := Aside0.mk hr0
 have HC0 := Aside0.mk hc0
 clear hr0 hc0
 have HB := Aside0.mk (Below.refl w.heap.size w)
 have H : (if (IntKind.u64.wrap (Int.tdiv a1 32)) ≥ (IntKind.u64.wrap ((l0.length : Int))) then (some ([] : List Int)) else (if 0 ≤ (IntKind.u64.wrap (Int.tdiv a1 32)) then (if (IntKind.u64.wrap (Int.tdiv a1 32)) ≤ (l0.length : Int) then (if 0 ≤ ((l0.drop ((IntKind.u64.wrap (Int.tdiv a1 32)) : Int).toNat).length : Int) then (if (((l0.drop ((IntKind.u64.wrap (Int.tdiv a1 32)) : Int).toNat).length : Int) : Int).toNat ≤ 70368744177664 then (smallbig_nat_rsh.l0 k (l0.drop ((IntKind.u64.wrap (Int.tdiv a1 32)) : Int).toNat) (Int.tmod a1 32) (List.replicate (((l0.drop ((IntKind.u64.wrap (Int.tdiv a1 32)) : Int).toNat).length : Int) : Int).toNat 0) ((l0.drop ((IntKind.u64.wrap (Int.tdiv a1 32)) : Int).toNat).length : Int) 0) else (none)) else (none)) else (none)) else (none))) = some r := h
 clear h
 by_cases c3 : (IntKind.u64.wrap (Int.tdiv a1 32)) ≥ (IntKind.u64.wrap ((l0.length : Int)))
 ·
  rw [if_pos c3] at H
  have c3b0 : decide ((IntKind.u64.wrap ((l0.length : Int))) ≤ (IntKind.u64.wrap (Int.tdiv a1 32))) = true := decide_eq_true c3
  clear c3
  obtain rfl := Option.some.inj H
  go_enter Tryz.func194, Tryz.ntmps194
  go_wp2
  go_ret
  exact ⟨.slice none 0 0, by first | rfl | (simp [errW_none, errW_some] <;> rfl) | (simp [*, errW_none, errW_some] <;> rfl), Kd.V_nil _ _ _ _ _, by repeat (first | (with_reducible first | exact HB.out | apply below_alloc | apply pw_below_drewN | apply below_drew1) | exact HB.out)⟩
 ·
  rw [if_neg c3] at H
  have c3b0 : decide ((IntKind.u64.wrap ((l0.length : Int))) ≤ (IntKind.u64.wrap (Int.tdiv a1 32))) = false := decide_eq_false c3
  clear c3
  obtain ⟨ji4, hji4⟩ : ∃ j_ : Int, (IntKind.u64.wrap (Int.tdiv a1 32)) = j_ := ⟨_, rfl⟩
  replace H : (if 0 ≤ (ji4) then (if (ji4) ≤ (l0.length : Int) then (if 0 ≤ ((l0.drop ((ji4) : Int).toNat).length : Int) then (if (((l0.drop ((ji4) : Int).toNat).length : Int) : Int).toNat ≤ 70368744177664 then (smallbig_nat_rsh.l0 k (l0.drop ((ji4) : Int).toNat) (Int.tmod a1 32) (List.replicate (((l0.drop ((ji4) : Int).toNat).length : Int) : Int).toNat 0) ((l0.drop ((ji4) : Int).toNat).length : Int) 0) else (none)) else (none)) else (none)) else (none)) = some r := by first | (rw [hji4] at H; exact H) | (simp only [hji4] at H ⊢; exact H)
  (try rw [hji4] at c3b0)
  by_cases c5 : 0 ≤ (ji4)
  ·
   rw [if_pos c5] at H
   have c5b0 := eq_true c5
   have c5b1 : decide (0 ≤ (ji4)) = true := decide_eq_true c5
   clear c5
   by_cases c6 : (ji4) ≤ (l0.length : Int)
   ·
    rw [if_pos c6] at H
    have c6b0 := eq_true c6
    have c6b1 : decide ((ji4) ≤ (l0.length : Int)) = true := decide_eq_true c6
    clear c6
    by_cases c7 : 0 ≤ ((l0.drop ((ji4) : Int).toNat).length : Int)
    ·
     rw [if_pos c7] at H
     have c7b0 := eq_true c7
     have c7b1 : decide (0 ≤ ((l0.drop ((ji4) : Int).toNat).length : Int)) = true := decide_eq_true c7
     clear c7
     by_cases c8 : (((l0.drop ((ji4) : Int).toNat).length : Int) : Int).toNat ≤ 70368744177664
     ·
      rw [if_pos c8] at H
      have c8b0 := eq_true c8
      have c8b1 : decide ((((l0.drop ((ji4) : Int).toNat).length : Int) : Int).toNat ≤ 70368744177664) = true := decide_eq_true c8
      clear c8
      obtain ⟨y137, hy137⟩ : ∃ y_ : List Int, y_ = (List.replicate (((l0.drop ((ji4) : Int).toNat).length : Int) : Int).toNat 0) := ⟨_, rfl⟩
      replace H : (smallbig_nat_rsh.l0 k (l0.drop ((ji4) : Int).toNat) (Int.tmod a1 32) y137 ((l0.drop ((ji4) : Int).toNat).length : Int) 0) = some r := by first | (rw [hy137]; with_reducible exact H) | (have H2_ := (Option.bind_some _ _).symm.trans H; rw [hy137]; with_reducible exact H2_) | (have H2_ := (Option.bind_some _ _).symm.trans H; with_reducible exact H2_) | with_reducible exact H | (rw [hy137]; exact H) | exact H
      have Ny137 := Aside0.mk hy137
      clear hy137
      have H' := Aside0.mk H
      clear H
      obtain ⟨i09, hi09, _, hsz9, _⟩ := info_parts info175
      obtain ⟨A9, hcut9, hA9, hC9⟩ := print_drop_of (P := Tryz.prog) (Value.int .u32) 0 95 175 .u64 Tryz.underlying95 hi09 hsz9 A0 c0 l0 (ji4) (of_decide_eq_true (by first | (with_reducible assumption) | assumption)) (of_decide_eq_true (by first | (with_reducible assumption) | assumption)) HC0.out
      have HR136 := Aside0.mk (Kd.C_of_reads (h1 := fun _ => rfl) (hA9 _ (Kd.reads_of_C HR0.out)))
      have HC136 := Aside0.mk hC9
      clear hA9 hC9 hi09 hsz9
      obtain ⟨l2, hl2⟩ : ∃ l2_ : List Int, l2_ = (l0.drop ((ji4) : Int).toNat) := ⟨_, rfl⟩
      rw [← hl2] at H' Ny137 hcut9 HR136 HC136 c7b0 c7b1 c8b0 c8b1
      clear hl2
      go_enter Tryz.func194, Tryz.ntmps194
      go_wp2_with (first | ((with_reducible refine gate_dst (N := 24) rfl ?_); refine Kd.R_make (Kd.int .u32) _ 175 rfl (N := 24) rfl 95 _ _ rfl (l2.length : Int) rfl rfl Tryz.underlying95 (.int .u32 0) 4 info175 rfl (by decide) (by omega) 0 (ok := fun _ => True) (okp := fun _ => True) rfl (fun _ hk => hk) trivial (of_decide_eq_true (by first | (with_reducible assumption) | assumption)) (Nat.le_trans (Nat.mul_le_mul_right _ (of_decide_eq_true (by first | (with_reducible assumption) | assumption) : (l2.length : Int).toNat ≤ 70368744177664)) (by omega)) (Below.refl _ _) (Nat.le_refl _) ?_; intro v138 w10 ho11 hb hg_ hnew_; clear hg_ hnew_; (first | rw [← Ny137.out] at ho11 | (simp only [Int.reduceToNat] at ho11; rw [← Ny137.out] at ho11)); have n0_ := Aside0.mk (Kd.R_lower (Kd.R_newM (M := fun k_ => (w.heap.size ≤ k_)) ho11 (below_size (by repeat (first | (with_reducible first | exact HB.out | apply below_alloc | apply pw_below_drewN | apply below_drew1) | exact HB.out))) (fun k_ h_ => h_)) (below_size (by repeat (first | (with_reducible first | exact HB.out | apply below_alloc | apply pw_below_drewN | apply below_drew1) | exact HB.out)))); have n1_ := Aside0.mk (below_step (by repeat (first | (with_reducible first | exact HB.out | apply below_alloc | apply pw_below_drewN | apply below_drew1) | exact HB.out)) hb); clear HB; have HO139 := n0_; have HB := n1_; clear n0_ n1_; clear hb ho11))
      go_loopg [27] k (fun kq v27 w' => ∃ (x7_1 : List Int) (x27_1 : Int), v27 = .int .i64 x27_1 ∧ Aside0 (smallbig_nat_rsh.l0 kq l2 (Int.tmod a1 32) x7_1 (l2.length : Int) x27_1 = some r) ∧ Aside0 (kq ≤ k) ∧ Aside0 (Kd.R (Kd.int .u32) 175 w' w.heap.size (fun k_ => (w.heap.size ≤ k_)) v138 x7_1) ∧ Aside0 (Below w.heap.size w w'))
      case atStart => exact ⟨(y137), (0), (by first | rfl | (simp; done) | (simp [*]; done)), H', ⟨Nat.le_refl _⟩, ⟨by (with_reducible repeat (first | apply Kd.R_alloc | apply Kd.R_drewN | apply Kd.R_drew)); exact Kd.R_mono HO139.out (fun _ hk => hk.1)⟩, ⟨by repeat (first | (with_reducible first | exact HB.out | apply below_alloc | apply pw_below_drewN | apply below_drew1) | exact HB.out)⟩⟩
      case round =>
       clear H'
       try clear c1
       try clear p2
       try clear c3
       try clear c3b0
       try clear c5
       try clear c5b0
       try clear c5b1
       try clear c6
       try clear c6b0
       try clear c6b1
       try clear c7
       try clear c7b0
       try clear c7b1
       try clear c8
       try clear c8b0
       try clear c8b1
       obtain ⟨x7_1, x27_1, rfl, HA, HK1, HO_7, HB⟩ := hrel
       cases gk with
       | zero => exact absurd HA.out (by simp [smallbig_nat_rsh.l0])
       | succ k1 =>
        have H := HA.out
        clear HA
        simp only [smallbig_nat_rsh.l0] at H
        by_cases c12 : x27_1 < (l2.length : Int)
        ·
         rw [if_pos c12] at H
         have c12b0 : decide (x27_1 < (l2.length : Int)) = true := decide_eq_true c12
         clear c12
         by_cases c13 : 0 ≤ x27_1
         ·
          rw [if_pos c13] at H
          have c13b0 : decide (0 ≤ x27_1) = true := decide_eq_true c13
          clear c13
          by_cases c14 : x27_1 < (l2.length : Int)
          ·
           rw [if_pos c14] at H
           have c14b0 : decide (x27_1 < (l2.length : Int)) = true := decide_eq_true c14
           clear c14
           by_cases c15 : (wrap64 (x27_1 + 1)) < (l2.length : Int)
           ·
            rw [if_pos c15] at H
            have c15b0 : decide ((wrap64 (x27_1 + 1)) < (l2.length : Int)) = true := decide_eq_true c15
            clear c15
            obtain ⟨ji16, hji16⟩ : ∃ j_ : Int, (wrap64 (x27_1 + 1)) = j_ := ⟨_, rfl⟩
            replace H : (if 0 ≤ (ji16) then (if 0 ≤ (Int.tmod a1 32) then (if x27_1 < (x7_1.length : Int) then (smallbig_nat_rsh.l0 k1 l2 (Int.tmod a1 32) (x7_1.set (x27_1 : Int).toNat ((shr .u64 (Go.bits .or .u64 (IntKind.u64.wrap (rd l2 x27_1)) (IntKind.u64.wrap ((IntKind.u64.wrap (rd l2 (ji16))) * 4294967296))) (Int.tmod a1 32)) % 4294967296)) (l2.length : Int) ji16) else (none)) else (none)) else (none)) = some r := by first | (rw [hji16] at H; exact H) | (simp only [hji16] at H ⊢; exact H)
            (try rw [hji16] at c15b0)
            have hji16w : (IntKind.i64.wrap (x27_1 + 1)) = ji16 := (i64_w _).trans hji16
            by_cases c17 : 0 ≤ (ji16)
            ·
             rw [if_pos c17] at H
             have c17b0 : decide (0 ≤ (ji16)) = true := decide_eq_true c17
             clear c17
             obtain ⟨ji18, hji18⟩ : ∃ j_ : Int, (Int.tmod a1 32) = j_ := ⟨_, rfl⟩
             replace H : (if 0 ≤ (ji18) then (if x27_1 < (x7_1.length : Int) then (smallbig_nat_rsh.l0 k1 l2 (ji18) (x7_1.set (x27_1 : Int).toNat ((shr .u64 (Go.bits .or .u64 (IntKind.u64.wrap (rd l2 x27_1)) (IntKind.u64.wrap ((IntKind.u64.wrap (rd l2 (ji16))) * 4294967296))) (ji18)) % 4294967296)) (l2.length : Int) ji16) else (none)) else (none)) = some r := by first | (rw [hji18] at H; exact H) | (simp only [hji18] at H ⊢; exact H)
             subst hji18
             by_cases c19 : 0 ≤ (Int.tmod a1 32)
             ·
              rw [if_pos c19] at H
              have c19b0 := eq_true c19
              have c19b1 : decide (0 ≤ (Int.tmod a1 32)) = true := decide_eq_true c19
              clear c19
              obtain ⟨ji20, hji20⟩ : ∃ j_ : Int, (shr .u64 (Go.bits .or .u64 (IntKind.u64.wrap (rd l2 x27_1)) (IntKind.u64.wrap ((IntKind.u64.wrap (rd l2 (ji16))) * 4294967296))) (Int.tmod a1 32)) = j_ := ⟨_, rfl⟩
              replace H : (if x27_1 < (x7_1.length : Int) then (smallbig_nat_rsh.l0 k1 l2 (Int.tmod a1 32) (x7_1.set (x27_1 : Int).toNat ((ji20) % 4294967296)) (l2.length : Int) ji16) else (none)) = some r := by first | (rw [hji20] at H; exact H) | (simp only [hji20] at H ⊢; exact H)
              have hji20_ : ((Go.bits .or .u64 (IntKind.u64.wrap (rd l2 x27_1)) (IntKind.u64.wrap ((IntKind.u64.wrap (rd l2 (ji16))) * 4294967296))) / 2 ^ min (Int.tmod a1 32).toNat 64) = ji20 := hji20
              have hji20z : (Int.tmod a1 32) ≤ 64 → ((Go.bits .or .u64 (IntKind.u64.wrap (rd l2 x27_1)) (IntKind.u64.wrap ((IntKind.u64.wrap (rd l2 (ji16))) * 4294967296))) / 2 ^ (Int.tmod a1 32).toNat) = ji20 := shr_small hji20
              by_cases c21 : x27_1 < (x7_1.length : Int)
              ·
               rw [if_pos c21] at H
               have c21b0 : decide (x27_1 < (x7_1.length : Int)) = true := decide_eq_true c21
               clear c21
               obtain ⟨y142, hy142⟩ : ∃ y_ : List Int, y_ = (x7_1.set (x27_1 : Int).toNat ((ji20) % 4294967296)) := ⟨_, rfl⟩
               replace H : (smallbig_nat_rsh.l0 k1 l2 (Int.tmod a1 32) y142 (l2.length : Int) ji16) = some r := by first | (rw [hy142]; with_reducible exact H) | (have H2_ := (Option.bind_some _ _).symm.trans H; rw [hy142]; with_reducible exact H2_) | (have H2_ := (Option.bind_some _ _).symm.trans H; with_reducible exact H2_) | with_reducible exact H | (rw [hy142]; exact H) | exact H
               have Ny142 := Aside0.mk hy142
               clear hy142
               have H' := Aside0.mk H
               clear H
               have p140 : 0 ≤ (x27_1 : Int) := of_decide_eq_true (by first | (with_reducible assumption) | assumption)
               have q140 : x27_1 < (l2.length : Int) := of_decide_eq_true (by first | (with_reducible assumption) | assumption)
               obtain ⟨ad140, e140, hx140_0⟩ := Kd.at_int HR136.out x27_1 p140 q140
               cases e140
               replace hx140_0 := (HB.out.cell (World.block_lt_of_cell? w _ hx140_0)).trans hx140_0
               replace p140 := eq_true p140
               replace q140 := eq_true q140
               have p141 : 0 ≤ ((ji16) : Int) := of_decide_eq_true (by first | (with_reducible assumption) | assumption)
               have q141 : (ji16) < (l2.length : Int) := of_decide_eq_true (by first | (with_reducible assumption) | assumption)
               obtain ⟨ad141, e141, hx141_0⟩ := Kd.at_int HR136.out (ji16) p141 q141
               obtain rfl : ad140 = ad141 := (by injection e141)
               replace hx141_0 := (HB.out.cell (World.block_lt_of_cell? w _ hx141_0)).trans hx141_0
               replace p141 := eq_true p141
               replace q141 := eq_true q141
               have p22 : 0 ≤ (x27_1 : Int) := of_decide_eq_true (by first | (with_reducible assumption) | assumption)
               have q22 : (x27_1 : Int) < ((x7_1.length : Int) : Int) := of_decide_eq_true (by first | (with_reducible assumption) | assumption)
               obtain ⟨go22, co22, eo22, gb22, gl22, cl22, HG22⟩ := Kd.R_form HO_7.out (by omega)
               (first | cases eo22 | (injection eo22 with ea_ en_ ec_; (first | subst ea_ | (injection ea_ with ea_; subst ea_)); subst ec_; clear en_))
               have GB22 := Aside0.mk gb22
               have GG22 := Aside0.mk HG22
               clear gb22 gl22 HG22
               obtain ⟨hx22_0, hf22_0⟩ := Kd.R_celln 0 HO_7.out (x27_1 : Int) p22 q22
               replace p22 := eq_true p22
               replace q22 := eq_true q22
               have HP23 := Kd.R_putg HO_7.out (x27_1 : Int) ((ji20) % 4294967296)
               go_wp2_with (first | ((with_reducible refine gate_store (t := 175) (p := 55) rfl ?_); refine store_event (t := 175) (p := 55) (v := ?vo_w24) (w1 := (wr.setCell ⟨go22, (x27_1 : Int).toNat, none⟩ (.int .u32 ((ji20) % 4294967296)))) ?hg ?ho ?hn ?hr ?_; (case ho => rfl); (case hg => rfl); (case hn => rfl); (case hr => first | (go_simp; done) | (go_simp; rfl)); intro w24 hw; have hg : wr.grownBy w24 (some go22) := (by rw [hw]; exact HP23.2); have hp_ : Kd.R (Kd.int .u32) 175 w24 w.heap.size (fun k_ => (w.heap.size ≤ k_)) (.slice (some ⟨go22, 0, none⟩) x7_1.length co22) y142 := (by rw [hw, Ny142.out]; exact HP23.1); clear HP23; have n0_ := Aside0.mk (hp_); have n1_ := Aside0.mk ((by rw [hw]; exact below_set (HB.out) GB22.out : Below w.heap.size w w24)); clear HO_7; clear HB; have HO_7 := n0_; have HB := n1_; clear n0_ n1_; clear hg hw hp_))
               go_roundg k1
               case measure => have := HK1.out; omega
               case rel => exact ⟨(y142), (ji16), (by first | rfl | (simp; done) | (simp only [← hji16] <;> (first | rfl | simp)) | (simp [*]; done)), H', ⟨by have := HK1.out; omega⟩, ⟨by (with_reducible repeat (first | apply Kd.R_alloc | apply Kd.R_drewN | apply Kd.R_drew)); exact HO_7.out⟩, ⟨by repeat (first | (with_reducible first | exact HB.out | apply below_alloc | apply pw_below_drewN | apply below_drew1) | exact HB.out)⟩⟩
              ·
               rw [if_neg c21] at H
               exact absurd H (by simp)
             ·
              rw [if_neg c19] at H
              exact absurd H (by simp)
            ·
             rw [if_neg c17] at H
             exact absurd H (by simp)
           ·
            rw [if_neg c15] at H
            have c15b0 : decide ((wrap64 (x27_1 + 1)) < (l2.length : Int)) = false := decide_eq_false c15
            clear c15
            obtain ⟨ji25, hji25⟩ : ∃ j_ : Int, (Int.tmod a1 32) = j_ := ⟨_, rfl⟩
            replace H : (if 0 ≤ (ji25) then (if x27_1 < (x7_1.length : Int) then (smallbig_nat_rsh.l0 k1 l2 (ji25) (x7_1.set (x27_1 : Int).toNat ((shr .u64 (IntKind.u64.wrap (rd l2 x27_1)) (ji25)) % 4294967296)) (l2.length : Int) (wrap64 (x27_1 + 1))) else (none)) else (none)) = some r := by first | (rw [hji25] at H; exact H) | (simp only [hji25] at H ⊢; exact H)
            subst hji25
            by_cases c26 : 0 ≤ (Int.tmod a1 32)
            ·
             rw [if_pos c26] at H
             have c26b0 := eq_true c26
             have c26b1 : decide (0 ≤ (Int.tmod a1 32)) = true := decide_eq_true c26
             clear c26
             obtain ⟨ji27, hji27⟩ : ∃ j_ : Int, (shr .u64 (IntKind.u64.wrap (rd l2 x27_1)) (Int.tmod a1 32)) = j_ := ⟨_, rfl⟩
             replace H : (if x27_1 < (x7_1.length : Int) then (smallbig_nat_rsh.l0 k1 l2 (Int.tmod a1 32) (x7_1.set (x27_1 : Int).toNat ((ji27) % 4294967296)) (l2.length : Int) (wrap64 (x27_1 + 1))) else (none)) = some r := by first | (rw [hji27] at H; exact H) | (simp only [hji27] at H ⊢; exact H)
             have hji27_ : ((IntKind.u64.wrap (rd l2 x27_1)) / 2 ^ min (Int.tmod a1 32).toNat 64) = ji27 := hji27
             have hji27z : (Int.tmod a1 32) ≤ 64 → ((IntKind.u64.wrap (rd l2 x27_1)) / 2 ^ (Int.tmod a1 32).toNat) = ji27 := shr_small hji27
             by_cases c28 : x27_1 < (x7_1.length : Int)
             ·
              rw [if_pos c28] at H
              have c28b0 : decide (x27_1 < (x7_1.length : Int)) = true := decide_eq_true c28
              clear c28
              obtain ⟨y143, hy143⟩ : ∃ y_ : List Int, y_ = (x7_1.set (x27_1 : Int).toNat ((ji27) % 4294967296)) := ⟨_, rfl⟩
              replace H : (smallbig_nat_rsh.l0 k1 l2 (Int.tmod a1 32) y143 (l2.length : Int) (wrap64 (x27_1 + 1))) = some r := by first | (rw [hy143]; with_reducible exact H) | (have H2_ := (Option.bind_some _ _).symm.trans H; rw [hy143]; with_reducible exact H2_) | (have H2_ := (Option.bind_some _ _).symm.trans H; with_reducible exact H2_) | with_reducible exact H | (rw [hy143]; exact H) | exact H
              have Ny143 := Aside0.mk hy143
              clear hy143
              have H' := Aside0.mk H
              clear H
              have p140 : 0 ≤ (x27_1 : Int) := of_decide_eq_true (by first | (with_reducible assumption) | assumption)
              have q140 : x27_1 < (l2.length : Int) := of_decide_eq_true (by first | (with_reducible assumption) | assumption)
              obtain ⟨ad140, e140, hx140_0⟩ := Kd.at_int HR136.out x27_1 p140 q140
              cases e140
              replace hx140_0 := (HB.out.cell (World.block_lt_of_cell? w _ hx140_0)).trans hx140_0
              replace p140 := eq_true p140
              replace q140 := eq_true q140
              have p29 : 0 ≤ (x27_1 : Int) := of_decide_eq_true (by first | (with_reducible assumption) | assumption)
              have q29 : (x27_1 : Int) < ((x7_1.length : Int) : Int) := of_decide_eq_true (by first | (with_reducible assumption) | assumption)
              obtain ⟨go29, co29, eo29, gb29, gl29, cl29, HG29⟩ := Kd.R_form HO_7.out (by omega)
              (first | cases eo29 | (injection eo29 with ea_ en_ ec_; (first | subst ea_ | (injection ea_ with ea_; subst ea_)); subst ec_; clear en_))
              have GB29 := Aside0.mk gb29
              have GG29 := Aside0.mk HG29
              clear gb29 gl29 HG29
              obtain ⟨hx29_0, hf29_0⟩ := Kd.R_celln 0 HO_7.out (x27_1 : Int) p29 q29
              replace p29 := eq_true p29
              replace q29 := eq_true q29
              have HP30 := Kd.R_putg HO_7.out (x27_1 : Int) ((ji27) % 4294967296)
              go_wp2_with (first | ((with_reducible refine gate_store (t := 175) (p := 55) rfl ?_); refine store_event (t := 175) (p := 55) (v := ?vo_w31) (w1 := (wr.setCell ⟨go29, (x27_1 : Int).toNat, none⟩ (.int .u32 ((ji27) % 4294967296)))) ?hg ?ho ?hn ?hr ?_; (case ho => rfl); (case hg => rfl); (case hn => rfl); (case hr => first | (go_simp; done) | (go_simp; rfl)); intro w31 hw; have hg : wr.grownBy w31 (some go29) := (by rw [hw]; exact HP30.2); have hp_ : Kd.R (Kd.int .u32) 175 w31 w.heap.size (fun k_ => (w.heap.size ≤ k_)) (.slice (some ⟨go29, 0, none⟩) x7_1.length co29) y143 := (by rw [hw, Ny143.out]; exact HP30.1); clear HP30; have n0_ := Aside0.mk (hp_); have n1_ := Aside0.mk ((by rw [hw]; exact below_set (HB.out) GB29.out : Below w.heap.size w w31)); clear HO_7; clear HB; have HO_7 := n0_; have HB := n1_; clear n0_ n1_; clear hg hw hp_))
              go_roundg k1
              case measure => have := HK1.out; omega
              case rel => exact ⟨(y143), (wrap64 (x27_1 + 1)), (by first | rfl | (simp; done) | (simp [*]; done)), H', ⟨by have := HK1.out; omega⟩, ⟨by (with_reducible repeat (first | apply Kd.R_alloc | apply Kd.R_drewN | apply Kd.R_drew)); exact HO_7.out⟩, ⟨by repeat (first | (with_reducible first | exact HB.out | apply below_alloc | apply pw_below_drewN | apply below_drew1) | exact HB.out)⟩⟩
             ·
              rw [if_neg c28] at H
              exact absurd H (by simp)
            ·
             rw [if_neg c26] at H
             exact absurd H (by simp)
          ·
           rw [if_neg c14] at H
           exact absurd H (by simp)
         ·
          rw [if_neg c13] at H
          exact absurd H (by simp)
        ·
         rw [if_neg c12] at H
         have c12b0 : decide (x27_1 < (l2.length : Int)) = false := decide_eq_false c12
         clear c12
         replace H := Option.bind_eq_some_iff.mp H
         obtain ⟨t144, A320, H⟩ := H
         replace H : (some t144) = some r := H
         have A32 := Aside0.mk A320
         clear A320
         obtain rfl := Option.some.inj H
         obtain ⟨Ao33, co33, eo33⟩ := Kd.R_slice HO_7.out
         subst eo33
         go_wp2_with (first | ((with_reducible refine gate_callee (f := 193) rfl ?_); refine goesL_ (some 58) rfl rfl Tryz.func193 (by kernel_rfl) rfl #[.slice Ao33 x7_1.length co33] rfl (by (try simp only [List.map_toArray, List.map_cons, List.map_nil]); first | done | rfl | (simp only [List.length_drop, List.length_take]; rfl)) ?_; (with_reducible refine (smallbig_nat_norm.calls k1 (fun k_ => some k_ = (.slice Ao33 x7_1.length co33 : Value).ownBlock) _ _ x7_1 t144 _ ?side1 A32.out).mono ?_); (case side1 => exact Kd.R_V (Kd.R_tight rfl (HO_7.out))); rintro e w34 ⟨v145, rfl, ho0, hb⟩; refine ⟨_, rfl, ?_⟩; have n0_ := Aside0.mk (Kd.R_below (by (with_reducible repeat (first | apply Kd.R_alloc | apply Kd.R_drewN | apply Kd.R_drew)); exact HO_7.out) hb); have n1_ := Aside0.mk (Kd.V_lower (Kd.V_mono (ok' := fun k_ => (w.heap.size ≤ k_)) ho0 (fun k_ hk_ => Or.elim hk_ (fun hs_ => ((HO_7.out).1 k_ hs_.symm)) (fun hn_ => (Nat.le_trans (below_size (by repeat (first | (with_reducible first | exact HB.out | apply below_alloc | apply pw_below_drewN | apply below_drew1) | exact HB.out))) hn_)))) (below_size (by repeat (first | (with_reducible first | exact HB.out | apply below_alloc | apply pw_below_drewN | apply below_drew1) | exact HB.out)))); have n2_ := Aside0.mk (below_step (by repeat (first | (with_reducible first | exact HB.out | apply below_alloc | apply pw_below_drewN | apply below_drew1) | exact HB.out)) hb); clear HO_7; clear HB; have HO_7 := n0_; have HO146 := n1_; have HB := n2_; clear n0_ n1_ n2_; (try clear hb); (try clear hb2); (try clear hk); (try clear hi); (try clear ho0)))
         go_ret
         exact ⟨_, by first | rfl | (simp [errW_none, errW_some] <;> rfl) | (simp only [← hji4]; first | rfl | (simp [errW_none, errW_some] <;> rfl)) | (simp [*, errW_none, errW_some] <;> rfl), by (with_reducible repeat (first | apply Kd.V_alloc | apply Kd.V_drewN | apply Kd.V_drew)); exact HO146.out, by repeat (first | (with_reducible first | exact HB.out | apply below_alloc | apply pw_below_drewN | apply below_drew1) | exact HB.out)⟩
     ·
      rw [if_neg c8] at H
      exact absurd H (by simp)
    ·
     rw [if_neg c7] at H
     exact absurd H (by simp)
   ·
    rw [if_neg c6] at H
    exact absurd H (by simp)
  ·
   rw [if_neg c5] at H
   exact absurd H (by simp)

-- NOT PRINTED: function 155 (smallbig_nat_div)

end Go.Proofs.YtaiidipcmnejoaaGreatDoor.Pdiv
