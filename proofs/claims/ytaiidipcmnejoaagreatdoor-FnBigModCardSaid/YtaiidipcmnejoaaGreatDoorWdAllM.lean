/- The walk of WholeDiv, and of the functions that it calls: what each returns is what the function of texts says. -/
import Derived.Test.YtaiidipcmnejoaaGreatDoorPWholeDivx0
import Derived.WalkLawsBesides

namespace Go.Proofs.YtaiidipcmnejoaaGreatDoor.PWholeDiv
open Go.RowKit Go.Proofs.YtaiidipcmnejoaaGreatDoorW.PrintWords Go.Proofs.YtaiidipcmnejoaaGreatDoorW.PrintLast Go.Proofs.YtaiidipcmnejoaaGreatDoorW.PrintMore
attribute [local go_sem] max2_int min2_int max_two min_two max_three min_three max_four min_four   -- for this text's walks alone
set_option linter.unusedVariables false
set_option linter.unusedSimpArgs false

/-! ### spec_below: function 36 -/
def spec_below.f (a0 : ByteArray) : Option (Bool) := if (a0.size : Int) > 0 then (if 0 < (a0.size : Int) then (some ((bt a0 0) == 45)) else (none)) else (some false)
set_option maxHeartbeats 8000000 in
set_option maxRecDepth 100000 in
theorem spec_below.calls (a0 : ByteArray) (r : Bool) (w : World) (h : spec_below.f a0 = some r) :
  Calls Tryz.prog 36 #[.string a0] w fun e w' => e = .returned (.bool r) ∧ Drawn0 w w' := by
 have H : (if (a0.size : Int) > 0 then (if 0 < (a0.size : Int) then (some ((bt a0 0) == 45)) else (none)) else (some false)) = some r := h
 clear h
 by_cases c2 : (a0.size : Int) > 0
 ·
  rw [if_pos c2] at H
  have c2b0 : decide (0 < (a0.size : Int)) = true := decide_eq_true c2
  have c2b1 : decide (0 < a0.size) = true := decide_eq_true (by omega)
  clear c2
  by_cases c3 : 0 < (a0.size : Int)
  ·
   rw [if_pos c3] at H
   have c3b0 : decide (0 < (a0.size : Int)) = true := decide_eq_true c3
   have c3b1 : decide (0 < a0.size) = true := decide_eq_true (by omega)
   clear c3
   obtain rfl := Option.some.inj H
   have p4 : 0 ≤ (0 : Int) := (by omega)
   have q4 : 0 < a0.size := (by have : (0 : Int) < (a0.size : Int) := of_decide_eq_true (by first | (with_reducible assumption) | assumption); omega)
   have hx4 : ∀ h : 0 < a0.size, ((a0[0]'h).toNat : Int) = bt a0 0 := bt_at a0 0
   clear p4
   have qi4 : (0 < (a0.size : Int)) = True := eq_true (of_decide_eq_true (by first | (with_reducible assumption) | assumption))
   replace q4 := eq_true q4
   go_enter Tryz.func36, Tryz.ntmps36
   go_wp2
   go_ret
   exact ⟨by first | rfl | (simp; done) | (simp [*]; done), by repeat (first | exact Drawn0.refl _ | apply Drawn0.step)⟩
  ·
   rw [if_neg c3] at H
   exact absurd H (by simp)
 ·
  rw [if_neg c2] at H
  have c2b0 : decide (0 < (a0.size : Int)) = false := decide_eq_false c2
  have c2b1 : decide (0 < a0.size) = false := decide_eq_false (by omega)
  clear c2
  obtain rfl := Option.some.inj H
  go_enter Tryz.func36, Tryz.ntmps36
  go_wp2
  go_ret
  exact ⟨by first | rfl | (simp; done) | (simp [*]; done), by repeat (first | exact Drawn0.refl _ | apply Drawn0.step)⟩

/-! ### spec_digitsOf: function 35 -/
def spec_digitsOf.f (a0 : ByteArray) : Option (ByteArray) := (spec_below.f a0).bind fun t101 => (if t101 = true then (if 1 ≤ (a0.size : Int) then (some (a0.extract 1 a0.size)) else (none)) else (some a0))
set_option maxHeartbeats 8000000 in
set_option maxRecDepth 100000 in
theorem spec_digitsOf.calls (a0 : ByteArray) (r : ByteArray) (w : World) (h : spec_digitsOf.f a0 = some r) :
  Calls Tryz.prog 35 #[.string a0] w fun e w' => e = .returned (.string r) ∧ Drawn0 w w' := by
 have H : ((spec_below.f a0).bind fun t101 => (if t101 = true then (if 1 ≤ (a0.size : Int) then (some (a0.extract 1 a0.size)) else (none)) else (some a0))) = some r := h
 clear h
 replace H := Option.bind_eq_some_iff.mp H
 obtain ⟨t101, A20, H⟩ := H
 replace H : (if t101 = true then (if 1 ≤ (a0.size : Int) then (some (a0.extract 1 a0.size)) else (none)) else (some a0)) = some r := H
 have A2 := Aside0.mk A20
 clear A20
 by_cases c3 : t101 = true
 ·
  subst c3
  have H1 : (if 1 ≤ (a0.size : Int) then (some (a0.extract 1 a0.size)) else (none)) = some r := by rw [if_pos rfl] at H; exact H
  clear H
  have H := H1
  clear H1
  by_cases c4 : 1 ≤ (a0.size : Int)
  ·
   rw [if_pos c4] at H
   have c4b0 := eq_true c4
   have c4b1 : decide (1 ≤ (a0.size : Int)) = true := decide_eq_true c4
   clear c4
   obtain rfl := Option.some.inj H
   go_enter Tryz.func35, Tryz.ntmps35
   go_wp2_with (first | ((with_reducible refine gate_callee (f := 36) rfl ?_); refine goesL_ (some 4) rfl rfl Tryz.func36 (by kernel_rfl) rfl #[.string a0] rfl (by (try simp only [List.map_toArray, List.map_cons, List.map_nil]); first | done | rfl | (simp only [List.length_drop, List.length_take]; rfl)) ?_; (with_reducible refine (spec_below.calls a0 true _ A2.out).mono ?_); rintro e w' ⟨rfl, ⟨nd, rfl⟩⟩; refine ⟨_, rfl, ?_⟩))
   go_ret
   exact ⟨by first | rfl | (simp; done) | (simp [*]; done), by repeat (first | exact Drawn0.refl _ | apply Drawn0.step)⟩
  ·
   rw [if_neg c4] at H
   exact absurd H (by simp)
 ·
  replace c3 := Bool.eq_false_iff.mpr c3
  subst c3
  have H1 : (some a0) = some r := by rw [if_neg (show ¬ (false = true) by decide)] at H; exact H
  clear H
  have H := H1
  clear H1
  obtain rfl := Option.some.inj H
  go_enter Tryz.func35, Tryz.ntmps35
  go_wp2_with (first | ((with_reducible refine gate_callee (f := 36) rfl ?_); refine goesL_ (some 4) rfl rfl Tryz.func36 (by kernel_rfl) rfl #[.string a0] rfl (by (try simp only [List.map_toArray, List.map_cons, List.map_nil]); first | done | rfl | (simp only [List.length_drop, List.length_take]; rfl)) ?_; (with_reducible refine (spec_below.calls a0 false _ A2.out).mono ?_); rintro e w' ⟨rfl, ⟨nd, rfl⟩⟩; refine ⟨_, rfl, ?_⟩))
  go_ret
  exact ⟨by first | rfl | (simp; done) | (simp [*]; done), by repeat (first | exact Drawn0.refl _ | apply Drawn0.step)⟩

/-! ### spec_signed: function 37 -/
def spec_signed.l0 : Nat → Bool → ByteArray → Option (ByteArray)
 | 0, _, _ => none
 | k + 1, x0, x1 => if (x1.size : Int) > 1 then (if 0 < (x1.size : Int) then (if (bt x1 0) = 48 then (if 1 ≤ (x1.size : Int) then (spec_signed.l0 k x0 (x1.extract 1 x1.size)) else (none)) else (if x0 = true then (if x1.toList = ([48] : List UInt8) then (some x1) else (if 1 + x1.size ≤ 9223372036854775807 then (some ((⟨#[45]⟩ : ByteArray) ++ x1)) else (none))) else (some x1))) else (none)) else (if x0 = true then (if x1.toList = ([48] : List UInt8) then (some x1) else (if 1 + x1.size ≤ 9223372036854775807 then (some ((⟨#[45]⟩ : ByteArray) ++ x1)) else (none))) else (some x1))
def spec_signed.f (k : Nat) (a0 : Bool) (a1 : ByteArray) : Option (ByteArray) := spec_signed.l0 k a0 a1
set_option maxHeartbeats 8000000 in
set_option maxRecDepth 100000 in
theorem spec_signed.calls (k : Nat) (a0 : Bool) (a1 : ByteArray) (r : ByteArray) (w : World) (h : spec_signed.f k a0 a1 = some r) :
  Calls Tryz.prog 37 #[.bool a0, .string a1] w fun e w' => e = .returned (.string r) ∧ Drawn0 w w' := by
 have H : (spec_signed.l0 k a0 a1) = some r := h
 clear h
 have H' := Aside0.mk H
 clear H
 go_enter Tryz.func37, Tryz.ntmps37
 go_wp2
 go_loopg [1] k (fun kq v1 w' => ∃ (x1_1 : ByteArray), v1 = .string x1_1 ∧ Aside0 (spec_signed.l0 kq a0 x1_1 = some r) ∧ Aside0 (kq ≤ k) ∧ Drawn0 w w')
 case atStart => exact ⟨(a1), (by first | rfl | (simp; done) | (simp [*]; done)), H', ⟨Nat.le_refl _⟩, by repeat (first | exact Drawn0.refl _ | apply Drawn0.step)⟩
 case round =>
  clear H'
  try clear p2
  obtain ⟨x1_1, rfl, HA, HK1, ⟨m1, rfl⟩⟩ := hrel
  cases gk with
  | zero => exact absurd HA.out (by simp [spec_signed.l0])
  | succ k1 =>
   have H := HA.out
   clear HA
   simp only [spec_signed.l0] at H
   by_cases c3 : (x1_1.size : Int) > 1
   ·
    rw [if_pos c3] at H
    have c3b0 : decide (1 < (x1_1.size : Int)) = true := decide_eq_true c3
    have c3b1 : decide (1 < x1_1.size) = true := decide_eq_true (by omega)
    clear c3
    by_cases c4 : 0 < (x1_1.size : Int)
    ·
     rw [if_pos c4] at H
     have c4b0 : decide (0 < (x1_1.size : Int)) = true := decide_eq_true c4
     have c4b1 : decide (0 < x1_1.size) = true := decide_eq_true (by omega)
     clear c4
     by_cases c6 : (bt x1_1 0) = 48
     ·
      rw [if_pos c6] at H
      have c6b0 : ((bt x1_1 0) == 48) = true := beq_iff_eq.mpr c6
      have c6b1 : ((bt x1_1 0) != 48) = false := bne_eq_false_iff_eq.mpr c6
      clear c6
      by_cases c7 : 1 ≤ (x1_1.size : Int)
      ·
       rw [if_pos c7] at H
       have c7b0 := eq_true c7
       have c7b1 : decide (1 ≤ (x1_1.size : Int)) = true := decide_eq_true c7
       clear c7
       have H' := Aside0.mk H
       clear H
       have p5 : 0 ≤ (0 : Int) := (by omega)
       have q5 : 0 < x1_1.size := (by have : (0 : Int) < (x1_1.size : Int) := of_decide_eq_true (by first | (with_reducible assumption) | assumption); omega)
       have hx5 : ∀ h : 0 < x1_1.size, ((x1_1[0]'h).toNat : Int) = bt x1_1 0 := bt_at x1_1 0
       clear p5
       have qi5 : (0 < (x1_1.size : Int)) = True := eq_true (of_decide_eq_true (by first | (with_reducible assumption) | assumption))
       replace q5 := eq_true q5
       go_wp2
       go_roundg k1
       case measure => have := HK1.out; omega
       case rel => exact ⟨(x1_1.extract 1 x1_1.size), (by first | rfl | (simp; done) | (simp [*]; done)), H', ⟨by have := HK1.out; omega⟩, by repeat (first | exact Drawn0.refl _ | apply Drawn0.step)⟩
      ·
       rw [if_neg c7] at H
       exact absurd H (by simp)
     ·
      rw [if_neg c6] at H
      have c6b0 : ((bt x1_1 0) == 48) = false := beq_eq_false_iff_ne.mpr c6
      have c6b1 : ((bt x1_1 0) != 48) = true := bne_iff_ne.mpr c6
      by_cases c8 : a0 = true
      ·
       subst c8
       have H1 : (if x1_1.toList = ([48] : List UInt8) then (some x1_1) else (if 1 + x1_1.size ≤ 9223372036854775807 then (some ((⟨#[45]⟩ : ByteArray) ++ x1_1)) else (none))) = some r := by rw [if_pos rfl] at H; exact H
       clear H
       have H := H1
       clear H1
       by_cases c9 : x1_1.toList = ([48] : List UInt8)
       ·
        rw [if_pos c9] at H
        have c9b0 : (x1_1.toList == ([48] : List UInt8)) = true := beq_iff_eq.mpr c9
        have c9b1 : (x1_1.toList != ([48] : List UInt8)) = false := bne_eq_false_iff_eq.mpr c9
        clear c9
        obtain rfl := Option.some.inj H
        have p5 : 0 ≤ (0 : Int) := (by omega)
        have q5 : 0 < x1_1.size := (by have : (0 : Int) < (x1_1.size : Int) := of_decide_eq_true (by first | (with_reducible assumption) | assumption); omega)
        have hx5 : ∀ h : 0 < x1_1.size, ((x1_1[0]'h).toNat : Int) = bt x1_1 0 := bt_at x1_1 0
        clear p5
        have qi5 : (0 < (x1_1.size : Int)) = True := eq_true (of_decide_eq_true (by first | (with_reducible assumption) | assumption))
        replace q5 := eq_true q5
        go_wp2
        go_ret
        exact ⟨by first | rfl | (simp; done) | (simp [*]; done), by repeat (first | exact Drawn0.refl _ | apply Drawn0.step)⟩
       ·
        rw [if_neg c9] at H
        have c9b0 : (x1_1.toList == ([48] : List UInt8)) = false := beq_eq_false_iff_ne.mpr c9
        have c9b1 : (x1_1.toList != ([48] : List UInt8)) = true := bne_iff_ne.mpr c9
        by_cases c10 : 1 + x1_1.size ≤ 9223372036854775807
        ·
         rw [if_pos c10] at H
         have c10b0 := eq_true c10
         have c10b1 : decide (1 + x1_1.size ≤ 9223372036854775807) = true := decide_eq_true c10
         try have c10b2 : (9223372036854775807 < 1 + x1_1.size) = False := eq_false (Nat.not_lt.2 c10)
         obtain rfl := Option.some.inj H
         have p5 : 0 ≤ (0 : Int) := (by omega)
         have q5 : 0 < x1_1.size := (by have : (0 : Int) < (x1_1.size : Int) := of_decide_eq_true (by first | (with_reducible assumption) | assumption); omega)
         have hx5 : ∀ h : 0 < x1_1.size, ((x1_1[0]'h).toNat : Int) = bt x1_1 0 := bt_at x1_1 0
         clear p5
         have qi5 : (0 < (x1_1.size : Int)) = True := eq_true (of_decide_eq_true (by first | (with_reducible assumption) | assumption))
         replace q5 := eq_true q5
         go_wp2
         go_ret
         exact ⟨by first | rfl | (simp; done) | (simp [*]; done), by repeat (first | exact Drawn0.refl _ | apply Drawn0.step)⟩
        ·
         rw [if_neg c10] at H
         exact absurd H (by simp)
      ·
       replace c8 := Bool.eq_false_iff.mpr c8
       subst c8
       have H1 : (some x1_1) = some r := by rw [if_neg (show ¬ (false = true) by decide)] at H; exact H
       clear H
       have H := H1
       clear H1
       obtain rfl := Option.some.inj H
       have p5 : 0 ≤ (0 : Int) := (by omega)
       have q5 : 0 < x1_1.size := (by have : (0 : Int) < (x1_1.size : Int) := of_decide_eq_true (by first | (with_reducible assumption) | assumption); omega)
       have hx5 : ∀ h : 0 < x1_1.size, ((x1_1[0]'h).toNat : Int) = bt x1_1 0 := bt_at x1_1 0
       clear p5
       have qi5 : (0 < (x1_1.size : Int)) = True := eq_true (of_decide_eq_true (by first | (with_reducible assumption) | assumption))
       replace q5 := eq_true q5
       go_wp2
       go_ret
       exact ⟨by first | rfl | (simp; done) | (simp [*]; done), by repeat (first | exact Drawn0.refl _ | apply Drawn0.step)⟩
    ·
     rw [if_neg c4] at H
     exact absurd H (by simp)
   ·
    rw [if_neg c3] at H
    have c3b0 : decide (1 < (x1_1.size : Int)) = false := decide_eq_false c3
    have c3b1 : decide (1 < x1_1.size) = false := decide_eq_false (by omega)
    clear c3
    by_cases c11 : a0 = true
    ·
     subst c11
     have H1 : (if x1_1.toList = ([48] : List UInt8) then (some x1_1) else (if 1 + x1_1.size ≤ 9223372036854775807 then (some ((⟨#[45]⟩ : ByteArray) ++ x1_1)) else (none))) = some r := by rw [if_pos rfl] at H; exact H
     clear H
     have H := H1
     clear H1
     by_cases c12 : x1_1.toList = ([48] : List UInt8)
     ·
      rw [if_pos c12] at H
      have c12b0 : (x1_1.toList == ([48] : List UInt8)) = true := beq_iff_eq.mpr c12
      have c12b1 : (x1_1.toList != ([48] : List UInt8)) = false := bne_eq_false_iff_eq.mpr c12
      clear c12
      obtain rfl := Option.some.inj H
      go_wp2
      go_ret
      exact ⟨by first | rfl | (simp; done) | (simp [*]; done), by repeat (first | exact Drawn0.refl _ | apply Drawn0.step)⟩
     ·
      rw [if_neg c12] at H
      have c12b0 : (x1_1.toList == ([48] : List UInt8)) = false := beq_eq_false_iff_ne.mpr c12
      have c12b1 : (x1_1.toList != ([48] : List UInt8)) = true := bne_iff_ne.mpr c12
      by_cases c13 : 1 + x1_1.size ≤ 9223372036854775807
      ·
       rw [if_pos c13] at H
       have c13b0 := eq_true c13
       have c13b1 : decide (1 + x1_1.size ≤ 9223372036854775807) = true := decide_eq_true c13
       try have c13b2 : (9223372036854775807 < 1 + x1_1.size) = False := eq_false (Nat.not_lt.2 c13)
       obtain rfl := Option.some.inj H
       go_wp2
       go_ret
       exact ⟨by first | rfl | (simp; done) | (simp [*]; done), by repeat (first | exact Drawn0.refl _ | apply Drawn0.step)⟩
      ·
       rw [if_neg c13] at H
       exact absurd H (by simp)
    ·
     replace c11 := Bool.eq_false_iff.mpr c11
     subst c11
     have H1 : (some x1_1) = some r := by rw [if_neg (show ¬ (false = true) by decide)] at H; exact H
     clear H
     have H := H1
     clear H1
     obtain rfl := Option.some.inj H
     go_wp2
     go_ret
     exact ⟨by first | rfl | (simp; done) | (simp [*]; done), by repeat (first | exact Drawn0.refl _ | apply Drawn0.step)⟩

/-! ### spec_sign: function 59 -/
def spec_sign.f (a0 : Int) : Option (Int) := if a0 < 0 then (some (-1)) else (if a0 > 0 then (some 1) else (some 0))
set_option maxHeartbeats 8000000 in
set_option maxRecDepth 100000 in
theorem spec_sign.calls (a0 : Int) (r : Int) (w : World) (h : spec_sign.f a0 = some r) :
  Calls Tryz.prog 59 #[.int .i64 a0] w fun e w' => e = .returned (.int .i64 r) ∧ Drawn0 w w' := by
 have H : (if a0 < 0 then (some (-1)) else (if a0 > 0 then (some 1) else (some 0))) = some r := h
 clear h
 by_cases c2 : a0 < 0
 ·
  rw [if_pos c2] at H
  have c2b0 : decide (a0 < 0) = true := decide_eq_true c2
  clear c2
  obtain rfl := Option.some.inj H
  go_enter Tryz.func59, Tryz.ntmps59
  go_wp2
  go_ret
  exact ⟨by first | rfl | (simp; done) | (simp [*]; done), by repeat (first | exact Drawn0.refl _ | apply Drawn0.step)⟩
 ·
  rw [if_neg c2] at H
  have c2b0 : decide (a0 < 0) = false := decide_eq_false c2
  clear c2
  by_cases c3 : a0 > 0
  ·
   rw [if_pos c3] at H
   have c3b0 : decide (0 < a0) = true := decide_eq_true c3
   clear c3
   obtain rfl := Option.some.inj H
   go_enter Tryz.func59, Tryz.ntmps59
   go_wp2
   go_ret
   exact ⟨by first | rfl | (simp; done) | (simp [*]; done), by repeat (first | exact Drawn0.refl _ | apply Drawn0.step)⟩
  ·
   rw [if_neg c3] at H
   have c3b0 : decide (0 < a0) = false := decide_eq_false c3
   clear c3
   obtain rfl := Option.some.inj H
   go_enter Tryz.func59, Tryz.ntmps59
   go_wp2
   go_ret
   exact ⟨by first | rfl | (simp; done) | (simp [*]; done), by repeat (first | exact Drawn0.refl _ | apply Drawn0.step)⟩

theorem bl_irrefl : ∀ x : List UInt8, Op.bytesLess x x = false
 | [] => rfl
 | a :: x => by
  unfold Op.bytesLess
  rw [bl_irrefl x]
  simp
theorem bl_tri : ∀ x y : List UInt8, Op.bytesLess x y = false → Op.bytesLess y x = false → x = y
 | [], [], _, _ => rfl
 | [], b :: y, h, _ => by simp [Op.bytesLess] at h
 | a :: x, [], _, h => by simp [Op.bytesLess] at h
 | a :: x, b :: y, h, k => by
  unfold Op.bytesLess at h k
  simp only [Bool.or_eq_false_iff, Bool.and_eq_false_iff, decide_eq_false_iff_not, beq_eq_false_iff_ne] at h k
  obtain ⟨h1, h2⟩ := h
  obtain ⟨k1, k2⟩ := k
  have e : a = b := by
   rw [UInt8.lt_iff_toNat_lt] at h1 k1
   exact UInt8.toNat_inj.1 (by omega)
  subst e
  rw [bl_tri x y (by rcases h2 with h2 | h2; exact absurd rfl h2; exact h2) (by rcases k2 with k2 | k2; exact absurd rfl k2; exact k2)]
/-! ### spec_more: function 39 -/
def spec_more.f (a0 : ByteArray) (a1 : ByteArray) : Option (Int) := if (a0.size : Int) = (a1.size : Int) then (if (Op.bytesLess a0.toList a1.toList) = true then (some (-1)) else (if (Op.bytesLess a1.toList a0.toList) = true then (some 1) else (some 0))) else ((spec_sign.f (wrap64 ((a0.size : Int) - (a1.size : Int)))).bind fun t102 => (some t102))
set_option maxHeartbeats 8000000 in
set_option maxRecDepth 100000 in
theorem spec_more.calls (a0 : ByteArray) (a1 : ByteArray) (r : Int) (w : World) (h : spec_more.f a0 a1 = some r) :
  Calls Tryz.prog 39 #[.string a0, .string a1] w fun e w' => e = .returned (.int .i64 r) ∧ Drawn0 w w' := by
 have H : (if (a0.size : Int) = (a1.size : Int) then (if (Op.bytesLess a0.toList a1.toList) = true then (some (-1)) else (if (Op.bytesLess a1.toList a0.toList) = true then (some 1) else (some 0))) else ((spec_sign.f (wrap64 ((a0.size : Int) - (a1.size : Int)))).bind fun t102 => (some t102))) = some r := h
 clear h
 by_cases c3 : (a0.size : Int) = (a1.size : Int)
 ·
  rw [if_pos c3] at H
  have c3b0 : ((a0.size : Int) == (a1.size : Int)) = true := beq_iff_eq.mpr c3
  have c3b1 : ((a0.size : Int) != (a1.size : Int)) = false := bne_eq_false_iff_eq.mpr c3
  have c3b2 : (a0.size == a1.size) = true := by first | simpa using c3 | (simp at c3 ⊢; omega)
  clear c3
  by_cases c4 : (Op.bytesLess a0.toList a1.toList) = true
  ·
   rw [if_pos c4] at H
   have c4b0 : (Op.bytesLess a0.toList a1.toList) = true := c4
   clear c4
   obtain rfl := Option.some.inj H
   go_enter Tryz.func39, Tryz.ntmps39
   go_wp2
   go_ret
   exact ⟨by first | rfl | (simp; done) | (simp [*]; done), by repeat (first | exact Drawn0.refl _ | apply Drawn0.step)⟩
  ·
   rw [if_neg c4] at H
   have c4b0 : (Op.bytesLess a0.toList a1.toList) = false := by simpa using c4
   clear c4
   by_cases c5 : (Op.bytesLess a1.toList a0.toList) = true
   ·
    rw [if_pos c5] at H
    have c5b0 : (Op.bytesLess a1.toList a0.toList) = true := c5
    have c5b1 : (a0.toList == a1.toList) = false := by
     rw [beq_eq_false_iff_ne]; intro e; rw [e, bl_irrefl] at c5b0; cases c5b0
    clear c5
    obtain rfl := Option.some.inj H
    go_enter Tryz.func39, Tryz.ntmps39
    go_wp2
    go_ret
    exact ⟨by first | rfl | (simp; done) | (simp [*]; done), by repeat (first | exact Drawn0.refl _ | apply Drawn0.step)⟩
   ·
    rw [if_neg c5] at H
    have c5b0 : (Op.bytesLess a1.toList a0.toList) = false := by simpa using c5
    have c5b1 : (a0.toList == a1.toList) = true := by
     rw [bl_tri _ _ c4b0 c5b0]; simp
    clear c5
    obtain rfl := Option.some.inj H
    go_enter Tryz.func39, Tryz.ntmps39
    go_wp2
    go_ret
    exact ⟨by first | rfl | (simp; done) | (simp [*]; done), by repeat (first | exact Drawn0.refl _ | apply Drawn0.step)⟩
 ·
  rw [if_neg c3] at H
  have c3b0 : ((a0.size : Int) == (a1.size : Int)) = false := beq_eq_false_iff_ne.mpr c3
  have c3b1 : ((a0.size : Int) != (a1.size : Int)) = true := bne_iff_ne.mpr c3
  have c3b2 : (a0.size == a1.size) = false := by first | simpa using c3 | (simp at c3 ⊢; omega)
  replace H := Option.bind_eq_some_iff.mp H
  obtain ⟨t102, A60, H⟩ := H
  replace H : (some t102) = some r := H
  have A6 := Aside0.mk A60
  clear A60
  obtain rfl := Option.some.inj H
  go_enter Tryz.func39, Tryz.ntmps39
  go_wp2_with (first | ((with_reducible refine gate_callee (f := 59) rfl ?_); refine goesL_ (some 16) rfl rfl Tryz.func59 (by kernel_rfl) rfl #[.int .i64 (wrap64 ((a0.size : Int) - (a1.size : Int)))] rfl (by (try simp only [List.map_toArray, List.map_cons, List.map_nil]); first | done | rfl | (simp only [List.length_drop, List.length_take]; rfl)) ?_; (with_reducible refine (spec_sign.calls (wrap64 ((a0.size : Int) - (a1.size : Int))) t102 _ A6.out).mono ?_); rintro e w' ⟨rfl, ⟨nd, rfl⟩⟩; refine ⟨_, rfl, ?_⟩))
  go_ret
  exact ⟨by first | rfl | (simp; done) | (simp [*]; done), by repeat (first | exact Drawn0.refl _ | apply Drawn0.step)⟩

/-! ### spec_digitAt: function 43 -/
def spec_digitAt.f (a0 : ByteArray) (a1 : Int) : Option (Int) := if a1 ≥ (a0.size : Int) then (some 0) else (if 0 ≤ (wrap64 ((wrap64 ((a0.size : Int) - 1)) - a1)) then (if (wrap64 ((wrap64 ((a0.size : Int) - 1)) - a1)) < (a0.size : Int) then (some (((bt a0 (wrap64 ((wrap64 ((a0.size : Int) - 1)) - a1))) - 48) % 256)) else (none)) else (none))
set_option maxHeartbeats 8000000 in
set_option maxRecDepth 100000 in
theorem spec_digitAt.calls (a0 : ByteArray) (a1 : Int) (r : Int) (w : World) (h : spec_digitAt.f a0 a1 = some r) :
  Calls Tryz.prog 43 #[.string a0, .int .i64 a1] w fun e w' => e = .returned (.int .i64 r) ∧ Drawn0 w w' := by
 have H : (if a1 ≥ (a0.size : Int) then (some 0) else (if 0 ≤ (wrap64 ((wrap64 ((a0.size : Int) - 1)) - a1)) then (if (wrap64 ((wrap64 ((a0.size : Int) - 1)) - a1)) < (a0.size : Int) then (some (((bt a0 (wrap64 ((wrap64 ((a0.size : Int) - 1)) - a1))) - 48) % 256)) else (none)) else (none))) = some r := h
 clear h
 by_cases c3 : a1 ≥ (a0.size : Int)
 ·
  rw [if_pos c3] at H
  have c3b0 : decide ((a0.size : Int) ≤ a1) = true := decide_eq_true c3
  clear c3
  obtain rfl := Option.some.inj H
  go_enter Tryz.func43, Tryz.ntmps43
  go_wp2
  go_ret
  exact ⟨by first | rfl | (simp; done) | (simp [*]; done), by repeat (first | exact Drawn0.refl _ | apply Drawn0.step)⟩
 ·
  rw [if_neg c3] at H
  have c3b0 : decide ((a0.size : Int) ≤ a1) = false := decide_eq_false c3
  clear c3
  obtain ⟨ji4, hji4⟩ : ∃ j_ : Int, (wrap64 ((wrap64 ((a0.size : Int) - 1)) - a1)) = j_ := ⟨_, rfl⟩
  replace H : (if 0 ≤ (ji4) then (if (ji4) < (a0.size : Int) then (some (((bt a0 (ji4)) - 48) % 256)) else (none)) else (none)) = some r := by first | (rw [hji4] at H; exact H) | (simp only [hji4] at H ⊢; exact H)
  have hji4w : (IntKind.i64.wrap ((wrap64 ((a0.size : Int) - 1)) - a1)) = ji4 := (i64_w _).trans hji4
  by_cases c5 : 0 ≤ (ji4)
  ·
   rw [if_pos c5] at H
   have c5b0 : decide (0 ≤ (ji4)) = true := decide_eq_true c5
   clear c5
   by_cases c6 : (ji4) < (a0.size : Int)
   ·
    rw [if_pos c6] at H
    have c6b0 : decide ((ji4) < (a0.size : Int)) = true := decide_eq_true c6
    clear c6
    obtain rfl := Option.some.inj H
    have p7 : 0 ≤ ((ji4) : Int) := of_decide_eq_true (by first | (with_reducible assumption) | assumption)
    have q7 : (ji4) < (a0.size : Int) := of_decide_eq_true (by first | (with_reducible assumption) | assumption)
    have hx7 := bt_at a0 (ji4)
    replace p7 := eq_true p7
    replace q7 := eq_true q7
    go_enter Tryz.func43, Tryz.ntmps43
    go_wp2
    go_ret
    exact ⟨by first | rfl | (simp; done) | (simp only [← hji4] <;> (first | rfl | simp)) | (simp [*]; done), by repeat (first | exact Drawn0.refl _ | apply Drawn0.step)⟩
   ·
    rw [if_neg c6] at H
    exact absurd H (by simp)
  ·
   rw [if_neg c5] at H
   exact absurd H (by simp)

/-! ### spec_textOf: function 44 -/
def spec_textOf.l0 : Nat → List Int → List Int → List Int → Int → Int → Option (ByteArray)
 | 0, _, _, _, _, _ => none
 | k + 1, x0, x3, x9, x10, x11 => if x11 < x10 then (if 0 ≤ x11 then (if x11 < (x9.length : Int) then (if 0 ≤ (wrap64 ((wrap64 ((x0.length : Int) - 1)) - x11)) then (if (wrap64 ((wrap64 ((x0.length : Int) - 1)) - x11)) < (x3.length : Int) then (spec_textOf.l0 k x0 (x3.set ((wrap64 ((wrap64 ((x0.length : Int) - 1)) - x11)) : Int).toNat ((wrap64 (48 + (rd x9 x11))) % 256)) x9 x10 (wrap64 (x11 + 1))) else (none)) else (none)) else (none)) else (none)) else ((spec_signed.f k false (strOfNums x3)).bind fun t108 => (some t108))
def spec_textOf.f (k : Nat) (l0 : List Int) : Option (ByteArray) := if 0 ≤ (l0.length : Int) then (if ((l0.length : Int) : Int).toNat ≤ 281474976710656 then (spec_textOf.l0 k l0 (List.replicate ((l0.length : Int) : Int).toNat 0) l0 (l0.length : Int) 0) else (none)) else (none)
set_option maxHeartbeats 8000000 in
set_option maxRecDepth 100000 in
theorem spec_textOf.calls (k : Nat) (A0 : Option Addr) (c0 : Nat) (l0 : List Int) (r : ByteArray) (w : World) (hr0 : Kd.C (Kd.int .i64) w A0 l0.length l0) (hc0 : l0.length ≤ c0) (h : spec_textOf.f k l0 = some r) :
  Calls Tryz.prog 44 #[.slice A0 l0.length c0] w fun e w' => e = .returned (.string r) ∧ Below w.heap.size w w' := by
 have HR0 := Aside0.mk hr0
 have HC0 := Aside0.mk hc0
 clear hr0 hc0
 have HB := Aside0.mk (Below.refl w.heap.size w)
 have H : (if 0 ≤ (l0.length : Int) then (if ((l0.length : Int) : Int).toNat ≤ 281474976710656 then (spec_textOf.l0 k l0 (List.replicate ((l0.length : Int) : Int).toNat 0) l0 (l0.length : Int) 0) else (none)) else (none)) = some r := h
 clear h
 by_cases c2 : 0 ≤ (l0.length : Int)
 ·
  rw [if_pos c2] at H
  have c2b0 := eq_true c2
  have c2b1 : decide (0 ≤ (l0.length : Int)) = true := decide_eq_true c2
  clear c2
  by_cases c3 : ((l0.length : Int) : Int).toNat ≤ 281474976710656
  ·
   rw [if_pos c3] at H
   have c3b0 := eq_true c3
   have c3b1 : decide (((l0.length : Int) : Int).toNat ≤ 281474976710656) = true := decide_eq_true c3
   clear c3
   obtain ⟨y103, hy103⟩ : ∃ y_ : List Int, y_ = (List.replicate ((l0.length : Int) : Int).toNat 0) := ⟨_, rfl⟩
   replace H : (spec_textOf.l0 k l0 y103 l0 (l0.length : Int) 0) = some r := by first | (rw [hy103]; with_reducible exact H) | (have H2_ := (Option.bind_some _ _).symm.trans H; rw [hy103]; with_reducible exact H2_) | (have H2_ := (Option.bind_some _ _).symm.trans H; with_reducible exact H2_) | with_reducible exact H | (rw [hy103]; exact H) | exact H
   have Ny103 := Aside0.mk hy103
   clear hy103
   have H' := Aside0.mk H
   clear H
   go_enter Tryz.func44, Tryz.ntmps44
   go_wp2_with (first | ((with_reducible refine gate_dst (N := 8) rfl ?_); refine Kd.R_make (Kd.int .u8) _ 5 rfl (N := 8) rfl 49 _ _ rfl (l0.length : Int) rfl rfl Tryz.underlying49 (.int .u8 0) 1 info5 rfl (by decide) (by omega) 0 (ok := fun _ => True) (okp := fun _ => True) rfl (fun _ hk => hk) trivial (of_decide_eq_true (by first | (with_reducible assumption) | assumption)) (Nat.le_trans (Nat.mul_le_mul_right _ (of_decide_eq_true (by first | (with_reducible assumption) | assumption) : (l0.length : Int).toNat ≤ 281474976710656)) (by omega)) (Below.refl _ _) (Nat.le_refl _) ?_; intro v104 w4 ho5 hb hg_ hnew_; clear hg_ hnew_; (first | rw [← Ny103.out] at ho5 | (simp only [Int.reduceToNat] at ho5; rw [← Ny103.out] at ho5)); have n0_ := Aside0.mk (Kd.R_lower ho5 (below_size (by repeat (first | (with_reducible first | exact HB.out | apply below_alloc | apply pw_below_drewN | apply below_drew1) | exact HB.out)))); have n1_ := Aside0.mk (below_step (by repeat (first | (with_reducible first | exact HB.out | apply below_alloc | apply pw_below_drewN | apply below_drew1) | exact HB.out)) hb); clear HB; have HO105 := n0_; have HB := n1_; clear n0_ n1_; clear hb ho5))
   go_loopg [11] k (fun kq v11 w' => ∃ (x3_1 : List Int) (x11_1 : Int), v11 = .int .i64 x11_1 ∧ Aside0 (spec_textOf.l0 kq l0 x3_1 l0 (l0.length : Int) x11_1 = some r) ∧ Aside0 (kq ≤ k) ∧ Aside0 (Kd.R (Kd.int .u8) 5 w' w.heap.size (fun _ => True) v104 x3_1) ∧ Aside0 (Below w.heap.size w w'))
   case atStart => exact ⟨(y103), (0), (by first | rfl | (simp; done) | (simp [*]; done)), H', ⟨Nat.le_refl _⟩, ⟨by (with_reducible repeat (first | apply Kd.R_alloc | apply Kd.R_drewN | apply Kd.R_drew)); exact HO105.out⟩, ⟨by repeat (first | (with_reducible first | exact HB.out | apply below_alloc | apply pw_below_drewN | apply below_drew1) | exact HB.out)⟩⟩
   case round =>
    clear H'
    try clear c2
    try clear c2b0
    try clear c2b1
    try clear p2
    try clear c3
    try clear c3b0
    try clear c3b1
    try clear c4
    obtain ⟨x3_1, x11_1, rfl, HA, HK1, HO_3, HB⟩ := hrel
    cases gk with
    | zero => exact absurd HA.out (by simp [spec_textOf.l0])
    | succ k1 =>
     have H := HA.out
     clear HA
     simp only [spec_textOf.l0] at H
     by_cases c6 : x11_1 < (l0.length : Int)
     ·
      rw [if_pos c6] at H
      have c6b0 : decide (x11_1 < (l0.length : Int)) = true := decide_eq_true c6
      clear c6
      by_cases c7 : 0 ≤ x11_1
      ·
       rw [if_pos c7] at H
       have c7b0 : decide (0 ≤ x11_1) = true := decide_eq_true c7
       clear c7
       by_cases c8 : x11_1 < (l0.length : Int)
       ·
        rw [if_pos c8] at H
        have c8b0 : decide (x11_1 < (l0.length : Int)) = true := decide_eq_true c8
        clear c8
        obtain ⟨ji9, hji9⟩ : ∃ j_ : Int, (wrap64 ((wrap64 ((l0.length : Int) - 1)) - x11_1)) = j_ := ⟨_, rfl⟩
        replace H : (if 0 ≤ (ji9) then (if (ji9) < (x3_1.length : Int) then (spec_textOf.l0 k1 l0 (x3_1.set ((ji9) : Int).toNat ((wrap64 (48 + (rd l0 x11_1))) % 256)) l0 (l0.length : Int) (wrap64 (x11_1 + 1))) else (none)) else (none)) = some r := by first | (rw [hji9] at H; exact H) | (simp only [hji9] at H ⊢; exact H)
        have hji9w : (IntKind.i64.wrap ((wrap64 ((l0.length : Int) - 1)) - x11_1)) = ji9 := (i64_w _).trans hji9
        by_cases c10 : 0 ≤ (ji9)
        ·
         rw [if_pos c10] at H
         have c10b0 : decide (0 ≤ (ji9)) = true := decide_eq_true c10
         clear c10
         by_cases c11 : (ji9) < (x3_1.length : Int)
         ·
          rw [if_pos c11] at H
          have c11b0 : decide ((ji9) < (x3_1.length : Int)) = true := decide_eq_true c11
          clear c11
          obtain ⟨y107, hy107⟩ : ∃ y_ : List Int, y_ = (x3_1.set ((ji9) : Int).toNat ((wrap64 (48 + (rd l0 x11_1))) % 256)) := ⟨_, rfl⟩
          replace H : (spec_textOf.l0 k1 l0 y107 l0 (l0.length : Int) (wrap64 (x11_1 + 1))) = some r := by first | (rw [hy107]; with_reducible exact H) | (have H2_ := (Option.bind_some _ _).symm.trans H; rw [hy107]; with_reducible exact H2_) | (have H2_ := (Option.bind_some _ _).symm.trans H; with_reducible exact H2_) | with_reducible exact H | (rw [hy107]; exact H) | exact H
          have Ny107 := Aside0.mk hy107
          clear hy107
          have H' := Aside0.mk H
          clear H
          have p106 : 0 ≤ (x11_1 : Int) := of_decide_eq_true (by first | (with_reducible assumption) | assumption)
          have q106 : x11_1 < (l0.length : Int) := of_decide_eq_true (by first | (with_reducible assumption) | assumption)
          obtain ⟨ad106, e106, hx106_0⟩ := Kd.at_int HR0.out x11_1 p106 q106
          cases e106
          replace hx106_0 := (HB.out.cell (World.block_lt_of_cell? w _ hx106_0)).trans hx106_0
          replace p106 := eq_true p106
          replace q106 := eq_true q106
          have p12 : 0 ≤ ((ji9) : Int) := of_decide_eq_true (by first | (with_reducible assumption) | assumption)
          have q12 : ((ji9) : Int) < ((x3_1.length : Int) : Int) := of_decide_eq_true (by first | (with_reducible assumption) | assumption)
          obtain ⟨go12, co12, eo12, gb12, gl12, cl12, HG12⟩ := Kd.R_form HO_3.out (by omega)
          (first | cases eo12 | (injection eo12 with ea_ en_ ec_; (first | subst ea_ | (injection ea_ with ea_; subst ea_)); subst ec_; clear en_))
          have GB12 := Aside0.mk gb12
          have GG12 := Aside0.mk HG12
          clear gb12 gl12 HG12
          obtain ⟨hx12_0, hf12_0⟩ := Kd.R_celln 0 HO_3.out ((ji9) : Int) p12 q12
          replace p12 := eq_true p12
          replace q12 := eq_true q12
          have HP13 := Kd.R_putg HO_3.out ((ji9) : Int) ((wrap64 (48 + (rd l0 x11_1))) % 256)
          go_wp2_with (first | ((with_reducible refine gate_store (t := 5) (p := 25) rfl ?_); refine store_event (t := 5) (p := 25) (v := ?vo_w14) (w1 := (wr.setCell ⟨go12, ((ji9) : Int).toNat, none⟩ (.int .u8 ((wrap64 (48 + (rd l0 x11_1))) % 256)))) ?hg ?ho ?hn ?hr ?_; (case ho => rfl); (case hg => rfl); (case hn => rfl); (case hr => first | (go_simp; done) | (go_simp; rfl)); intro w14 hw; have hg : wr.grownBy w14 (some go12) := (by rw [hw]; exact HP13.2); have hp_ : Kd.R (Kd.int .u8) 5 w14 w.heap.size (fun _ => True) (.slice (some ⟨go12, 0, none⟩) x3_1.length co12) y107 := (by rw [hw, Ny107.out]; exact HP13.1); clear HP13; have n0_ := Aside0.mk (hp_); have n1_ := Aside0.mk ((by rw [hw]; exact below_set (HB.out) GB12.out : Below w.heap.size w w14)); clear HO_3; clear HB; have HO_3 := n0_; have HB := n1_; clear n0_ n1_; clear hg hw hp_))
          go_roundg k1
          case measure => have := HK1.out; omega
          case rel => exact ⟨(y107), (wrap64 (x11_1 + 1)), (by first | rfl | (simp; done) | (simp [*]; done)), H', ⟨by have := HK1.out; omega⟩, ⟨by (with_reducible repeat (first | apply Kd.R_alloc | apply Kd.R_drewN | apply Kd.R_drew)); exact HO_3.out⟩, ⟨by repeat (first | (with_reducible first | exact HB.out | apply below_alloc | apply pw_below_drewN | apply below_drew1) | exact HB.out)⟩⟩
         ·
          rw [if_neg c11] at H
          exact absurd H (by simp)
        ·
         rw [if_neg c10] at H
         exact absurd H (by simp)
       ·
        rw [if_neg c8] at H
        exact absurd H (by simp)
      ·
       rw [if_neg c7] at H
       exact absurd H (by simp)
     ·
      rw [if_neg c6] at H
      have c6b0 : decide (x11_1 < (l0.length : Int)) = false := decide_eq_false c6
      clear c6
      replace H := Option.bind_eq_some_iff.mp H
      obtain ⟨t108, A150, H⟩ := H
      replace H : (some t108) = some r := H
      have A15 := Aside0.mk A150
      clear A150
      obtain rfl := Option.some.inj H
      have hcv16 := own_string (P := Tryz.prog) Tryz.underlying49 Tryz.underlying5 Tryz.underlying9 (Kd.own_of_R HO_3.out)
      go_wp2_with (first | ((with_reducible refine gate_callee (f := 37) rfl ?_); refine goesL_ (some 29) rfl rfl Tryz.func37 (by kernel_rfl) rfl #[.bool false, .string (strOfNums x3_1)] rfl (by (try simp only [List.map_toArray, List.map_cons, List.map_nil]); first | done | rfl | (simp only [List.length_drop, List.length_take]; rfl)) ?_; (with_reducible refine (spec_signed.calls k1 false (strOfNums x3_1) t108 _ A15.out).mono ?_); rintro e w' ⟨rfl, ⟨nd, rfl⟩⟩; refine ⟨_, rfl, ?_⟩))
      go_ret
      exact ⟨by first | rfl | (simp [errW_none, errW_some] <;> rfl) | (simp [*, errW_none, errW_some] <;> rfl), by repeat (first | (with_reducible first | exact HB.out | apply below_alloc | apply pw_below_drewN | apply below_drew1) | exact HB.out)⟩
  ·
   rw [if_neg c3] at H
   exact absurd H (by simp)
 ·
  rw [if_neg c2] at H
  exact absurd H (by simp)

/-! ### spec_less: function 40 -/
def spec_less.l0 : Nat → ByteArray → ByteArray → List Int → Int → Int → Option (ByteArray)
 | 0, _, _, _, _, _ => none
 | k + 1, x0, x1, x5, x6, x7 => if x7 < (x0.size : Int) then ((spec_digitAt.f x0 x7).bind fun t110 => ((spec_digitAt.f x1 x7).bind fun t111 => (if (wrap64 ((wrap64 (t110 - t111)) - x6)) < 0 then (if x5.length < 17592186044416 then (spec_less.l0 k x0 x1 (x5 ++ [wrap64 ((wrap64 ((wrap64 (t110 - t111)) - x6)) + 10)]) 1 (wrap64 (x7 + 1))) else (none)) else (if x5.length < 17592186044416 then (spec_less.l0 k x0 x1 (x5 ++ [wrap64 ((wrap64 (t110 - t111)) - x6)]) 0 (wrap64 (x7 + 1))) else (none))))) else ((spec_textOf.f k x5).bind fun t109 => (some t109))
def spec_less.f (k : Nat) (a0 : ByteArray) (a1 : ByteArray) : Option (ByteArray) := spec_less.l0 k a0 a1 ([] : List Int) 0 0
set_option maxHeartbeats 8000000 in
set_option maxRecDepth 100000 in
theorem spec_less.calls (k : Nat) (a0 : ByteArray) (a1 : ByteArray) (r : ByteArray) (w : World) (h : spec_less.f k a0 a1 = some r) :
  Calls Tryz.prog 40 #[.string a0, .string a1] w fun e w' => e = .returned (.string r) ∧ Below w.heap.size w w' := by
 have HB := Aside0.mk (Below.refl w.heap.size w)
 have H : (spec_less.l0 k a0 a1 ([] : List Int) 0 0) = some r := h
 clear h
 have H' := Aside0.mk H
 clear H
 go_enter Tryz.func40, Tryz.ntmps40
 go_wp2
 go_loopg [5, 6, 7] k (fun kq v5 v6 v7 w' => ∃ (x5_1 : List Int) (x6_1 : Int) (x7_1 : Int), v6 = .int .i64 x6_1 ∧ v7 = .int .i64 x7_1 ∧ Aside0 (spec_less.l0 kq a0 a1 x5_1 x6_1 x7_1 = some r) ∧ Aside0 (kq ≤ k) ∧ Aside0 (Kd.R (Kd.int .i64) 3 w' w.heap.size (fun _ => True) v5 x5_1) ∧ Aside0 (Below w.heap.size w w'))
 case atStart => exact ⟨(([] : List Int)), (0), (0), (by first | rfl | (simp; done) | (simp [*]; done)), (by first | rfl | (simp; done) | (simp [*]; done)), H', ⟨Nat.le_refl _⟩, ⟨by first | exact Kd.R_nil _ _ _ _ _ | exact Kd.N_nil _ _ _ _ _ | exact Kd.V_nil _ _ _ _ _ | exact Kd.Q_nil _ _ _ _ _ | exact Kd.S_nil _ _ _ _ _⟩, ⟨by repeat (first | (with_reducible first | exact HB.out | apply below_alloc | apply pw_below_drewN | apply below_drew1) | exact HB.out)⟩⟩
 case round =>
  clear H'
  try clear p2
  obtain ⟨x5_1, x6_1, x7_1, rfl, rfl, HA, HK1, HO_5, HB⟩ := hrel
  cases gk with
  | zero => exact absurd HA.out (by simp [spec_less.l0])
  | succ k1 =>
   have H := HA.out
   clear HA
   simp only [spec_less.l0] at H
   by_cases c3 : x7_1 < (a0.size : Int)
   ·
    rw [if_pos c3] at H
    have c3b0 : decide (x7_1 < (a0.size : Int)) = true := decide_eq_true c3
    clear c3
    replace H := Option.bind_eq_some_iff.mp H
    obtain ⟨t110, A40, H⟩ := H
    replace H : ((spec_digitAt.f a1 x7_1).bind fun t111 => (if (wrap64 ((wrap64 (t110 - t111)) - x6_1)) < 0 then (if x5_1.length < 17592186044416 then (spec_less.l0 k1 a0 a1 (x5_1 ++ [wrap64 ((wrap64 ((wrap64 (t110 - t111)) - x6_1)) + 10)]) 1 (wrap64 (x7_1 + 1))) else (none)) else (if x5_1.length < 17592186044416 then (spec_less.l0 k1 a0 a1 (x5_1 ++ [wrap64 ((wrap64 (t110 - t111)) - x6_1)]) 0 (wrap64 (x7_1 + 1))) else (none)))) = some r := H
    have A4 := Aside0.mk A40
    clear A40
    replace H := Option.bind_eq_some_iff.mp H
    obtain ⟨t111, A50, H⟩ := H
    replace H : (if (wrap64 ((wrap64 (t110 - t111)) - x6_1)) < 0 then (if x5_1.length < 17592186044416 then (spec_less.l0 k1 a0 a1 (x5_1 ++ [wrap64 ((wrap64 ((wrap64 (t110 - t111)) - x6_1)) + 10)]) 1 (wrap64 (x7_1 + 1))) else (none)) else (if x5_1.length < 17592186044416 then (spec_less.l0 k1 a0 a1 (x5_1 ++ [wrap64 ((wrap64 (t110 - t111)) - x6_1)]) 0 (wrap64 (x7_1 + 1))) else (none))) = some r := H
    have A5 := Aside0.mk A50
    clear A50
    by_cases c6 : (wrap64 ((wrap64 (t110 - t111)) - x6_1)) < 0
    ·
     rw [if_pos c6] at H
     have c6b0 : decide ((wrap64 ((wrap64 (t110 - t111)) - x6_1)) < 0) = true := decide_eq_true c6
     clear c6
     by_cases c7 : x5_1.length < 17592186044416
     ·
      rw [if_pos c7] at H
      have LMc7 := Aside0.mk c7
      clear c7
      obtain ⟨y112, hy112⟩ : ∃ y_ : List Int, y_ = (x5_1 ++ [wrap64 ((wrap64 ((wrap64 (t110 - t111)) - x6_1)) + 10)]) := ⟨_, rfl⟩
      replace H : (spec_less.l0 k1 a0 a1 y112 1 (wrap64 (x7_1 + 1))) = some r := by first | (rw [hy112]; with_reducible exact H) | (have H2_ := (Option.bind_some _ _).symm.trans H; rw [hy112]; with_reducible exact H2_) | (have H2_ := (Option.bind_some _ _).symm.trans H; with_reducible exact H2_) | with_reducible exact H | (rw [hy112]; exact H) | exact H
      have Ny112 := Aside0.mk hy112
      clear hy112
      have H' := Aside0.mk H
      clear H
      go_wp2_with (first | ((with_reducible refine gate_callee (f := 43) rfl ?_); refine goesL_ (some 17) rfl rfl Tryz.func43 (by kernel_rfl) rfl #[.string a0, .int .i64 x7_1] rfl (by (try simp only [List.map_toArray, List.map_cons, List.map_nil]); first | done | rfl | (simp only [List.length_drop, List.length_take]; rfl)) ?_; (with_reducible refine (spec_digitAt.calls a0 x7_1 t110 _ A4.out).mono ?_); rintro e w' ⟨rfl, ⟨nd, rfl⟩⟩; refine ⟨_, rfl, ?_⟩) | ((with_reducible refine gate_callee (f := 43) rfl ?_); refine goesL_ (some 20) rfl rfl Tryz.func43 (by kernel_rfl) rfl #[.string a1, .int .i64 x7_1] rfl (by (try simp only [List.map_toArray, List.map_cons, List.map_nil]); first | done | rfl | (simp only [List.length_drop, List.length_take]; rfl)) ?_; (with_reducible refine (spec_digitAt.calls a1 x7_1 t111 _ A5.out).mono ?_); rintro e w' ⟨rfl, ⟨nd, rfl⟩⟩; refine ⟨_, rfl, ?_⟩) | ((with_reducible refine gate_builtin (b := .append) (xs := #[.tmp 28, .tmp 30]) rfl ?_); at_builtin; refine Kd.R_append (Kd.int .i64) (w0 := w) w.heap.size rfl (.tmp 28) (.tmp 30) 45 3 (.int .i64 0) 8 rfl Tryz.underlying45 info3 rfl (by decide) (by omega) u5 x5_1 (wrap64 ((wrap64 ((wrap64 (t110 - t111)) - x6_1)) + 10)) [.int .i64 (wrap64 ((wrap64 ((wrap64 (t110 - t111)) - x6_1)) + 10))] (fun _ => True) (fun _ => False) rfl rfl ?aP (fun _ hk => hk.elim) ?aF ?aO ?aB ?aS ?aL ?_; (case aP => exact rfl); (case aB => exact (by repeat (first | (with_reducible first | exact HB.out | apply below_alloc | apply pw_below_drewN | apply below_drew1) | exact HB.out))); (case aF => exact (fun _ _ => trivial)); (case aO => exact (by (with_reducible repeat (first | apply Kd.R_alloc | apply Kd.R_drewN | apply Kd.R_drew)); exact HO_5.out)); (case aS => exact (below_size (by repeat (first | (with_reducible first | exact HB.out | apply below_alloc | apply pw_below_drewN | apply below_drew1) | exact HB.out)))); (case aL => have := LMc7.out; omega); intro v113 w8 ho hb hg hat; rw [← Ny112.out] at ho; have n0_ := Aside0.mk (hb); have n1_ := Aside0.mk (ho); clear HB; clear HO_5; have HB := n0_; have HO114 := n1_; clear n0_ n1_; clear ho hb hg hat))
      go_roundg k1
      case measure => have := HK1.out; omega
      case rel => exact ⟨(y112), (1), (wrap64 (x7_1 + 1)), (by first | rfl | (simp; done) | (simp [*]; done)), (by first | rfl | (simp; done) | (simp [*]; done)), H', ⟨by have := HK1.out; omega⟩, ⟨by (with_reducible repeat (first | apply Kd.R_alloc | apply Kd.R_drewN | apply Kd.R_drew)); exact HO114.out⟩, ⟨by repeat (first | (with_reducible first | exact HB.out | apply below_alloc | apply pw_below_drewN | apply below_drew1) | exact HB.out)⟩⟩
     ·
      rw [if_neg c7] at H
      exact absurd H (by simp)
    ·
     rw [if_neg c6] at H
     have c6b0 : decide ((wrap64 ((wrap64 (t110 - t111)) - x6_1)) < 0) = false := decide_eq_false c6
     clear c6
     by_cases c9 : x5_1.length < 17592186044416
     ·
      rw [if_pos c9] at H
      have LMc9 := Aside0.mk c9
      clear c9
      obtain ⟨y115, hy115⟩ : ∃ y_ : List Int, y_ = (x5_1 ++ [wrap64 ((wrap64 (t110 - t111)) - x6_1)]) := ⟨_, rfl⟩
      replace H : (spec_less.l0 k1 a0 a1 y115 0 (wrap64 (x7_1 + 1))) = some r := by first | (rw [hy115]; with_reducible exact H) | (have H2_ := (Option.bind_some _ _).symm.trans H; rw [hy115]; with_reducible exact H2_) | (have H2_ := (Option.bind_some _ _).symm.trans H; with_reducible exact H2_) | with_reducible exact H | (rw [hy115]; exact H) | exact H
      have Ny115 := Aside0.mk hy115
      clear hy115
      have H' := Aside0.mk H
      clear H
      go_wp2_with (first | ((with_reducible refine gate_callee (f := 43) rfl ?_); refine goesL_ (some 17) rfl rfl Tryz.func43 (by kernel_rfl) rfl #[.string a0, .int .i64 x7_1] rfl (by (try simp only [List.map_toArray, List.map_cons, List.map_nil]); first | done | rfl | (simp only [List.length_drop, List.length_take]; rfl)) ?_; (with_reducible refine (spec_digitAt.calls a0 x7_1 t110 _ A4.out).mono ?_); rintro e w' ⟨rfl, ⟨nd, rfl⟩⟩; refine ⟨_, rfl, ?_⟩) | ((with_reducible refine gate_callee (f := 43) rfl ?_); refine goesL_ (some 20) rfl rfl Tryz.func43 (by kernel_rfl) rfl #[.string a1, .int .i64 x7_1] rfl (by (try simp only [List.map_toArray, List.map_cons, List.map_nil]); first | done | rfl | (simp only [List.length_drop, List.length_take]; rfl)) ?_; (with_reducible refine (spec_digitAt.calls a1 x7_1 t111 _ A5.out).mono ?_); rintro e w' ⟨rfl, ⟨nd, rfl⟩⟩; refine ⟨_, rfl, ?_⟩) | ((with_reducible refine gate_builtin (b := .append) (xs := #[.tmp 28, .tmp 30]) rfl ?_); at_builtin; refine Kd.R_append (Kd.int .i64) (w0 := w) w.heap.size rfl (.tmp 28) (.tmp 30) 45 3 (.int .i64 0) 8 rfl Tryz.underlying45 info3 rfl (by decide) (by omega) u5 x5_1 (wrap64 ((wrap64 (t110 - t111)) - x6_1)) [.int .i64 (wrap64 ((wrap64 (t110 - t111)) - x6_1))] (fun _ => True) (fun _ => False) rfl rfl ?aP (fun _ hk => hk.elim) ?aF ?aO ?aB ?aS ?aL ?_; (case aP => exact rfl); (case aB => exact (by repeat (first | (with_reducible first | exact HB.out | apply below_alloc | apply pw_below_drewN | apply below_drew1) | exact HB.out))); (case aF => exact (fun _ _ => trivial)); (case aO => exact (by (with_reducible repeat (first | apply Kd.R_alloc | apply Kd.R_drewN | apply Kd.R_drew)); exact HO_5.out)); (case aS => exact (below_size (by repeat (first | (with_reducible first | exact HB.out | apply below_alloc | apply pw_below_drewN | apply below_drew1) | exact HB.out)))); (case aL => have := LMc9.out; omega); intro v116 w10 ho hb hg hat; rw [← Ny115.out] at ho; have n0_ := Aside0.mk (hb); have n1_ := Aside0.mk (ho); clear HB; clear HO_5; have HB := n0_; have HO117 := n1_; clear n0_ n1_; clear ho hb hg hat))
      go_roundg k1
      case measure => have := HK1.out; omega
      case rel => exact ⟨(y115), (0), (wrap64 (x7_1 + 1)), (by first | rfl | (simp; done) | (simp [*]; done)), (by first | rfl | (simp; done) | (simp [*]; done)), H', ⟨by have := HK1.out; omega⟩, ⟨by (with_reducible repeat (first | apply Kd.R_alloc | apply Kd.R_drewN | apply Kd.R_drew)); exact HO117.out⟩, ⟨by repeat (first | (with_reducible first | exact HB.out | apply below_alloc | apply pw_below_drewN | apply below_drew1) | exact HB.out)⟩⟩
     ·
      rw [if_neg c9] at H
      exact absurd H (by simp)
   ·
    rw [if_neg c3] at H
    have c3b0 : decide (x7_1 < (a0.size : Int)) = false := decide_eq_false c3
    clear c3
    replace H := Option.bind_eq_some_iff.mp H
    obtain ⟨t109, A110, H⟩ := H
    replace H : (some t109) = some r := H
    have A11 := Aside0.mk A110
    clear A110
    obtain rfl := Option.some.inj H
    obtain ⟨Ao12, co12, eo12⟩ := Kd.R_slice HO_5.out
    subst eo12
    go_wp2_with (first | ((with_reducible refine gate_callee (f := 44) rfl ?_); refine goesL_ (some 33) rfl rfl Tryz.func44 (by kernel_rfl) rfl #[.slice Ao12 x5_1.length co12] rfl (by (try simp only [List.map_toArray, List.map_cons, List.map_nil]); first | done | rfl | (simp only [List.length_drop, List.length_take]; rfl)) ?_; (with_reducible refine (spec_textOf.calls k1 _ _ x5_1 t109 _ ?side1 ?side2 A11.out).mono ?_); (case side1 => repeat (first | exact (Kd.R_reads' HO_5.out).2.2 | (with_reducible refine Kd.C_alloc ?_ _) | (with_reducible refine Kd.C_drewN ?_ _) | (with_reducible refine Kd.C_drew ?_))); (case side2 => exact (Kd.R_reads' HO_5.out).2.1); rintro e w13 ⟨rfl, hb⟩; refine ⟨_, rfl, ?_⟩; have n0_ := Aside0.mk (Kd.R_below (by (with_reducible repeat (first | apply Kd.R_alloc | apply Kd.R_drewN | apply Kd.R_drew)); exact HO_5.out) hb); have n1_ := Aside0.mk (below_step (by repeat (first | (with_reducible first | exact HB.out | apply below_alloc | apply pw_below_drewN | apply below_drew1) | exact HB.out)) hb); clear HO_5; clear HB; have HO_5 := n0_; have HB := n1_; clear n0_ n1_; (try clear hb); (try clear hb2); (try clear hk); (try clear hi)))
    go_ret
    exact ⟨by first | rfl | (simp [errW_none, errW_some] <;> rfl) | (simp [*, errW_none, errW_some] <;> rfl), by repeat (first | (with_reducible first | exact HB.out | apply below_alloc | apply pw_below_drewN | apply below_drew1) | exact HB.out)⟩

end Go.Proofs.YtaiidipcmnejoaaGreatDoor.PWholeDiv

/- The walk of WholeDiv: what it returns is what the function of texts says. -/
namespace Go.Proofs.YtaiidipcmnejoaaGreatDoor.PWholeDiv
open Go.RowKit Go.Proofs.YtaiidipcmnejoaaGreatDoorW.PrintWords Go.Proofs.YtaiidipcmnejoaaGreatDoorW.PrintLast Go.Proofs.YtaiidipcmnejoaaGreatDoorW.PrintMore
attribute [local go_sem] max2_int min2_int max_two min_two max_three min_three max_four min_four   -- for this text's walks alone
set_option linter.unusedVariables false
set_option linter.unusedSimpArgs false

/-! ### spec_WholeDiv: function 20 -/
mutual
def spec_WholeDiv.l0 : Nat → ByteArray → ByteArray → ByteArray → ByteArray → ByteArray → ByteArray → Int → Option (ByteArray × ByteArray)
 | 0, _, _, _, _, _, _, _ => none
 | k + 1, x0, x1, x6, x7, x8, x9, x10 => if x10 < (x6.size : Int) then (if 0 ≤ x10 then (if x10 ≤ (wrap64 (x10 + 1)) then (if (wrap64 (x10 + 1)) ≤ (x6.size : Int) then (if x9.size + (x6.extract (x10 : Int).toNat ((wrap64 (x10 + 1)) : Int).toNat).size ≤ 9223372036854775807 then ((spec_signed.f k false (x9 ++ (x6.extract (x10 : Int).toNat ((wrap64 (x10 + 1)) : Int).toNat))).bind fun t120 => (spec_WholeDiv.l1 k x0 x1 x6 x7 x8 t120 x10 0)) else (none)) else (none)) else (none)) else (none)) else ((spec_below.f x0).bind fun t123 => ((spec_below.f x1).bind fun t124 => ((spec_signed.f k (t123 != t124) x8).bind fun t125 => ((spec_below.f x0).bind fun t126 => ((spec_signed.f k t126 x9).bind fun t127 => (some (t125, t127)))))))
def spec_WholeDiv.l1 : Nat → ByteArray → ByteArray → ByteArray → ByteArray → ByteArray → ByteArray → Int → Int → Option (ByteArray × ByteArray)
 | 0, _, _, _, _, _, _, _, _ => none
 | k + 1, x0, x1, x6, x7, x8, x9, x10, x11 => (spec_more.f x9 x7).bind fun t121 => (if t121 ≥ 0 then ((spec_less.f k x9 x7).bind fun t122 => (spec_WholeDiv.l1 k x0 x1 x6 x7 x8 t122 x10 (wrap64 (x11 + 1)))) else (if 0 ≤ x11 then (if x11 ≤ (wrap64 (x11 + 1)) then (if (wrap64 (x11 + 1)) ≤ 10 then (if x8.size + ((⟨#[48, 49, 50, 51, 52, 53, 54, 55, 56, 57]⟩ : ByteArray).extract (x11 : Int).toNat ((wrap64 (x11 + 1)) : Int).toNat).size ≤ 9223372036854775807 then (spec_WholeDiv.l0 k x0 x1 x6 x7 (x8 ++ ((⟨#[48, 49, 50, 51, 52, 53, 54, 55, 56, 57]⟩ : ByteArray).extract (x11 : Int).toNat ((wrap64 (x11 + 1)) : Int).toNat)) x9 (wrap64 (x10 + 1))) else (none)) else (none)) else (none)) else (none)))
end
def spec_WholeDiv.f (k : Nat) (a0 : ByteArray) (a1 : ByteArray) : Option (ByteArray × ByteArray) := (spec_digitsOf.f a0).bind fun t118 => ((spec_digitsOf.f a1).bind fun t119 => (spec_WholeDiv.l0 k a0 a1 t118 t119 (⟨#[]⟩ : ByteArray) (⟨#[48]⟩ : ByteArray) 0))
set_option maxHeartbeats 8000000 in
set_option maxRecDepth 100000 in
theorem spec_WholeDiv.calls (k : Nat) (a0 : ByteArray) (a1 : ByteArray) (r1 : ByteArray) (r2 : ByteArray) (w : World) (h : spec_WholeDiv.f k a0 a1 = some (r1, r2)) :
  Calls Tryz.prog 20 #[.string a0, .string a1] w fun e w' => e = .returned (.tuple #[.string r1, .string r2]) ∧ Below w.heap.size w w' := by
 have HB := Aside0.mk (Below.refl w.heap.size w)
 have H : ((spec_digitsOf.f a0).bind fun t118 => ((spec_digitsOf.f a1).bind fun t119 => (spec_WholeDiv.l0 k a0 a1 t118 t119 (⟨#[]⟩ : ByteArray) (⟨#[48]⟩ : ByteArray) 0))) = some (r1, r2) := h
 clear h
 replace H := Option.bind_eq_some_iff.mp H
 obtain ⟨t118, A30, H⟩ := H
 replace H : ((spec_digitsOf.f a1).bind fun t119 => (spec_WholeDiv.l0 k a0 a1 t118 t119 (⟨#[]⟩ : ByteArray) (⟨#[48]⟩ : ByteArray) 0)) = some (r1, r2) := H
 have A3 := Aside0.mk A30
 clear A30
 replace H := Option.bind_eq_some_iff.mp H
 obtain ⟨t119, A40, H⟩ := H
 replace H : (spec_WholeDiv.l0 k a0 a1 t118 t119 (⟨#[]⟩ : ByteArray) (⟨#[48]⟩ : ByteArray) 0) = some (r1, r2) := H
 have A4 := Aside0.mk A40
 clear A40
 have H' := Aside0.mk H
 clear H
 go_enter Tryz.func20, Tryz.ntmps20
 go_wp2_with (first | ((with_reducible refine gate_callee (f := 35) rfl ?_); refine goesL_ (some 13) rfl rfl Tryz.func35 (by kernel_rfl) rfl #[.string a0] rfl (by (try simp only [List.map_toArray, List.map_cons, List.map_nil]); first | done | rfl | (simp only [List.length_drop, List.length_take]; rfl)) ?_; (with_reducible refine (spec_digitsOf.calls a0 t118 _ A3.out).mono ?_); rintro e w' ⟨rfl, ⟨nd, rfl⟩⟩; refine ⟨_, rfl, ?_⟩) | ((with_reducible refine gate_callee (f := 35) rfl ?_); refine goesL_ (some 15) rfl rfl Tryz.func35 (by kernel_rfl) rfl #[.string a1] rfl (by (try simp only [List.map_toArray, List.map_cons, List.map_nil]); first | done | rfl | (simp only [List.length_drop, List.length_take]; rfl)) ?_; (with_reducible refine (spec_digitsOf.calls a1 t119 _ A4.out).mono ?_); rintro e w' ⟨rfl, ⟨nd, rfl⟩⟩; refine ⟨_, rfl, ?_⟩))
 go_loopg [8, 9, 10] k (fun kq v8 v9 v10 w' => ∃ (x8_1 : ByteArray) (x9_1 : ByteArray) (x10_1 : Int), v8 = .string x8_1 ∧ v9 = .string x9_1 ∧ v10 = .int .i64 x10_1 ∧ Aside0 (spec_WholeDiv.l0 kq a0 a1 t118 t119 x8_1 x9_1 x10_1 = some (r1, r2)) ∧ Aside0 (kq ≤ k) ∧ Aside0 (Below w.heap.size w w'))
 case atStart => exact ⟨((⟨#[]⟩ : ByteArray)), ((⟨#[48]⟩ : ByteArray)), (0), (by first | rfl | (simp; done) | (simp [*]; done)), (by first | rfl | (simp; done) | (simp [*]; done)), (by first | rfl | (simp; done) | (simp [*]; done)), H', ⟨Nat.le_refl _⟩, ⟨by repeat (first | (with_reducible first | exact HB.out | apply below_alloc | apply pw_below_drewN | apply below_drew1) | exact HB.out)⟩⟩
 case round =>
  clear H'
  try clear c2
  try clear p2
  try clear c3
  obtain ⟨x8_1, x9_1, x10_1, rfl, rfl, rfl, HA, HK1, HB⟩ := hrel
  cases gk with
  | zero => exact absurd HA.out (by simp [spec_WholeDiv.l0])
  | succ k1 =>
   have H := HA.out
   clear HA
   simp only [spec_WholeDiv.l0] at H
   by_cases c5 : x10_1 < (t118.size : Int)
   ·
    rw [if_pos c5] at H
    have c5b0 : decide (x10_1 < (t118.size : Int)) = true := decide_eq_true c5
    clear c5
    by_cases c6 : 0 ≤ x10_1
    ·
     rw [if_pos c6] at H
     have c6b0 := eq_true c6
     have c6b1 : decide (0 ≤ x10_1) = true := decide_eq_true c6
     clear c6
     by_cases c7 : x10_1 ≤ (wrap64 (x10_1 + 1))
     ·
      rw [if_pos c7] at H
      have c7b0 := eq_true c7
      have c7b1 : decide (x10_1 ≤ (wrap64 (x10_1 + 1))) = true := decide_eq_true c7
      by_cases c8 : (wrap64 (x10_1 + 1)) ≤ (t118.size : Int)
      ·
       rw [if_pos c8] at H
       have c8b0 := eq_true c8
       have c8b1 : decide ((wrap64 (x10_1 + 1)) ≤ (t118.size : Int)) = true := decide_eq_true c8
       by_cases c9 : x9_1.size + (t118.extract (x10_1 : Int).toNat ((wrap64 (x10_1 + 1)) : Int).toNat).size ≤ 9223372036854775807
       ·
        rw [if_pos c9] at H
        have c9b0 := eq_true c9
        have c9b1 : decide (x9_1.size + (t118.extract (x10_1 : Int).toNat ((wrap64 (x10_1 + 1)) : Int).toNat).size ≤ 9223372036854775807) = true := decide_eq_true c9
        try have c9b2 : (9223372036854775807 < x9_1.size + (t118.extract (x10_1 : Int).toNat ((wrap64 (x10_1 + 1)) : Int).toNat).size) = False := eq_false (Nat.not_lt.2 c9)
        replace H := Option.bind_eq_some_iff.mp H
        obtain ⟨t120, A100, H⟩ := H
        replace H : (spec_WholeDiv.l1 k1 a0 a1 t118 t119 x8_1 t120 x10_1 0) = some (r1, r2) := H
        have A10 := Aside0.mk A100
        clear A100
        have H' := Aside0.mk H
        clear H
        go_wp2_with (first | ((with_reducible refine gate_callee (f := 37) rfl ?_); refine goesL_ (some 29) rfl rfl Tryz.func37 (by kernel_rfl) rfl #[.bool false, .string (x9_1 ++ (t118.extract (x10_1 : Int).toNat ((wrap64 (x10_1 + 1)) : Int).toNat))] rfl (by (try simp only [List.map_toArray, List.map_cons, List.map_nil]); first | done | rfl | (simp only [List.length_drop, List.length_take]; rfl)) ?_; (with_reducible refine (spec_signed.calls k1 false (x9_1 ++ (t118.extract (x10_1 : Int).toNat ((wrap64 (x10_1 + 1)) : Int).toNat)) t120 _ A10.out).mono ?_); rintro e w' ⟨rfl, ⟨nd, rfl⟩⟩; refine ⟨_, rfl, ?_⟩))
        go_loopg [9, 11] k1 (fun kq v9 v11 w' => ∃ (x9_2 : ByteArray) (x11_2 : Int), v9 = .string x9_2 ∧ v11 = .int .i64 x11_2 ∧ Aside0 (spec_WholeDiv.l1 kq a0 a1 t118 t119 x8_1 x9_2 x10_1 x11_2 = some (r1, r2)) ∧ Aside0 (kq ≤ k1) ∧ Aside0 (Below w.heap.size w w'))
        case atStart => exact ⟨(t120), (0), (by first | rfl | (simp; done) | (simp [*]; done)), (by first | rfl | (simp; done) | (simp [*]; done)), H', ⟨Nat.le_refl _⟩, ⟨by repeat (first | (with_reducible first | exact HB.out | apply below_alloc | apply pw_below_drewN | apply below_drew1) | exact HB.out)⟩⟩
        case round =>
         clear H'
         try clear c2
         try clear p2
         try clear c3
         try clear c5
         try clear c5b0
         try clear c6
         try clear c6b0
         try clear c6b1
         try clear p6
         try clear c7
         try clear c7b0
         try clear c7b1
         try clear c8
         try clear c8b0
         try clear c8b1
         try clear c9
         try clear c9b0
         try clear c9b1
         try clear c9b2
         try clear p2
         obtain ⟨x9_2, x11_2, rfl, rfl, HA, HK2, HB⟩ := hrel
         cases gk with
         | zero => exact absurd HA.out (by simp [spec_WholeDiv.l1])
         | succ k2 =>
          have H := HA.out
          clear HA
          simp only [spec_WholeDiv.l1] at H
          replace H := Option.bind_eq_some_iff.mp H
          obtain ⟨t121, A110, H⟩ := H
          replace H : (if t121 ≥ 0 then ((spec_less.f k2 x9_2 t119).bind fun t122 => (spec_WholeDiv.l1 k2 a0 a1 t118 t119 x8_1 t122 x10_1 (wrap64 (x11_2 + 1)))) else (if 0 ≤ x11_2 then (if x11_2 ≤ (wrap64 (x11_2 + 1)) then (if (wrap64 (x11_2 + 1)) ≤ 10 then (if x8_1.size + ((⟨#[48, 49, 50, 51, 52, 53, 54, 55, 56, 57]⟩ : ByteArray).extract (x11_2 : Int).toNat ((wrap64 (x11_2 + 1)) : Int).toNat).size ≤ 9223372036854775807 then (spec_WholeDiv.l0 k2 a0 a1 t118 t119 (x8_1 ++ ((⟨#[48, 49, 50, 51, 52, 53, 54, 55, 56, 57]⟩ : ByteArray).extract (x11_2 : Int).toNat ((wrap64 (x11_2 + 1)) : Int).toNat)) x9_2 (wrap64 (x10_1 + 1))) else (none)) else (none)) else (none)) else (none))) = some (r1, r2) := H
          have A11 := Aside0.mk A110
          clear A110
          by_cases c12 : t121 ≥ 0
          ·
           rw [if_pos c12] at H
           have c12b0 : decide (0 ≤ t121) = true := decide_eq_true c12
           clear c12
           replace H := Option.bind_eq_some_iff.mp H
           obtain ⟨t122, A130, H⟩ := H
           replace H : (spec_WholeDiv.l1 k2 a0 a1 t118 t119 x8_1 t122 x10_1 (wrap64 (x11_2 + 1))) = some (r1, r2) := H
           have A13 := Aside0.mk A130
           clear A130
           have H' := Aside0.mk H
           clear H
           go_wp2_with (first | ((with_reducible refine gate_callee (f := 39) rfl ?_); refine goesL_ (some 32) rfl rfl Tryz.func39 (by kernel_rfl) rfl #[.string x9_2, .string t119] rfl (by (try simp only [List.map_toArray, List.map_cons, List.map_nil]); first | done | rfl | (simp only [List.length_drop, List.length_take]; rfl)) ?_; (with_reducible refine (spec_more.calls x9_2 t119 t121 _ A11.out).mono ?_); rintro e w' ⟨rfl, ⟨nd, rfl⟩⟩; refine ⟨_, rfl, ?_⟩) | ((with_reducible refine gate_callee (f := 40) rfl ?_); refine goesL_ (some 36) rfl rfl Tryz.func40 (by kernel_rfl) rfl #[.string x9_2, .string t119] rfl (by (try simp only [List.map_toArray, List.map_cons, List.map_nil]); first | done | rfl | (simp only [List.length_drop, List.length_take]; rfl)) ?_; (with_reducible refine (spec_less.calls k2 x9_2 t119 t122 _ A13.out).mono ?_); rintro e w14 ⟨rfl, hb⟩; refine ⟨_, rfl, ?_⟩; have n0_ := Aside0.mk (below_step (by repeat (first | (with_reducible first | exact HB.out | apply below_alloc | apply pw_below_drewN | apply below_drew1) | exact HB.out)) hb); clear HB; have HB := n0_; clear n0_; (try clear hb); (try clear hb2); (try clear hk); (try clear hi)))
           go_roundg k2
           case measure => have := HK1.out; have := HK2.out; omega
           case rel => exact ⟨(t122), (wrap64 (x11_2 + 1)), (by first | rfl | (simp; done) | (simp [*]; done)), (by first | rfl | (simp; done) | (simp [*]; done)), H', ⟨by have := HK1.out; have := HK2.out; omega⟩, ⟨by repeat (first | (with_reducible first | exact HB.out | apply below_alloc | apply pw_below_drewN | apply below_drew1) | exact HB.out)⟩⟩
          ·
           rw [if_neg c12] at H
           have c12b0 : decide (0 ≤ t121) = false := decide_eq_false c12
           clear c12
           by_cases c15 : 0 ≤ x11_2
           ·
            rw [if_pos c15] at H
            have c15b0 := eq_true c15
            have c15b1 : decide (0 ≤ x11_2) = true := decide_eq_true c15
            clear c15
            by_cases c16 : x11_2 ≤ (wrap64 (x11_2 + 1))
            ·
             rw [if_pos c16] at H
             have c16b0 := eq_true c16
             have c16b1 : decide (x11_2 ≤ (wrap64 (x11_2 + 1))) = true := decide_eq_true c16
             by_cases c17 : (wrap64 (x11_2 + 1)) ≤ 10
             ·
              rw [if_pos c17] at H
              have c17b0 := eq_true c17
              have c17b1 : decide ((wrap64 (x11_2 + 1)) ≤ 10) = true := decide_eq_true c17
              by_cases c18 : x8_1.size + ((⟨#[48, 49, 50, 51, 52, 53, 54, 55, 56, 57]⟩ : ByteArray).extract (x11_2 : Int).toNat ((wrap64 (x11_2 + 1)) : Int).toNat).size ≤ 9223372036854775807
              ·
               rw [if_pos c18] at H
               have c18b0 := eq_true c18
               have c18b1 : decide (x8_1.size + ((⟨#[48, 49, 50, 51, 52, 53, 54, 55, 56, 57]⟩ : ByteArray).extract (x11_2 : Int).toNat ((wrap64 (x11_2 + 1)) : Int).toNat).size ≤ 9223372036854775807) = true := decide_eq_true c18
               try have c18b2 : (9223372036854775807 < x8_1.size + ((⟨#[48, 49, 50, 51, 52, 53, 54, 55, 56, 57]⟩ : ByteArray).extract (x11_2 : Int).toNat ((wrap64 (x11_2 + 1)) : Int).toNat).size) = False := eq_false (Nat.not_lt.2 c18)
               have H' := Aside0.mk H
               clear H
               go_wp2_with (first | ((with_reducible refine gate_callee (f := 39) rfl ?_); refine goesL_ (some 32) rfl rfl Tryz.func39 (by kernel_rfl) rfl #[.string x9_2, .string t119] rfl (by (try simp only [List.map_toArray, List.map_cons, List.map_nil]); first | done | rfl | (simp only [List.length_drop, List.length_take]; rfl)) ?_; (with_reducible refine (spec_more.calls x9_2 t119 t121 _ A11.out).mono ?_); rintro e w' ⟨rfl, ⟨nd, rfl⟩⟩; refine ⟨_, rfl, ?_⟩))
               go_roundg k2
               case measure => have := HK1.out; have := HK2.out; omega
               case rel => exact ⟨(x8_1 ++ ((⟨#[48, 49, 50, 51, 52, 53, 54, 55, 56, 57]⟩ : ByteArray).extract (x11_2 : Int).toNat ((wrap64 (x11_2 + 1)) : Int).toNat)), (x9_2), (wrap64 (x10_1 + 1)), (by first | rfl | (simp; done) | (simp [*]; done)), (by first | rfl | (simp; done) | (simp [*]; done)), (by first | rfl | (simp; done) | (simp [*]; done)), H', ⟨by have := HK1.out; have := HK2.out; omega⟩, ⟨by repeat (first | (with_reducible first | exact HB.out | apply below_alloc | apply pw_below_drewN | apply below_drew1) | exact HB.out)⟩⟩
              ·
               rw [if_neg c18] at H
               exact absurd H (by simp)
             ·
              rw [if_neg c17] at H
              exact absurd H (by simp)
            ·
             rw [if_neg c16] at H
             exact absurd H (by simp)
           ·
            rw [if_neg c15] at H
            exact absurd H (by simp)
       ·
        rw [if_neg c9] at H
        exact absurd H (by simp)
      ·
       rw [if_neg c8] at H
       exact absurd H (by simp)
     ·
      rw [if_neg c7] at H
      exact absurd H (by simp)
    ·
     rw [if_neg c6] at H
     exact absurd H (by simp)
   ·
    rw [if_neg c5] at H
    have c5b0 : decide (x10_1 < (t118.size : Int)) = false := decide_eq_false c5
    clear c5
    replace H := Option.bind_eq_some_iff.mp H
    obtain ⟨t123, A190, H⟩ := H
    replace H : ((spec_below.f a1).bind fun t124 => ((spec_signed.f k1 (t123 != t124) x8_1).bind fun t125 => ((spec_below.f a0).bind fun t126 => ((spec_signed.f k1 t126 x9_1).bind fun t127 => (some (t125, t127)))))) = some (r1, r2) := H
    have A19 := Aside0.mk A190
    clear A190
    replace H := Option.bind_eq_some_iff.mp H
    obtain ⟨t124, A200, H⟩ := H
    replace H : ((spec_signed.f k1 (t123 != t124) x8_1).bind fun t125 => ((spec_below.f a0).bind fun t126 => ((spec_signed.f k1 t126 x9_1).bind fun t127 => (some (t125, t127))))) = some (r1, r2) := H
    have A20 := Aside0.mk A200
    clear A200
    replace H := Option.bind_eq_some_iff.mp H
    obtain ⟨t125, A210, H⟩ := H
    replace H : ((spec_below.f a0).bind fun t126 => ((spec_signed.f k1 t126 x9_1).bind fun t127 => (some (t125, t127)))) = some (r1, r2) := H
    have A21 := Aside0.mk A210
    clear A210
    replace H := Option.bind_eq_some_iff.mp H
    obtain ⟨t126, A220, H⟩ := H
    replace H : ((spec_signed.f k1 t126 x9_1).bind fun t127 => (some (t125, t127))) = some (r1, r2) := H
    have A22 := Aside0.mk A220
    clear A220
    replace H := Option.bind_eq_some_iff.mp H
    obtain ⟨t127, A230, H⟩ := H
    replace H : (some (t125, t127)) = some (r1, r2) := H
    have A23 := Aside0.mk A230
    clear A230
    simp only [Option.some.injEq, Prod.mk.injEq] at H
    obtain ⟨rfl, rfl⟩ := H
    go_wp2_with (first | ((with_reducible refine gate_callee (f := 36) rfl ?_); refine goesL_ (some 46) rfl rfl Tryz.func36 (by kernel_rfl) rfl #[.string a0] rfl (by (try simp only [List.map_toArray, List.map_cons, List.map_nil]); first | done | rfl | (simp only [List.length_drop, List.length_take]; rfl)) ?_; (with_reducible refine (spec_below.calls a0 t123 _ A19.out).mono ?_); rintro e w' ⟨rfl, ⟨nd, rfl⟩⟩; refine ⟨_, rfl, ?_⟩) | ((with_reducible refine gate_callee (f := 36) rfl ?_); refine goesL_ (some 48) rfl rfl Tryz.func36 (by kernel_rfl) rfl #[.string a1] rfl (by (try simp only [List.map_toArray, List.map_cons, List.map_nil]); first | done | rfl | (simp only [List.length_drop, List.length_take]; rfl)) ?_; (with_reducible refine (spec_below.calls a1 t124 _ A20.out).mono ?_); rintro e w' ⟨rfl, ⟨nd, rfl⟩⟩; refine ⟨_, rfl, ?_⟩) | ((with_reducible refine gate_callee (f := 37) rfl ?_); refine goesL_ (some 51) rfl rfl Tryz.func37 (by kernel_rfl) rfl #[.bool (t123 != t124), .string x8_1] rfl (by (try simp only [List.map_toArray, List.map_cons, List.map_nil]); first | done | rfl | (simp only [List.length_drop, List.length_take]; rfl)) ?_; (with_reducible refine (spec_signed.calls k1 (t123 != t124) x8_1 t125 _ A21.out).mono ?_); rintro e w' ⟨rfl, ⟨nd, rfl⟩⟩; refine ⟨_, rfl, ?_⟩) | ((with_reducible refine gate_callee (f := 36) rfl ?_); refine goesL_ (some 53) rfl rfl Tryz.func36 (by kernel_rfl) rfl #[.string a0] rfl (by (try simp only [List.map_toArray, List.map_cons, List.map_nil]); first | done | rfl | (simp only [List.length_drop, List.length_take]; rfl)) ?_; (with_reducible refine (spec_below.calls a0 t126 _ A22.out).mono ?_); rintro e w' ⟨rfl, ⟨nd, rfl⟩⟩; refine ⟨_, rfl, ?_⟩) | ((with_reducible refine gate_callee (f := 37) rfl ?_); refine goesL_ (some 55) rfl rfl Tryz.func37 (by kernel_rfl) rfl #[.bool t126, .string x9_1] rfl (by (try simp only [List.map_toArray, List.map_cons, List.map_nil]); first | done | rfl | (simp only [List.length_drop, List.length_take]; rfl)) ?_; (with_reducible refine (spec_signed.calls k1 t126 x9_1 t127 _ A23.out).mono ?_); rintro e w' ⟨rfl, ⟨nd, rfl⟩⟩; refine ⟨_, rfl, ?_⟩))
    go_ret2
    exact ⟨by first | rfl | (simp [errW_none, errW_some] <;> rfl) | (simp [*, errW_none, errW_some] <;> rfl), by repeat (first | (with_reducible first | exact HB.out | apply below_alloc | apply pw_below_drewN | apply below_drew1) | exact HB.out)⟩

end Go.Proofs.YtaiidipcmnejoaaGreatDoor.PWholeDiv
