import Derived.Test.YtaiidipcmnejoaaGreatDoorPWholeMulx0
namespace Go.Proofs.YtaiidipcmnejoaaGreatDoor.PWholeMul
open Go.RowKit Go.Proofs.YtaiidipcmnejoaaGreatDoorW.PrintWords Go.Proofs.YtaiidipcmnejoaaGreatDoorW.PrintLast Go.Proofs.YtaiidipcmnejoaaGreatDoorW.PrintMore
attribute [local go_sem] max2_int min2_int max_two min_two max_three min_three max_four min_four   -- for this text's walks alone
set_option linter.unusedVariables false
set_option linter.unusedSimpArgs false

/-! ### spec_below: function 36 -/
def spec_below.f (a0 : ByteArray) : Option (Bool) := if (a0.size : Int) > 0 then (if 0 < (a0.size : Int) then (some ((bt a0 0) == 45)) else (none)) else (some false)
set_option maxHeartbeats 8000000 in
set_option maxRecDepth 100000 in
theorem spec_below.calls (a0 : ByteArray) (r : Bool) (w : World) (h : spec_below.f a0 = some r) :
    Calls Tryz.prog 36 #[.string a0] w fun e w' => e = .returned (.bool r) ∧ Drawn0 w w' := by
  have H : (if (a0.size : Int) > 0 then (if 0 < (a0.size : Int) then (some ((bt a0 0) == 45)) else (none)) else (some false)) = some r := h
  clear h
  by_cases c2 : (a0.size : Int) > 0
  · rw [if_pos c2] at H
    have c2b0 : decide (0 < (a0.size : Int)) = true := decide_eq_true c2
    have c2b1 : decide (0 < a0.size) = true := decide_eq_true (by omega)
    clear c2
    by_cases c3 : 0 < (a0.size : Int)
    · rw [if_pos c3] at H
      have c3b0 : decide (0 < (a0.size : Int)) = true := decide_eq_true c3
      have c3b1 : decide (0 < a0.size) = true := decide_eq_true (by omega)
      clear c3
      obtain rfl := Option.some.inj H
      have p4 : 0 ≤ (0 : Int) := (by omega)
      have q4 : 0 < a0.size := (by have : (0 : Int) < (a0.size : Int) := of_decide_eq_true (by first | (with_reducible assumption) | assumption); omega)
      have hx4 : ∀ h : 0 < a0.size, ((a0[0]'h).toNat : Int) = bt a0 0 := bt_at a0 0
      clear p4
      have qi4 : (0 < (a0.size : Int)) = True := eq_true (of_decide_eq_true (by first | (with_reducible assumption) | assumption))
      replace q4 := eq_true q4
      go_enter Tryz.func36, Tryz.ntmps36
      go_wp2
      go_ret
      exact ⟨by first | rfl | (simp; done) | (simp [*]; done), by repeat (first | exact Drawn0.refl _ | apply Drawn0.step)⟩
    · rw [if_neg c3] at H
      exact absurd H (by simp)
  · rw [if_neg c2] at H
    have c2b0 : decide (0 < (a0.size : Int)) = false := decide_eq_false c2
    have c2b1 : decide (0 < a0.size) = false := decide_eq_false (by omega)
    clear c2
    obtain rfl := Option.some.inj H
    go_enter Tryz.func36, Tryz.ntmps36
    go_wp2
    go_ret
    exact ⟨by first | rfl | (simp; done) | (simp [*]; done), by repeat (first | exact Drawn0.refl _ | apply Drawn0.step)⟩

/-! ### spec_digitsOf: function 35 -/
def spec_digitsOf.f (a0 : ByteArray) : Option (ByteArray) := (spec_below.f a0).bind fun t101 => (if t101 = true then (if 1 ≤ (a0.size : Int) then (some (a0.extract 1 a0.size)) else (none)) else (some a0))
set_option maxHeartbeats 8000000 in
set_option maxRecDepth 100000 in
theorem spec_digitsOf.calls (a0 : ByteArray) (r : ByteArray) (w : World) (h : spec_digitsOf.f a0 = some r) :
    Calls Tryz.prog 35 #[.string a0] w fun e w' => e = .returned (.string r) ∧ Drawn0 w w' := by
  have H : ((spec_below.f a0).bind fun t101 => (if t101 = true then (if 1 ≤ (a0.size : Int) then (some (a0.extract 1 a0.size)) else (none)) else (some a0))) = some r := h
  clear h
  replace H := Option.bind_eq_some_iff.mp H
  obtain ⟨t101, A20, H⟩ := H
  replace H : (if t101 = true then (if 1 ≤ (a0.size : Int) then (some (a0.extract 1 a0.size)) else (none)) else (some a0)) = some r := H
  have A2 := Aside0.mk A20
  clear A20
  by_cases c3 : t101 = true
  · subst c3
    have H1 : (if 1 ≤ (a0.size : Int) then (some (a0.extract 1 a0.size)) else (none)) = some r := by rw [if_pos rfl] at H; exact H
    clear H
    have H := H1
    clear H1
    by_cases c4 : 1 ≤ (a0.size : Int)
    · rw [if_pos c4] at H
      have c4b0 := eq_true c4
      have c4b1 : decide (1 ≤ (a0.size : Int)) = true := decide_eq_true c4
      clear c4
      obtain rfl := Option.some.inj H
      go_enter Tryz.func35, Tryz.ntmps35
      go_wp2_with (first | ((with_reducible refine gate_callee (f := 36) rfl ?_); refine goesL_ (some 4) rfl rfl Tryz.func36 (by kernel_rfl) rfl #[.string a0] rfl (by (try simp only [List.map_toArray, List.map_cons, List.map_nil]); first | done | rfl | (simp only [List.length_drop, List.length_take]; rfl)) ?_; (with_reducible refine (spec_below.calls a0 true _ A2.out).mono ?_); rintro e w' ⟨rfl, ⟨nd, rfl⟩⟩; refine ⟨_, rfl, ?_⟩))
      go_ret
      exact ⟨by first | rfl | (simp; done) | (simp [*]; done), by repeat (first | exact Drawn0.refl _ | apply Drawn0.step)⟩
    · rw [if_neg c4] at H
      exact absurd H (by simp)
  · replace c3 := Bool.eq_false_iff.mpr c3
    subst c3
    have H1 : (some a0) = some r := by rw [if_neg (show ¬ (false = true) by decide)] at H; exact H
    clear H
    have H := H1
    clear H1
    obtain rfl := Option.some.inj H
    go_enter Tryz.func35, Tryz.ntmps35
    go_wp2_with (first | ((with_reducible refine gate_callee (f := 36) rfl ?_); refine goesL_ (some 4) rfl rfl Tryz.func36 (by kernel_rfl) rfl #[.string a0] rfl (by (try simp only [List.map_toArray, List.map_cons, List.map_nil]); first | done | rfl | (simp only [List.length_drop, List.length_take]; rfl)) ?_; (with_reducible refine (spec_below.calls a0 false _ A2.out).mono ?_); rintro e w' ⟨rfl, ⟨nd, rfl⟩⟩; refine ⟨_, rfl, ?_⟩))
    go_ret
    exact ⟨by first | rfl | (simp; done) | (simp [*]; done), by repeat (first | exact Drawn0.refl _ | apply Drawn0.step)⟩

/-! ### spec_signed: function 37 -/
def spec_signed.l0 : Nat → Bool → ByteArray → Option (ByteArray)
  | 0, _, _ => none
  | k + 1, x0, x1 => if (x1.size : Int) > 1 then (if 0 < (x1.size : Int) then (if (bt x1 0) = 48 then (if 1 ≤ (x1.size : Int) then (spec_signed.l0 k x0 (x1.extract 1 x1.size)) else (none)) else (if x0 = true then (if x1.toList = ([48] : List UInt8) then (some x1) else (if 1 + x1.size ≤ 9223372036854775807 then (some ((⟨#[45]⟩ : ByteArray) ++ x1)) else (none))) else (some x1))) else (none)) else (if x0 = true then (if x1.toList = ([48] : List UInt8) then (some x1) else (if 1 + x1.size ≤ 9223372036854775807 then (some ((⟨#[45]⟩ : ByteArray) ++ x1)) else (none))) else (some x1))
def spec_signed.f (k : Nat) (a0 : Bool) (a1 : ByteArray) : Option (ByteArray) := spec_signed.l0 k a0 a1
theorem spec_signed.mono_l : ∀ k, (∀ y0 y1, LeO (spec_signed.l0 k y0 y1) (spec_signed.l0 (k + 1) y0 y1))
  | 0 => fun _ _ r h => by simp [spec_signed.l0] at h
  | k + 1 => by
    have ih0 := spec_signed.mono_l k
    · intro y0 y1
      unfold spec_signed.l0
      repeat' first
      | (with_reducible exact ih0 _ _)
      | (with_reducible exact LeO.refl _)
      | (with_reducible exact LeO.none _)
      | (with_reducible refine LeO.ite ?_ ?_)
      | (with_reducible refine LeO.bind ?_ (fun _ => ?_))
      | exact ih0 _ _
      | exact LeO.none _
      | refine LeO.ite ?_ ?_
      | refine LeO.bind ?_ (fun _ => ?_)
theorem spec_signed.mono : ∀ a0 a1 k, LeO (spec_signed.f k a0 a1) (spec_signed.f (k + 1) a0 a1) := by
  intro a0 a1 k
  have ih0 := spec_signed.mono_l k
  unfold spec_signed.f
  repeat' first
      | (with_reducible exact ih0 _ _)
      | (with_reducible exact LeO.refl _)
      | (with_reducible exact LeO.none _)
      | (with_reducible refine LeO.ite ?_ ?_)
      | (with_reducible refine LeO.bind ?_ (fun _ => ?_))
      | exact ih0 _ _
      | exact LeO.none _
      | refine LeO.ite ?_ ?_
      | refine LeO.bind ?_ (fun _ => ?_)
set_option maxHeartbeats 8000000 in
set_option maxRecDepth 100000 in
theorem spec_signed.calls (k : Nat) (a0 : Bool) (a1 : ByteArray) (r : ByteArray) (w : World) (h : spec_signed.f k a0 a1 = some r) :
    Calls Tryz.prog 37 #[.bool a0, .string a1] w fun e w' => e = .returned (.string r) ∧ Drawn0 w w' := by
  have H : (spec_signed.l0 k a0 a1) = some r := h
  clear h
  have H' := Aside0.mk H
  clear H
  go_enter Tryz.func37, Tryz.ntmps37
  go_wp2
  go_loopg [1] k (fun kq v1 w' => ∃ (x1_1 : ByteArray), v1 = .string x1_1 ∧ Aside0 (spec_signed.l0 kq a0 x1_1 = some r) ∧ Aside0 (kq ≤ k) ∧ Drawn0 w w')
  case atStart => exact ⟨(a1), (by first | rfl | (simp; done) | (simp [*]; done)), H', ⟨Nat.le_refl _⟩, by repeat (first | exact Drawn0.refl _ | apply Drawn0.step)⟩
  case round =>
    clear H'
    try clear p2
    obtain ⟨x1_1, rfl, HA, HK1, ⟨m1, rfl⟩⟩ := hrel
    cases gk with
    | zero => exact absurd HA.out (by simp [spec_signed.l0])
    | succ k1 =>
      have H := HA.out
      clear HA
      simp only [spec_signed.l0] at H
      by_cases c3 : (x1_1.size : Int) > 1
      · rw [if_pos c3] at H
        have c3b0 : decide (1 < (x1_1.size : Int)) = true := decide_eq_true c3
        have c3b1 : decide (1 < x1_1.size) = true := decide_eq_true (by omega)
        clear c3
        by_cases c4 : 0 < (x1_1.size : Int)
        · rw [if_pos c4] at H
          have c4b0 : decide (0 < (x1_1.size : Int)) = true := decide_eq_true c4
          have c4b1 : decide (0 < x1_1.size) = true := decide_eq_true (by omega)
          clear c4
          by_cases c6 : (bt x1_1 0) = 48
          · rw [if_pos c6] at H
            have c6b0 : ((bt x1_1 0) == 48) = true := beq_iff_eq.mpr c6
            have c6b1 : ((bt x1_1 0) != 48) = false := bne_eq_false_iff_eq.mpr c6
            clear c6
            by_cases c7 : 1 ≤ (x1_1.size : Int)
            · rw [if_pos c7] at H
              have c7b0 := eq_true c7
              have c7b1 : decide (1 ≤ (x1_1.size : Int)) = true := decide_eq_true c7
              clear c7
              have H' := Aside0.mk H
              clear H
              have p5 : 0 ≤ (0 : Int) := (by omega)
              have q5 : 0 < x1_1.size := (by have : (0 : Int) < (x1_1.size : Int) := of_decide_eq_true (by first | (with_reducible assumption) | assumption); omega)
              have hx5 : ∀ h : 0 < x1_1.size, ((x1_1[0]'h).toNat : Int) = bt x1_1 0 := bt_at x1_1 0
              clear p5
              have qi5 : (0 < (x1_1.size : Int)) = True := eq_true (of_decide_eq_true (by first | (with_reducible assumption) | assumption))
              replace q5 := eq_true q5
              go_wp2
              go_roundg k1
              case measure => have := HK1.out; omega
              case rel => exact ⟨(x1_1.extract 1 x1_1.size), (by first | rfl | (simp; done) | (simp [*]; done)), H', ⟨by have := HK1.out; omega⟩, by repeat (first | exact Drawn0.refl _ | apply Drawn0.step)⟩
            · rw [if_neg c7] at H
              exact absurd H (by simp)
          · rw [if_neg c6] at H
            have c6b0 : ((bt x1_1 0) == 48) = false := beq_eq_false_iff_ne.mpr c6
            have c6b1 : ((bt x1_1 0) != 48) = true := bne_iff_ne.mpr c6
            by_cases c8 : a0 = true
            · subst c8
              have H1 : (if x1_1.toList = ([48] : List UInt8) then (some x1_1) else (if 1 + x1_1.size ≤ 9223372036854775807 then (some ((⟨#[45]⟩ : ByteArray) ++ x1_1)) else (none))) = some r := by rw [if_pos rfl] at H; exact H
              clear H
              have H := H1
              clear H1
              by_cases c9 : x1_1.toList = ([48] : List UInt8)
              · rw [if_pos c9] at H
                have c9b0 : (x1_1.toList == ([48] : List UInt8)) = true := beq_iff_eq.mpr c9
                have c9b1 : (x1_1.toList != ([48] : List UInt8)) = false := bne_eq_false_iff_eq.mpr c9
                clear c9
                obtain rfl := Option.some.inj H
                have p5 : 0 ≤ (0 : Int) := (by omega)
                have q5 : 0 < x1_1.size := (by have : (0 : Int) < (x1_1.size : Int) := of_decide_eq_true (by first | (with_reducible assumption) | assumption); omega)
                have hx5 : ∀ h : 0 < x1_1.size, ((x1_1[0]'h).toNat : Int) = bt x1_1 0 := bt_at x1_1 0
                clear p5
                have qi5 : (0 < (x1_1.size : Int)) = True := eq_true (of_decide_eq_true (by first | (with_reducible assumption) | assumption))
                replace q5 := eq_true q5
                go_wp2
                go_ret
                exact ⟨by first | rfl | (simp; done) | (simp [*]; done), by repeat (first | exact Drawn0.refl _ | apply Drawn0.step)⟩
              · rw [if_neg c9] at H
                have c9b0 : (x1_1.toList == ([48] : List UInt8)) = false := beq_eq_false_iff_ne.mpr c9
                have c9b1 : (x1_1.toList != ([48] : List UInt8)) = true := bne_iff_ne.mpr c9
                by_cases c10 : 1 + x1_1.size ≤ 9223372036854775807
                · rw [if_pos c10] at H
                  have c10b0 := eq_true c10
                  have c10b1 : decide (1 + x1_1.size ≤ 9223372036854775807) = true := decide_eq_true c10
                  try have c10b2 : (9223372036854775807 < 1 + x1_1.size) = False := eq_false (Nat.not_lt.2 c10)
                  obtain rfl := Option.some.inj H
                  have p5 : 0 ≤ (0 : Int) := (by omega)
                  have q5 : 0 < x1_1.size := (by have : (0 : Int) < (x1_1.size : Int) := of_decide_eq_true (by first | (with_reducible assumption) | assumption); omega)
                  have hx5 : ∀ h : 0 < x1_1.size, ((x1_1[0]'h).toNat : Int) = bt x1_1 0 := bt_at x1_1 0
                  clear p5
                  have qi5 : (0 < (x1_1.size : Int)) = True := eq_true (of_decide_eq_true (by first | (with_reducible assumption) | assumption))
                  replace q5 := eq_true q5
                  go_wp2
                  go_ret
                  exact ⟨by first | rfl | (simp; done) | (simp [*]; done), by repeat (first | exact Drawn0.refl _ | apply Drawn0.step)⟩
                · rw [if_neg c10] at H
                  exact absurd H (by simp)
            · replace c8 := Bool.eq_false_iff.mpr c8
              subst c8
              have H1 : (some x1_1) = some r := by rw [if_neg (show ¬ (false = true) by decide)] at H; exact H
              clear H
              have H := H1
              clear H1
              obtain rfl := Option.some.inj H
              have p5 : 0 ≤ (0 : Int) := (by omega)
              have q5 : 0 < x1_1.size := (by have : (0 : Int) < (x1_1.size : Int) := of_decide_eq_true (by first | (with_reducible assumption) | assumption); omega)
              have hx5 : ∀ h : 0 < x1_1.size, ((x1_1[0]'h).toNat : Int) = bt x1_1 0 := bt_at x1_1 0
              clear p5
              have qi5 : (0 < (x1_1.size : Int)) = True := eq_true (of_decide_eq_true (by first | (with_reducible assumption) | assumption))
              replace q5 := eq_true q5
              go_wp2
              go_ret
              exact ⟨by first | rfl | (simp; done) | (simp [*]; done), by repeat (first | exact Drawn0.refl _ | apply Drawn0.step)⟩
        · rw [if_neg c4] at H
          exact absurd H (by simp)
      · rw [if_neg c3] at H
        have c3b0 : decide (1 < (x1_1.size : Int)) = false := decide_eq_false c3
        have c3b1 : decide (1 < x1_1.size) = false := decide_eq_false (by omega)
        clear c3
        by_cases c11 : a0 = true
        · subst c11
          have H1 : (if x1_1.toList = ([48] : List UInt8) then (some x1_1) else (if 1 + x1_1.size ≤ 9223372036854775807 then (some ((⟨#[45]⟩ : ByteArray) ++ x1_1)) else (none))) = some r := by rw [if_pos rfl] at H; exact H
          clear H
          have H := H1
          clear H1
          by_cases c12 : x1_1.toList = ([48] : List UInt8)
          · rw [if_pos c12] at H
            have c12b0 : (x1_1.toList == ([48] : List UInt8)) = true := beq_iff_eq.mpr c12
            have c12b1 : (x1_1.toList != ([48] : List UInt8)) = false := bne_eq_false_iff_eq.mpr c12
            clear c12
            obtain rfl := Option.some.inj H
            go_wp2
            go_ret
            exact ⟨by first | rfl | (simp; done) | (simp [*]; done), by repeat (first | exact Drawn0.refl _ | apply Drawn0.step)⟩
          · rw [if_neg c12] at H
            have c12b0 : (x1_1.toList == ([48] : List UInt8)) = false := beq_eq_false_iff_ne.mpr c12
            have c12b1 : (x1_1.toList != ([48] : List UInt8)) = true := bne_iff_ne.mpr c12
            by_cases c13 : 1 + x1_1.size ≤ 9223372036854775807
            · rw [if_pos c13] at H
              have c13b0 := eq_true c13
              have c13b1 : decide (1 + x1_1.size ≤ 9223372036854775807) = true := decide_eq_true c13
              try have c13b2 : (9223372036854775807 < 1 + x1_1.size) = False := eq_false (Nat.not_lt.2 c13)
              obtain rfl := Option.some.inj H
              go_wp2
              go_ret
              exact ⟨by first | rfl | (simp; done) | (simp [*]; done), by repeat (first | exact Drawn0.refl _ | apply Drawn0.step)⟩
            · rw [if_neg c13] at H
              exact absurd H (by simp)
        · replace c11 := Bool.eq_false_iff.mpr c11
          subst c11
          have H1 : (some x1_1) = some r := by rw [if_neg (show ¬ (false = true) by decide)] at H; exact H
          clear H
          have H := H1
          clear H1
          obtain rfl := Option.some.inj H
          go_wp2
          go_ret
          exact ⟨by first | rfl | (simp; done) | (simp [*]; done), by repeat (first | exact Drawn0.refl _ | apply Drawn0.step)⟩

/-! ### spec_digitAt: function 43 -/
def spec_digitAt.f (a0 : ByteArray) (a1 : Int) : Option (Int) := if a1 ≥ (a0.size : Int) then (some 0) else (if 0 ≤ (wrap64 ((wrap64 ((a0.size : Int) - 1)) - a1)) then (if (wrap64 ((wrap64 ((a0.size : Int) - 1)) - a1)) < (a0.size : Int) then (some (((bt a0 (wrap64 ((wrap64 ((a0.size : Int) - 1)) - a1))) - 48) % 256)) else (none)) else (none))
set_option maxHeartbeats 8000000 in
set_option maxRecDepth 100000 in
theorem spec_digitAt.calls (a0 : ByteArray) (a1 : Int) (r : Int) (w : World) (h : spec_digitAt.f a0 a1 = some r) :
    Calls Tryz.prog 43 #[.string a0, .int .i64 a1] w fun e w' => e = .returned (.int .i64 r) ∧ Drawn0 w w' := by
  have H : (if a1 ≥ (a0.size : Int) then (some 0) else (if 0 ≤ (wrap64 ((wrap64 ((a0.size : Int) - 1)) - a1)) then (if (wrap64 ((wrap64 ((a0.size : Int) - 1)) - a1)) < (a0.size : Int) then (some (((bt a0 (wrap64 ((wrap64 ((a0.size : Int) - 1)) - a1))) - 48) % 256)) else (none)) else (none))) = some r := h
  clear h
  by_cases c3 : a1 ≥ (a0.size : Int)
  · rw [if_pos c3] at H
    have c3b0 : decide ((a0.size : Int) ≤ a1) = true := decide_eq_true c3
    clear c3
    obtain rfl := Option.some.inj H
    go_enter Tryz.func43, Tryz.ntmps43
    go_wp2
    go_ret
    exact ⟨by first | rfl | (simp; done) | (simp [*]; done), by repeat (first | exact Drawn0.refl _ | apply Drawn0.step)⟩
  · rw [if_neg c3] at H
    have c3b0 : decide ((a0.size : Int) ≤ a1) = false := decide_eq_false c3
    clear c3
    obtain ⟨ji4, hji4⟩ : ∃ j_ : Int, (wrap64 ((wrap64 ((a0.size : Int) - 1)) - a1)) = j_ := ⟨_, rfl⟩
    replace H : (if 0 ≤ (ji4) then (if (ji4) < (a0.size : Int) then (some (((bt a0 (ji4)) - 48) % 256)) else (none)) else (none)) = some r := by first | (rw [hji4] at H; exact H) | (simp only [hji4] at H ⊢; exact H)
    have hji4w : (IntKind.i64.wrap ((wrap64 ((a0.size : Int) - 1)) - a1)) = ji4 := (i64_w _).trans hji4
    by_cases c5 : 0 ≤ (ji4)
    · rw [if_pos c5] at H
      have c5b0 : decide (0 ≤ (ji4)) = true := decide_eq_true c5
      clear c5
      by_cases c6 : (ji4) < (a0.size : Int)
      · rw [if_pos c6] at H
        have c6b0 : decide ((ji4) < (a0.size : Int)) = true := decide_eq_true c6
        clear c6
        obtain rfl := Option.some.inj H
        have p7 : 0 ≤ ((ji4) : Int) := of_decide_eq_true (by first | (with_reducible assumption) | assumption)
        have q7 : (ji4) < (a0.size : Int) := of_decide_eq_true (by first | (with_reducible assumption) | assumption)
        have hx7 := bt_at a0 (ji4)
        replace p7 := eq_true p7
        replace q7 := eq_true q7
        go_enter Tryz.func43, Tryz.ntmps43
        go_wp2
        go_ret
        exact ⟨by first | rfl | (simp; done) | (simp only [← hji4] <;> (first | rfl | simp)) | (simp [*]; done), by repeat (first | exact Drawn0.refl _ | apply Drawn0.step)⟩
      · rw [if_neg c6] at H
        exact absurd H (by simp)
    · rw [if_neg c5] at H
      exact absurd H (by simp)

/-! ### spec_textOf: function 44 -/
def spec_textOf.l0 : Nat → List Int → List Int → List Int → Int → Int → Option (ByteArray)
  | 0, _, _, _, _, _ => none
  | k + 1, x0, x3, x9, x10, x11 => if x11 < x10 then (if 0 ≤ x11 then (if x11 < (x9.length : Int) then (if 0 ≤ (wrap64 ((wrap64 ((x0.length : Int) - 1)) - x11)) then (if (wrap64 ((wrap64 ((x0.length : Int) - 1)) - x11)) < (x3.length : Int) then (spec_textOf.l0 k x0 (x3.set ((wrap64 ((wrap64 ((x0.length : Int) - 1)) - x11)) : Int).toNat ((wrap64 (48 + (rd x9 x11))) % 256)) x9 x10 (wrap64 (x11 + 1))) else (none)) else (none)) else (none)) else (none)) else ((spec_signed.f k false (strOfNums x3)).bind fun t107 => (some t107))
def spec_textOf.f (k : Nat) (l0 : List Int) : Option (ByteArray) := if 0 ≤ (l0.length : Int) then (if ((l0.length : Int) : Int).toNat ≤ 281474976710656 then (spec_textOf.l0 k l0 (List.replicate ((l0.length : Int) : Int).toNat 0) l0 (l0.length : Int) 0) else (none)) else (none)
theorem spec_textOf.mono_l : ∀ k, (∀ y0 y1 y2 y3 y4, LeO (spec_textOf.l0 k y0 y1 y2 y3 y4) (spec_textOf.l0 (k + 1) y0 y1 y2 y3 y4))
  | 0 => fun _ _ _ _ _ r h => by simp [spec_textOf.l0] at h
  | k + 1 => by
    have ih0 := spec_textOf.mono_l k
    · intro y0 y1 y2 y3 y4
      unfold spec_textOf.l0
      repeat' first
      | (with_reducible exact ih0 _ _ _ _ _)
      | (with_reducible exact spec_signed.mono _ _ _)
      | (with_reducible exact LeO.refl _)
      | (with_reducible exact LeO.none _)
      | (with_reducible refine LeO.ite ?_ ?_)
      | (with_reducible refine LeO.bind ?_ (fun _ => ?_))
      | exact ih0 _ _ _ _ _
      | exact spec_signed.mono _ _ _
      | exact LeO.none _
      | refine LeO.ite ?_ ?_
      | refine LeO.bind ?_ (fun _ => ?_)
theorem spec_textOf.mono : ∀ a0 k, LeO (spec_textOf.f k a0) (spec_textOf.f (k + 1) a0) := by
  intro a0 k
  have ih0 := spec_textOf.mono_l k
  unfold spec_textOf.f
  repeat' first
      | (with_reducible exact ih0 _ _ _ _ _)
      | (with_reducible exact spec_signed.mono _ _ _)
      | (with_reducible exact LeO.refl _)
      | (with_reducible exact LeO.none _)
      | (with_reducible refine LeO.ite ?_ ?_)
      | (with_reducible refine LeO.bind ?_ (fun _ => ?_))
      | exact ih0 _ _ _ _ _
      | exact spec_signed.mono _ _ _
      | exact LeO.none _
      | refine LeO.ite ?_ ?_
      | refine LeO.bind ?_ (fun _ => ?_)
set_option maxHeartbeats 8000000 in
set_option maxRecDepth 100000 in
theorem spec_textOf.calls (k : Nat) (A0 : Option Addr) (c0 : Nat) (l0 : List Int) (r : ByteArray) (w : World) (hr0 : Kd.C (Kd.int .i64) w A0 l0.length l0) (hc0 : l0.length ≤ c0) (h : spec_textOf.f k l0 = some r) :
    Calls Tryz.prog 44 #[.slice A0 l0.length c0] w fun e w' => e = .returned (.string r) ∧ Below w.heap.size w w' := by
  have HR0 := Aside0.mk hr0
  have HC0 := Aside0.mk hc0
  clear hr0 hc0
  have HB := Aside0.mk (Below.refl w.heap.size w)
  have H : (if 0 ≤ (l0.length : Int) then (if ((l0.length : Int) : Int).toNat ≤ 281474976710656 then (spec_textOf.l0 k l0 (List.replicate ((l0.length : Int) : Int).toNat 0) l0 (l0.length : Int) 0) else (none)) else (none)) = some r := h
  clear h
  by_cases c2 : 0 ≤ (l0.length : Int)
  · rw [if_pos c2] at H
    have c2b0 := eq_true c2
    have c2b1 : decide (0 ≤ (l0.length : Int)) = true := decide_eq_true c2
    clear c2
    by_cases c3 : ((l0.length : Int) : Int).toNat ≤ 281474976710656
    · rw [if_pos c3] at H
      have c3b0 := eq_true c3
      have c3b1 : decide (((l0.length : Int) : Int).toNat ≤ 281474976710656) = true := decide_eq_true c3
      clear c3
      obtain ⟨y102, hy102⟩ : ∃ y_ : List Int, y_ = (List.replicate ((l0.length : Int) : Int).toNat 0) := ⟨_, rfl⟩
      replace H : (spec_textOf.l0 k l0 y102 l0 (l0.length : Int) 0) = some r := by first | (rw [hy102]; with_reducible exact H) | (have H2_ := (Option.bind_some _ _).symm.trans H; rw [hy102]; with_reducible exact H2_) | (have H2_ := (Option.bind_some _ _).symm.trans H; with_reducible exact H2_) | with_reducible exact H | (rw [hy102]; exact H) | exact H
      have Ny102 := Aside0.mk hy102
      clear hy102
      have H' := Aside0.mk H
      clear H
      go_enter Tryz.func44, Tryz.ntmps44
      go_wp2_with (first | ((with_reducible refine gate_dst (N := 8) rfl ?_); refine Kd.R_make (Kd.int .u8) _ 5 rfl (N := 8) rfl 49 _ _ rfl (l0.length : Int) rfl rfl Tryz.underlying49 (.int .u8 0) 1 info5 rfl (by decide) (by omega) 0 (ok := fun _ => True) (okp := fun _ => True) rfl (fun _ hk => hk) trivial (of_decide_eq_true (by first | (with_reducible assumption) | assumption)) (Nat.le_trans (Nat.mul_le_mul_right _ (of_decide_eq_true (by first | (with_reducible assumption) | assumption) : (l0.length : Int).toNat ≤ 281474976710656)) (by omega)) (Below.refl _ _) (Nat.le_refl _) ?_; intro v103 w4 ho5 hb hg_ hnew_; clear hg_ hnew_; (first | rw [← Ny102.out] at ho5 | (simp only [Int.reduceToNat] at ho5; rw [← Ny102.out] at ho5)); have n0_ := Aside0.mk (Kd.R_lower ho5 (below_size (by repeat (first | (with_reducible first | exact HB.out | apply below_alloc | apply pw_below_drewN | apply below_drew1) | exact HB.out)))); have n1_ := Aside0.mk (below_step (by repeat (first | (with_reducible first | exact HB.out | apply below_alloc | apply pw_below_drewN | apply below_drew1) | exact HB.out)) hb); clear HB; have HO104 := n0_; have HB := n1_; clear n0_ n1_; clear hb ho5))
      go_loopg [11] k (fun kq v11 w' => ∃ (x3_1 : List Int) (x11_1 : Int), v11 = .int .i64 x11_1 ∧ Aside0 (spec_textOf.l0 kq l0 x3_1 l0 (l0.length : Int) x11_1 = some r) ∧ Aside0 (kq ≤ k) ∧ Aside0 (Kd.R (Kd.int .u8) 5 w' w.heap.size (fun _ => True) v103 x3_1) ∧ Aside0 (Below w.heap.size w w'))
      case atStart => exact ⟨(y102), (0), (by first | rfl | (simp; done) | (simp [*]; done)), H', ⟨Nat.le_refl _⟩, ⟨by (with_reducible repeat (first | apply Kd.R_alloc | apply Kd.R_drewN | apply Kd.R_drew)); exact HO104.out⟩, ⟨by repeat (first | (with_reducible first | exact HB.out | apply below_alloc | apply pw_below_drewN | apply below_drew1) | exact HB.out)⟩⟩
      case round =>
        clear H'
        try clear c2
        try clear c2b0
        try clear c2b1
        try clear p2
        try clear c3
        try clear c3b0
        try clear c3b1
        try clear c4
        obtain ⟨x3_1, x11_1, rfl, HA, HK1, HO_3, HB⟩ := hrel
        cases gk with
        | zero => exact absurd HA.out (by simp [spec_textOf.l0])
        | succ k1 =>
          have H := HA.out
          clear HA
          simp only [spec_textOf.l0] at H
          by_cases c6 : x11_1 < (l0.length : Int)
          · rw [if_pos c6] at H
            have c6b0 : decide (x11_1 < (l0.length : Int)) = true := decide_eq_true c6
            clear c6
            by_cases c7 : 0 ≤ x11_1
            · rw [if_pos c7] at H
              have c7b0 : decide (0 ≤ x11_1) = true := decide_eq_true c7
              clear c7
              by_cases c8 : x11_1 < (l0.length : Int)
              · rw [if_pos c8] at H
                have c8b0 : decide (x11_1 < (l0.length : Int)) = true := decide_eq_true c8
                clear c8
                obtain ⟨ji9, hji9⟩ : ∃ j_ : Int, (wrap64 ((wrap64 ((l0.length : Int) - 1)) - x11_1)) = j_ := ⟨_, rfl⟩
                replace H : (if 0 ≤ (ji9) then (if (ji9) < (x3_1.length : Int) then (spec_textOf.l0 k1 l0 (x3_1.set ((ji9) : Int).toNat ((wrap64 (48 + (rd l0 x11_1))) % 256)) l0 (l0.length : Int) (wrap64 (x11_1 + 1))) else (none)) else (none)) = some r := by first | (rw [hji9] at H; exact H) | (simp only [hji9] at H ⊢; exact H)
                have hji9w : (IntKind.i64.wrap ((wrap64 ((l0.length : Int) - 1)) - x11_1)) = ji9 := (i64_w _).trans hji9
                by_cases c10 : 0 ≤ (ji9)
                · rw [if_pos c10] at H
                  have c10b0 : decide (0 ≤ (ji9)) = true := decide_eq_true c10
                  clear c10
                  by_cases c11 : (ji9) < (x3_1.length : Int)
                  · rw [if_pos c11] at H
                    have c11b0 : decide ((ji9) < (x3_1.length : Int)) = true := decide_eq_true c11
                    clear c11
                    obtain ⟨y106, hy106⟩ : ∃ y_ : List Int, y_ = (x3_1.set ((ji9) : Int).toNat ((wrap64 (48 + (rd l0 x11_1))) % 256)) := ⟨_, rfl⟩
                    replace H : (spec_textOf.l0 k1 l0 y106 l0 (l0.length : Int) (wrap64 (x11_1 + 1))) = some r := by first | (rw [hy106]; with_reducible exact H) | (have H2_ := (Option.bind_some _ _).symm.trans H; rw [hy106]; with_reducible exact H2_) | (have H2_ := (Option.bind_some _ _).symm.trans H; with_reducible exact H2_) | with_reducible exact H | (rw [hy106]; exact H) | exact H
                    have Ny106 := Aside0.mk hy106
                    clear hy106
                    have H' := Aside0.mk H
                    clear H
                    have p105 : 0 ≤ (x11_1 : Int) := of_decide_eq_true (by first | (with_reducible assumption) | assumption)
                    have q105 : x11_1 < (l0.length : Int) := of_decide_eq_true (by first | (with_reducible assumption) | assumption)
                    obtain ⟨ad105, e105, hx105_0⟩ := Kd.at_int HR0.out x11_1 p105 q105
                    cases e105
                    replace hx105_0 := (HB.out.cell (World.block_lt_of_cell? w _ hx105_0)).trans hx105_0
                    replace p105 := eq_true p105
                    replace q105 := eq_true q105
                    have p12 : 0 ≤ ((ji9) : Int) := of_decide_eq_true (by first | (with_reducible assumption) | assumption)
                    have q12 : ((ji9) : Int) < ((x3_1.length : Int) : Int) := of_decide_eq_true (by first | (with_reducible assumption) | assumption)
                    obtain ⟨go12, co12, eo12, gb12, gl12, cl12, HG12⟩ := Kd.R_form HO_3.out (by omega)
                    (first | cases eo12 | (injection eo12 with ea_ en_ ec_; (first | subst ea_ | (injection ea_ with ea_; subst ea_)); subst ec_; clear en_))
                    have GB12 := Aside0.mk gb12
                    have GG12 := Aside0.mk HG12
                    clear gb12 gl12 HG12
                    obtain ⟨hx12_0, hf12_0⟩ := Kd.R_celln 0 HO_3.out ((ji9) : Int) p12 q12
                    replace p12 := eq_true p12
                    replace q12 := eq_true q12
                    have HP13 := Kd.R_putg HO_3.out ((ji9) : Int) ((wrap64 (48 + (rd l0 x11_1))) % 256)
                    go_wp2_with (first | ((with_reducible refine gate_store (t := 5) (p := 25) rfl ?_); refine store_event (t := 5) (p := 25) (v := ?vo_w14) (w1 := (wr.setCell ⟨go12, ((ji9) : Int).toNat, none⟩ (.int .u8 ((wrap64 (48 + (rd l0 x11_1))) % 256)))) ?hg ?ho ?hn ?hr ?_; (case ho => rfl); (case hg => rfl); (case hn => rfl); (case hr => first | (go_simp; done) | (go_simp; rfl)); intro w14 hw; have hg : wr.grownBy w14 (some go12) := (by rw [hw]; exact HP13.2); have hp_ : Kd.R (Kd.int .u8) 5 w14 w.heap.size (fun _ => True) (.slice (some ⟨go12, 0, none⟩) x3_1.length co12) y106 := (by rw [hw, Ny106.out]; exact HP13.1); clear HP13; have n0_ := Aside0.mk (hp_); have n1_ := Aside0.mk ((by rw [hw]; exact below_set (HB.out) GB12.out : Below w.heap.size w w14)); clear HO_3; clear HB; have HO_3 := n0_; have HB := n1_; clear n0_ n1_; clear hg hw hp_))
                    go_roundg k1
                    case measure => have := HK1.out; omega
                    case rel => exact ⟨(y106), (wrap64 (x11_1 + 1)), (by first | rfl | (simp; done) | (simp [*]; done)), H', ⟨by have := HK1.out; omega⟩, ⟨by (with_reducible repeat (first | apply Kd.R_alloc | apply Kd.R_drewN | apply Kd.R_drew)); exact HO_3.out⟩, ⟨by repeat (first | (with_reducible first | exact HB.out | apply below_alloc | apply pw_below_drewN | apply below_drew1) | exact HB.out)⟩⟩
                  · rw [if_neg c11] at H
                    exact absurd H (by simp)
                · rw [if_neg c10] at H
                  exact absurd H (by simp)
              · rw [if_neg c8] at H
                exact absurd H (by simp)
            · rw [if_neg c7] at H
              exact absurd H (by simp)
          · rw [if_neg c6] at H
            have c6b0 : decide (x11_1 < (l0.length : Int)) = false := decide_eq_false c6
            clear c6
            replace H := Option.bind_eq_some_iff.mp H
            obtain ⟨t107, A150, H⟩ := H
            replace H : (some t107) = some r := H
            have A15 := Aside0.mk A150
            clear A150
            obtain rfl := Option.some.inj H
            have hcv16 := own_string (P := Tryz.prog) Tryz.underlying49 Tryz.underlying5 Tryz.underlying9 (Kd.own_of_R HO_3.out)
            go_wp2_with (first | ((with_reducible refine gate_callee (f := 37) rfl ?_); refine goesL_ (some 29) rfl rfl Tryz.func37 (by kernel_rfl) rfl #[.bool false, .string (strOfNums x3_1)] rfl (by (try simp only [List.map_toArray, List.map_cons, List.map_nil]); first | done | rfl | (simp only [List.length_drop, List.length_take]; rfl)) ?_; (with_reducible refine (spec_signed.calls k1 false (strOfNums x3_1) t107 _ A15.out).mono ?_); rintro e w' ⟨rfl, ⟨nd, rfl⟩⟩; refine ⟨_, rfl, ?_⟩))
            go_ret
            exact ⟨by first | rfl | (simp [errW_none, errW_some] <;> rfl) | (simp [*, errW_none, errW_some] <;> rfl), by repeat (first | (with_reducible first | exact HB.out | apply below_alloc | apply pw_below_drewN | apply below_drew1) | exact HB.out)⟩
    · rw [if_neg c3] at H
      exact absurd H (by simp)
  · rw [if_neg c2] at H
    exact absurd H (by simp)

/-! ### spec_WholeMul: function 22 -/
mutual
def spec_WholeMul.l0 : Nat → ByteArray → ByteArray → ByteArray → ByteArray → List Int → Int → Option (ByteArray)
  | 0, _, _, _, _, _, _ => none
  | k + 1, x0, x1, x5, x6, x7, x8 => if x8 < (x5.size : Int) then (spec_WholeMul.l1 k x0 x1 x5 x6 x7 x8 0 0) else ((spec_below.f x0).bind fun t117 => ((spec_below.f x1).bind fun t118 => ((spec_textOf.f k x7).bind fun t119 => ((spec_signed.f k (t117 != t118) t119).bind fun t120 => (some t120)))))
def spec_WholeMul.l1 : Nat → ByteArray → ByteArray → ByteArray → ByteArray → List Int → Int → Int → Int → Option (ByteArray)
  | 0, _, _, _, _, _, _, _, _ => none
  | k + 1, x0, x1, x5, x6, x7, x8, x9, x10 => if x10 < (x6.size : Int) then (spec_WholeMul.j2 k x0 x1 x5 x6 x7 x8 x9 x10 true) else (spec_WholeMul.j2 k x0 x1 x5 x6 x7 x8 x9 x10 (decide (x9 > 0)))
def spec_WholeMul.j2 : Nat → ByteArray → ByteArray → ByteArray → ByteArray → List Int → Int → Int → Int → Bool → Option (ByteArray)
  | 0, _, _, _, _, _, _, _, _, _ => none
  | k + 1, x0, x1, x5, x6, x7, x8, x9, x10, x36 => if x36 = true then (if 0 ≤ (wrap64 (x8 + x10)) then (if (wrap64 (x8 + x10)) < (x7.length : Int) then ((spec_digitAt.f x5 x8).bind fun t114 => ((spec_digitAt.f x6 x10).bind fun t115 => (spec_WholeMul.l1 k x0 x1 x5 x6 (x7.set ((wrap64 (x8 + x10)) : Int).toNat (Int.tmod (wrap64 ((wrap64 ((rd x7 (wrap64 (x8 + x10))) + (wrap64 (t114 * t115)))) + x9)) 10)) x8 (wrap64 (Int.tdiv (wrap64 ((wrap64 ((rd x7 (wrap64 (x8 + x10))) + (wrap64 (t114 * t115)))) + x9)) 10)) (wrap64 (x10 + 1))))) else (none)) else (none)) else (spec_WholeMul.l0 k x0 x1 x5 x6 x7 (wrap64 (x8 + 1)))
end
def spec_WholeMul.f (k : Nat) (a0 : ByteArray) (a1 : ByteArray) : Option (ByteArray) := (spec_digitsOf.f a0).bind fun t108 => ((spec_digitsOf.f a1).bind fun t109 => (if 0 ≤ (wrap64 ((wrap64 ((t108.size : Int) + (t109.size : Int))) + 1)) then (if (wrap64 ((wrap64 ((t108.size : Int) + (t109.size : Int))) + 1) : Int).toNat ≤ 35184372088832 then (spec_WholeMul.l0 k a0 a1 t108 t109 (List.replicate (wrap64 ((wrap64 ((t108.size : Int) + (t109.size : Int))) + 1) : Int).toNat 0) 0) else (none)) else (none)))
theorem spec_WholeMul.mono_l : ∀ k, (∀ y0 y1 y2 y3 y4 y5, LeO (spec_WholeMul.l0 k y0 y1 y2 y3 y4 y5) (spec_WholeMul.l0 (k + 1) y0 y1 y2 y3 y4 y5)) ∧ (∀ y0 y1 y2 y3 y4 y5 y6 y7, LeO (spec_WholeMul.l1 k y0 y1 y2 y3 y4 y5 y6 y7) (spec_WholeMul.l1 (k + 1) y0 y1 y2 y3 y4 y5 y6 y7)) ∧ (∀ y0 y1 y2 y3 y4 y5 y6 y7 y8, LeO (spec_WholeMul.j2 k y0 y1 y2 y3 y4 y5 y6 y7 y8) (spec_WholeMul.j2 (k + 1) y0 y1 y2 y3 y4 y5 y6 y7 y8))
  | 0 => ⟨fun _ _ _ _ _ _ r h => by simp [spec_WholeMul.l0] at h, fun _ _ _ _ _ _ _ _ r h => by simp [spec_WholeMul.l1] at h, fun _ _ _ _ _ _ _ _ _ r h => by simp [spec_WholeMul.j2] at h⟩
  | k + 1 => by
    obtain ⟨ih0, ih1, ih2⟩ := spec_WholeMul.mono_l k
    refine ⟨?_, ?_, ?_⟩
    · intro y0 y1 y2 y3 y4 y5
      unfold spec_WholeMul.l0
      repeat' first
      | (with_reducible exact ih0 _ _ _ _ _ _)
      | (with_reducible exact ih1 _ _ _ _ _ _ _ _)
      | (with_reducible exact ih2 _ _ _ _ _ _ _ _ _)
      | (with_reducible exact spec_signed.mono _ _ _)
      | (with_reducible exact spec_textOf.mono _ _)
      | (with_reducible exact LeO.refl _)
      | (with_reducible exact LeO.none _)
      | (with_reducible refine LeO.ite ?_ ?_)
      | (with_reducible refine LeO.bind ?_ (fun _ => ?_))
      | exact ih0 _ _ _ _ _ _
      | exact ih1 _ _ _ _ _ _ _ _
      | exact ih2 _ _ _ _ _ _ _ _ _
      | exact spec_signed.mono _ _ _
      | exact spec_textOf.mono _ _
      | exact LeO.none _
      | refine LeO.ite ?_ ?_
      | refine LeO.bind ?_ (fun _ => ?_)
    · intro y0 y1 y2 y3 y4 y5 y6 y7
      unfold spec_WholeMul.l1
      repeat' first
      | (with_reducible exact ih0 _ _ _ _ _ _)
      | (with_reducible exact ih1 _ _ _ _ _ _ _ _)
      | (with_reducible exact ih2 _ _ _ _ _ _ _ _ _)
      | (with_reducible exact spec_signed.mono _ _ _)
      | (with_reducible exact spec_textOf.mono _ _)
      | (with_reducible exact LeO.refl _)
      | (with_reducible exact LeO.none _)
      | (with_reducible refine LeO.ite ?_ ?_)
      | (with_reducible refine LeO.bind ?_ (fun _ => ?_))
      | exact ih0 _ _ _ _ _ _
      | exact ih1 _ _ _ _ _ _ _ _
      | exact ih2 _ _ _ _ _ _ _ _ _
      | exact spec_signed.mono _ _ _
      | exact spec_textOf.mono _ _
      | exact LeO.none _
      | refine LeO.ite ?_ ?_
      | refine LeO.bind ?_ (fun _ => ?_)
    · intro y0 y1 y2 y3 y4 y5 y6 y7 y8
      unfold spec_WholeMul.j2
      repeat' first
      | (with_reducible exact ih0 _ _ _ _ _ _)
      | (with_reducible exact ih1 _ _ _ _ _ _ _ _)
      | (with_reducible exact ih2 _ _ _ _ _ _ _ _ _)
      | (with_reducible exact spec_signed.mono _ _ _)
      | (with_reducible exact spec_textOf.mono _ _)
      | (with_reducible exact LeO.refl _)
      | (with_reducible exact LeO.none _)
      | (with_reducible refine LeO.ite ?_ ?_)
      | (with_reducible refine LeO.bind ?_ (fun _ => ?_))
      | exact ih0 _ _ _ _ _ _
      | exact ih1 _ _ _ _ _ _ _ _
      | exact ih2 _ _ _ _ _ _ _ _ _
      | exact spec_signed.mono _ _ _
      | exact spec_textOf.mono _ _
      | exact LeO.none _
      | refine LeO.ite ?_ ?_
      | refine LeO.bind ?_ (fun _ => ?_)
theorem spec_WholeMul.mono : ∀ a0 a1 k, LeO (spec_WholeMul.f k a0 a1) (spec_WholeMul.f (k + 1) a0 a1) := by
  intro a0 a1 k
  obtain ⟨ih0, ih1, ih2⟩ := spec_WholeMul.mono_l k
  unfold spec_WholeMul.f
  repeat' first
      | (with_reducible exact ih0 _ _ _ _ _ _)
      | (with_reducible exact ih1 _ _ _ _ _ _ _ _)
      | (with_reducible exact ih2 _ _ _ _ _ _ _ _ _)
      | (with_reducible exact spec_signed.mono _ _ _)
      | (with_reducible exact spec_textOf.mono _ _)
      | (with_reducible exact LeO.refl _)
      | (with_reducible exact LeO.none _)
      | (with_reducible refine LeO.ite ?_ ?_)
      | (with_reducible refine LeO.bind ?_ (fun _ => ?_))
      | exact ih0 _ _ _ _ _ _
      | exact ih1 _ _ _ _ _ _ _ _
      | exact ih2 _ _ _ _ _ _ _ _ _
      | exact spec_signed.mono _ _ _
      | exact spec_textOf.mono _ _
      | exact LeO.none _
      | refine LeO.ite ?_ ?_
      | refine LeO.bind ?_ (fun _ => ?_)
set_option maxHeartbeats 8000000 in
set_option maxRecDepth 100000 in
theorem spec_WholeMul.calls (k : Nat) (a0 : ByteArray) (a1 : ByteArray) (r : ByteArray) (w : World) (h : spec_WholeMul.f k a0 a1 = some r) :
    Calls Tryz.prog 22 #[.string a0, .string a1] w fun e w' => e = .returned (.string r) ∧ Below w.heap.size w w' := by
  have HB := Aside0.mk (Below.refl w.heap.size w)
  have H : ((spec_digitsOf.f a0).bind fun t108 => ((spec_digitsOf.f a1).bind fun t109 => (if 0 ≤ (wrap64 ((wrap64 ((t108.size : Int) + (t109.size : Int))) + 1)) then (if (wrap64 ((wrap64 ((t108.size : Int) + (t109.size : Int))) + 1) : Int).toNat ≤ 35184372088832 then (spec_WholeMul.l0 k a0 a1 t108 t109 (List.replicate (wrap64 ((wrap64 ((t108.size : Int) + (t109.size : Int))) + 1) : Int).toNat 0) 0) else (none)) else (none)))) = some r := h
  clear h
  replace H := Option.bind_eq_some_iff.mp H
  obtain ⟨t108, A30, H⟩ := H
  replace H : ((spec_digitsOf.f a1).bind fun t109 => (if 0 ≤ (wrap64 ((wrap64 ((t108.size : Int) + (t109.size : Int))) + 1)) then (if (wrap64 ((wrap64 ((t108.size : Int) + (t109.size : Int))) + 1) : Int).toNat ≤ 35184372088832 then (spec_WholeMul.l0 k a0 a1 t108 t109 (List.replicate (wrap64 ((wrap64 ((t108.size : Int) + (t109.size : Int))) + 1) : Int).toNat 0) 0) else (none)) else (none))) = some r := H
  have A3 := Aside0.mk A30
  clear A30
  replace H := Option.bind_eq_some_iff.mp H
  obtain ⟨t109, A40, H⟩ := H
  replace H : (if 0 ≤ (wrap64 ((wrap64 ((t108.size : Int) + (t109.size : Int))) + 1)) then (if (wrap64 ((wrap64 ((t108.size : Int) + (t109.size : Int))) + 1) : Int).toNat ≤ 35184372088832 then (spec_WholeMul.l0 k a0 a1 t108 t109 (List.replicate (wrap64 ((wrap64 ((t108.size : Int) + (t109.size : Int))) + 1) : Int).toNat 0) 0) else (none)) else (none)) = some r := H
  have A4 := Aside0.mk A40
  clear A40
  obtain ⟨ji5, hji5⟩ : ∃ j_ : Int, (wrap64 ((wrap64 ((t108.size : Int) + (t109.size : Int))) + 1)) = j_ := ⟨_, rfl⟩
  replace H : (if 0 ≤ (ji5) then (if (ji5 : Int).toNat ≤ 35184372088832 then (spec_WholeMul.l0 k a0 a1 t108 t109 (List.replicate (ji5 : Int).toNat 0) 0) else (none)) else (none)) = some r := by first | (rw [hji5] at H; exact H) | (simp only [hji5] at H ⊢; exact H)
  (try rw [hji5] at A3)
  (try rw [hji5] at A4)
  have hji5w : (IntKind.i64.wrap ((wrap64 ((t108.size : Int) + (t109.size : Int))) + 1)) = ji5 := (i64_w _).trans hji5
  by_cases c6 : 0 ≤ (ji5)
  · rw [if_pos c6] at H
    have c6b0 := eq_true c6
    have c6b1 : decide (0 ≤ (ji5)) = true := decide_eq_true c6
    clear c6
    by_cases c7 : (ji5 : Int).toNat ≤ 35184372088832
    · rw [if_pos c7] at H
      have c7b0 := eq_true c7
      have c7b1 : decide ((ji5 : Int).toNat ≤ 35184372088832) = true := decide_eq_true c7
      clear c7
      obtain ⟨y110, hy110⟩ : ∃ y_ : List Int, y_ = (List.replicate (ji5 : Int).toNat 0) := ⟨_, rfl⟩
      replace H : (spec_WholeMul.l0 k a0 a1 t108 t109 y110 0) = some r := by first | (rw [hy110]; with_reducible exact H) | (have H2_ := (Option.bind_some _ _).symm.trans H; rw [hy110]; with_reducible exact H2_) | (have H2_ := (Option.bind_some _ _).symm.trans H; with_reducible exact H2_) | with_reducible exact H | (rw [hy110]; exact H) | exact H
      have Ny110 := Aside0.mk hy110
      clear hy110
      have H' := Aside0.mk H
      clear H
      go_enter Tryz.func22, Tryz.ntmps22
      go_wp2_with (first | (go_at_call 35; (with_reducible refine (spec_digitsOf.calls a0 t108 _ A3.out).mono ?_); rintro e w' ⟨rfl, ⟨nd, rfl⟩⟩; (try first | exact ⟨rfl, _, World.drewN_drewN _ _ _⟩ | exact ⟨rfl, _, Eq.trans (World.drewN_drewN _ _ _) (congrArg (World.drewN _) (Nat.add_assoc _ _ _))⟩)) | (go_at_call 35; (with_reducible refine (spec_digitsOf.calls a1 t109 _ A4.out).mono ?_); rintro e w' ⟨rfl, ⟨nd, rfl⟩⟩; (try first | exact ⟨rfl, _, World.drewN_drewN _ _ _⟩ | exact ⟨rfl, _, Eq.trans (World.drewN_drewN _ _ _) (congrArg (World.drewN _) (Nat.add_assoc _ _ _))⟩)) | ((with_reducible refine gate_dst (N := 22) rfl ?_); refine Kd.R_make (Kd.int .i64) _ 3 rfl (N := 22) rfl 45 _ _ rfl ji5 rfl rfl Tryz.underlying45 (.int .i64 0) 8 info3 rfl (by decide) (by omega) 0 (ok := fun _ => True) (okp := fun _ => True) rfl (fun _ hk => hk) trivial (of_decide_eq_true (by first | (with_reducible assumption) | assumption)) (Nat.le_trans (Nat.mul_le_mul_right _ (of_decide_eq_true (by first | (with_reducible assumption) | assumption) : ji5.toNat ≤ 35184372088832)) (by omega)) (Below.refl _ _) (Nat.le_refl _) ?_; intro v111 w8 ho9 hb hg_ hnew_; clear hg_ hnew_; (first | rw [← Ny110.out] at ho9 | (simp only [Int.reduceToNat] at ho9; rw [← Ny110.out] at ho9)); have n0_ := Aside0.mk (Kd.R_lower ho9 (below_size (by repeat (first | (with_reducible first | exact HB.out | apply below_alloc | apply pw_below_drewN | apply below_drew1) | exact HB.out)))); have n1_ := Aside0.mk (below_step (by repeat (first | (with_reducible first | exact HB.out | apply below_alloc | apply pw_below_drewN | apply below_drew1) | exact HB.out)) hb); clear HB; have HO112 := n0_; have HB := n1_; clear n0_ n1_; clear hb ho9))
      repeat (go_quiet (first | (go_at_call 35; (with_reducible refine (spec_digitsOf.calls a0 t108 _ A3.out).mono ?_); rintro e w' ⟨rfl, ⟨nd, rfl⟩⟩; (try first | exact ⟨rfl, _, World.drewN_drewN _ _ _⟩ | exact ⟨rfl, _, Eq.trans (World.drewN_drewN _ _ _) (congrArg (World.drewN _) (Nat.add_assoc _ _ _))⟩)) | (go_at_call 35; (with_reducible refine (spec_digitsOf.calls a1 t109 _ A4.out).mono ?_); rintro e w' ⟨rfl, ⟨nd, rfl⟩⟩; (try first | exact ⟨rfl, _, World.drewN_drewN _ _ _⟩ | exact ⟨rfl, _, Eq.trans (World.drewN_drewN _ _ _) (congrArg (World.drewN _) (Nat.add_assoc _ _ _))⟩)) | ((with_reducible refine gate_dst (N := 22) rfl ?_); refine Kd.R_make (Kd.int .i64) _ 3 rfl (N := 22) rfl 45 _ _ rfl ji5 rfl rfl Tryz.underlying45 (.int .i64 0) 8 info3 rfl (by decide) (by omega) 0 (ok := fun _ => True) (okp := fun _ => True) rfl (fun _ hk => hk) trivial (of_decide_eq_true (by first | (with_reducible assumption) | assumption)) (Nat.le_trans (Nat.mul_le_mul_right _ (of_decide_eq_true (by first | (with_reducible assumption) | assumption) : ji5.toNat ≤ 35184372088832)) (by omega)) (Below.refl _ _) (Nat.le_refl _) ?_; intro v111 w8 ho9 hb hg_ hnew_; clear hg_ hnew_; (first | rw [← Ny110.out] at ho9 | (simp only [Int.reduceToNat] at ho9; rw [← Ny110.out] at ho9)); have n0_ := Aside0.mk (Kd.R_lower ho9 (below_size (by repeat (first | (with_reducible first | exact HB.out | apply below_alloc | apply pw_below_drewN | apply below_drew1) | exact HB.out)))); have n1_ := Aside0.mk (below_step (by repeat (first | (with_reducible first | exact HB.out | apply below_alloc | apply pw_below_drewN | apply below_drew1) | exact HB.out)) hb); clear HB; have HO112 := n0_; have HB := n1_; clear n0_ n1_; clear hb ho9)); try go_wp2_with (first | (go_at_call 35; (with_reducible refine (spec_digitsOf.calls a0 t108 _ A3.out).mono ?_); rintro e w' ⟨rfl, ⟨nd, rfl⟩⟩; (try first | exact ⟨rfl, _, World.drewN_drewN _ _ _⟩ | exact ⟨rfl, _, Eq.trans (World.drewN_drewN _ _ _) (congrArg (World.drewN _) (Nat.add_assoc _ _ _))⟩)) | (go_at_call 35; (with_reducible refine (spec_digitsOf.calls a1 t109 _ A4.out).mono ?_); rintro e w' ⟨rfl, ⟨nd, rfl⟩⟩; (try first | exact ⟨rfl, _, World.drewN_drewN _ _ _⟩ | exact ⟨rfl, _, Eq.trans (World.drewN_drewN _ _ _) (congrArg (World.drewN _) (Nat.add_assoc _ _ _))⟩)) | ((with_reducible refine gate_dst (N := 22) rfl ?_); refine Kd.R_make (Kd.int .i64) _ 3 rfl (N := 22) rfl 45 _ _ rfl ji5 rfl rfl Tryz.underlying45 (.int .i64 0) 8 info3 rfl (by decide) (by omega) 0 (ok := fun _ => True) (okp := fun _ => True) rfl (fun _ hk => hk) trivial (of_decide_eq_true (by first | (with_reducible assumption) | assumption)) (Nat.le_trans (Nat.mul_le_mul_right _ (of_decide_eq_true (by first | (with_reducible assumption) | assumption) : ji5.toNat ≤ 35184372088832)) (by omega)) (Below.refl _ _) (Nat.le_refl _) ?_; intro v111 w8 ho9 hb hg_ hnew_; clear hg_ hnew_; (first | rw [← Ny110.out] at ho9 | (simp only [Int.reduceToNat] at ho9; rw [← Ny110.out] at ho9)); have n0_ := Aside0.mk (Kd.R_lower ho9 (below_size (by repeat (first | (with_reducible first | exact HB.out | apply below_alloc | apply pw_below_drewN | apply below_drew1) | exact HB.out)))); have n1_ := Aside0.mk (below_step (by repeat (first | (with_reducible first | exact HB.out | apply below_alloc | apply pw_below_drewN | apply below_drew1) | exact HB.out)) hb); clear HB; have HO112 := n0_; have HB := n1_; clear n0_ n1_; clear hb ho9)))
      go_loopg [8] k (fun kq v8 w' => ∃ (x7_1 : List Int) (x8_1 : Int), v8 = .int .i64 x8_1 ∧ Aside0 (spec_WholeMul.l0 kq a0 a1 t108 t109 x7_1 x8_1 = some r) ∧ Aside0 (kq ≤ k) ∧ Aside0 (Kd.R (Kd.int .i64) 3 w' w.heap.size (fun _ => True) v111 x7_1) ∧ Aside0 (Below w.heap.size w w'))
      case atStart => exact ⟨(y110), (0), (by first | rfl | (simp; done) | (simp [*]; done)), H', ⟨Nat.le_refl _⟩, ⟨by (with_reducible repeat (first | apply Kd.R_alloc | apply Kd.R_drewN | apply Kd.R_drew)); exact HO112.out⟩, ⟨by repeat (first | (with_reducible first | exact HB.out | apply below_alloc | apply pw_below_drewN | apply below_drew1) | exact HB.out)⟩⟩
      case round =>
        clear H'
        try clear c2
        try clear p2
        try clear c6
        try clear c6b0
        try clear c6b1
        try clear p6
        try clear c7
        try clear c7b0
        try clear c7b1
        obtain ⟨x7_1, x8_1, rfl, HA, HK1, HO_7, HB⟩ := hrel
        cases gk with
        | zero => exact absurd HA.out (by simp [spec_WholeMul.l0])
        | succ k1 =>
          have H := HA.out
          clear HA
          simp only [spec_WholeMul.l0] at H
          by_cases c10 : x8_1 < (t108.size : Int)
          · rw [if_pos c10] at H
            have c10b0 : decide (x8_1 < (t108.size : Int)) = true := decide_eq_true c10
            clear c10
            have H' := Aside0.mk H
            clear H
            go_wp2
            repeat (go_quiet (fail); try go_wp2)
            go_loopg [9, 10] k1 (fun kq v9 v10 w' => ∃ (x7_2 : List Int) (x9_2 : Int) (x10_2 : Int), v9 = .int .i64 x9_2 ∧ v10 = .int .i64 x10_2 ∧ Aside0 (spec_WholeMul.l1 kq a0 a1 t108 t109 x7_2 x8_1 x9_2 x10_2 = some r) ∧ Aside0 (kq ≤ k1) ∧ Aside0 (Kd.R (Kd.int .i64) 3 w' w.heap.size (fun _ => True) v111 x7_2) ∧ Aside0 (Below w.heap.size w w'))
            case atStart => exact ⟨(x7_1), (0), (0), (by first | rfl | (simp; done) | (simp [*]; done)), (by first | rfl | (simp; done) | (simp [*]; done)), H', ⟨Nat.le_refl _⟩, ⟨by (with_reducible repeat (first | apply Kd.R_alloc | apply Kd.R_drewN | apply Kd.R_drew)); exact HO_7.out⟩, ⟨by repeat (first | (with_reducible first | exact HB.out | apply below_alloc | apply pw_below_drewN | apply below_drew1) | exact HB.out)⟩⟩
            case round =>
              clear H'
              try clear c1
              try clear c2
              try clear p2
              try clear c6
              try clear c6b0
              try clear c6b1
              try clear p6
              try clear c7
              try clear c7b0
              try clear c7b1
              try clear c10
              try clear c10b0
              try clear p2
              try clear p6
              obtain ⟨x7_2, x9_2, x10_2, rfl, rfl, HA, HK2, HO_7, HB⟩ := hrel
              cases gk with
              | zero => exact absurd HA.out (by simp [spec_WholeMul.l1])
              | succ k2 =>
                have H := HA.out
                clear HA
                simp only [spec_WholeMul.l1] at H
                have HC11 := Aside0.mk H
                clear H
                go_upto_region 8 with (fail)
                repeat (go_quiet (fail); go_upto_region 8 with (fail))
                go_cut [36] (fun v36 wc => ∃ (kq : Nat) (x36_10 : Bool), v36 = .bool x36_10 ∧ Aside0 (spec_WholeMul.j2 kq a0 a1 t108 t109 x7_2 x8_1 x9_2 x10_2 x36_10 = some r) ∧ Aside0 (kq ≤ k2) ∧ Aside0 (Kd.R (Kd.int .i64) 3 wc w.heap.size (fun _ => True) v111 x7_2) ∧ Aside0 (Below w.heap.size w wc))
                case first =>
                  have H := HC11.out
                  clear HC11
                  by_cases c12 : x10_2 < (t109.size : Int)
                  · rw [if_pos c12] at H
                    have c12b0 : decide (x10_2 < (t109.size : Int)) = true := decide_eq_true c12
                    clear c12
                    (first | rw [c12b0] | (simp only [i64_w, i32_w]; rw [c12b0]) | skip)
                    have H' := Aside0.mk H
                    clear H
                    go_wp2
                    repeat (go_quiet (fail); try go_wp2)
                    go_meet
                    case rel => exact ⟨_, (true), (by first | rfl | (simp; done) | (simp [*]; done)), H', ⟨by have := HK1.out; have := HK2.out; first | omega | exact Nat.le_refl _⟩, ⟨by (with_reducible repeat (first | apply Kd.R_alloc | apply Kd.R_drewN | apply Kd.R_drew)); exact HO_7.out⟩, ⟨by repeat (first | (with_reducible first | exact HB.out | apply below_alloc | apply pw_below_drewN | apply below_drew1) | exact HB.out)⟩⟩
                  · rw [if_neg c12] at H
                    have c12b0 : decide (x10_2 < (t109.size : Int)) = false := decide_eq_false c12
                    clear c12
                    (first | rw [c12b0] | (simp only [i64_w, i32_w]; rw [c12b0]) | skip)
                    have H' := Aside0.mk H
                    clear H
                    go_wp2
                    repeat (go_quiet (fail); try go_wp2)
                    go_meet
                    case rel => exact ⟨_, (decide (x9_2 > 0)), (by first | rfl | (simp; done) | (simp [*]; done)), H', ⟨by have := HK1.out; have := HK2.out; first | omega | exact Nat.le_refl _⟩, ⟨by (with_reducible repeat (first | apply Kd.R_alloc | apply Kd.R_drewN | apply Kd.R_drew)); exact HO_7.out⟩, ⟨by repeat (first | (with_reducible first | exact HB.out | apply below_alloc | apply pw_below_drewN | apply below_drew1) | exact HB.out)⟩⟩
                case rest =>
                  clear HC11
                  try clear c1
                  try clear c2
                  try clear p2
                  try clear c6
                  try clear c6b0
                  try clear c6b1
                  try clear p6
                  try clear c7
                  try clear c7b0
                  try clear c7b1
                  try clear c10
                  try clear c10b0
                  try clear c12
                  try clear c12b0
                  try clear p2
                  try clear p6
                  obtain ⟨kq, x36_10, rfl, HA, HJ10, HO_7, HB⟩ := hcut
                  cases kq with
                  | zero => exact absurd HA.out (by simp [spec_WholeMul.j2])
                  | succ kj10 =>
                    have H := HA.out
                    clear HA
                    simp only [spec_WholeMul.j2] at H
                    by_cases c13 : x36_10 = true
                    · subst c13
                      have H1 : (if 0 ≤ (wrap64 (x8_1 + x10_2)) then (if (wrap64 (x8_1 + x10_2)) < (x7_2.length : Int) then ((spec_digitAt.f t108 x8_1).bind fun t114 => ((spec_digitAt.f t109 x10_2).bind fun t115 => (spec_WholeMul.l1 kj10 a0 a1 t108 t109 (x7_2.set ((wrap64 (x8_1 + x10_2)) : Int).toNat (Int.tmod (wrap64 ((wrap64 ((rd x7_2 (wrap64 (x8_1 + x10_2))) + (wrap64 (t114 * t115)))) + x9_2)) 10)) x8_1 (wrap64 (Int.tdiv (wrap64 ((wrap64 ((rd x7_2 (wrap64 (x8_1 + x10_2))) + (wrap64 (t114 * t115)))) + x9_2)) 10)) (wrap64 (x10_2 + 1))))) else (none)) else (none)) = some r := by rw [if_pos rfl] at H; exact H
                      clear H
                      have H := H1
                      clear H1
                      obtain ⟨ji14, hji14⟩ : ∃ j_ : Int, (wrap64 (x8_1 + x10_2)) = j_ := ⟨_, rfl⟩
                      replace H : (if 0 ≤ (ji14) then (if (ji14) < (x7_2.length : Int) then ((spec_digitAt.f t108 x8_1).bind fun t114 => ((spec_digitAt.f t109 x10_2).bind fun t115 => (spec_WholeMul.l1 kj10 a0 a1 t108 t109 (x7_2.set ((ji14) : Int).toNat (Int.tmod (wrap64 ((wrap64 ((rd x7_2 (ji14)) + (wrap64 (t114 * t115)))) + x9_2)) 10)) x8_1 (wrap64 (Int.tdiv (wrap64 ((wrap64 ((rd x7_2 (ji14)) + (wrap64 (t114 * t115)))) + x9_2)) 10)) (wrap64 (x10_2 + 1))))) else (none)) else (none)) = some r := by first | (rw [hji14] at H; exact H) | (simp only [hji14] at H ⊢; exact H)
                      have hji14w : (IntKind.i64.wrap (x8_1 + x10_2)) = ji14 := (i64_w _).trans hji14
                      by_cases c15 : 0 ≤ (ji14)
                      · rw [if_pos c15] at H
                        have c15b0 : decide (0 ≤ (ji14)) = true := decide_eq_true c15
                        clear c15
                        by_cases c16 : (ji14) < (x7_2.length : Int)
                        · rw [if_pos c16] at H
                          have c16b0 : decide ((ji14) < (x7_2.length : Int)) = true := decide_eq_true c16
                          clear c16
                          replace H := Option.bind_eq_some_iff.mp H
                          obtain ⟨t114, A170, H⟩ := H
                          replace H : ((spec_digitAt.f t109 x10_2).bind fun t115 => (spec_WholeMul.l1 kj10 a0 a1 t108 t109 (x7_2.set ((ji14) : Int).toNat (Int.tmod (wrap64 ((wrap64 ((rd x7_2 (ji14)) + (wrap64 (t114 * t115)))) + x9_2)) 10)) x8_1 (wrap64 (Int.tdiv (wrap64 ((wrap64 ((rd x7_2 (ji14)) + (wrap64 (t114 * t115)))) + x9_2)) 10)) (wrap64 (x10_2 + 1)))) = some r := H
                          have A17 := Aside0.mk A170
                          clear A170
                          replace H := Option.bind_eq_some_iff.mp H
                          obtain ⟨t115, A180, H⟩ := H
                          replace H : (spec_WholeMul.l1 kj10 a0 a1 t108 t109 (x7_2.set ((ji14) : Int).toNat (Int.tmod (wrap64 ((wrap64 ((rd x7_2 (ji14)) + (wrap64 (t114 * t115)))) + x9_2)) 10)) x8_1 (wrap64 (Int.tdiv (wrap64 ((wrap64 ((rd x7_2 (ji14)) + (wrap64 (t114 * t115)))) + x9_2)) 10)) (wrap64 (x10_2 + 1))) = some r := H
                          have A18 := Aside0.mk A180
                          clear A180
                          obtain ⟨y116, hy116⟩ : ∃ y_ : List Int, y_ = (x7_2.set ((ji14) : Int).toNat (Int.tmod (wrap64 ((wrap64 ((rd x7_2 (ji14)) + (wrap64 (t114 * t115)))) + x9_2)) 10)) := ⟨_, rfl⟩
                          replace H : (spec_WholeMul.l1 kj10 a0 a1 t108 t109 y116 x8_1 (wrap64 (Int.tdiv (wrap64 ((wrap64 ((rd x7_2 (ji14)) + (wrap64 (t114 * t115)))) + x9_2)) 10)) (wrap64 (x10_2 + 1))) = some r := by first | (rw [hy116]; with_reducible exact H) | (have H2_ := (Option.bind_some _ _).symm.trans H; rw [hy116]; with_reducible exact H2_) | (have H2_ := (Option.bind_some _ _).symm.trans H; with_reducible exact H2_) | with_reducible exact H | (rw [hy116]; exact H) | exact H
                          have Ny116 := Aside0.mk hy116
                          clear hy116
                          have H' := Aside0.mk H
                          clear H
                          obtain ⟨Ao20, co20, eo20⟩ := Kd.R_slice HO_7.out
                          subst eo20
                          have p113 : 0 ≤ ((ji14) : Int) := of_decide_eq_true (by first | (with_reducible assumption) | assumption)
                          have q113 : (ji14) < (x7_2.length : Int) := of_decide_eq_true (by first | (with_reducible assumption) | assumption)
                          obtain ⟨ad113, e113, hx113_0⟩ := Kd.at_int (Kd.R_reads' HO_7.out).2.2 (ji14) p113 q113
                          cases e113
                          replace p113 := eq_true p113
                          replace q113 := eq_true q113
                          go_wp2_with (first | (go_at_call 43; (with_reducible refine (spec_digitAt.calls t108 x8_1 t114 _ A17.out).mono ?_); rintro e w' ⟨rfl, ⟨nd, rfl⟩⟩; (try first | exact ⟨rfl, _, World.drewN_drewN _ _ _⟩ | exact ⟨rfl, _, Eq.trans (World.drewN_drewN _ _ _) (congrArg (World.drewN _) (Nat.add_assoc _ _ _))⟩)) | (go_at_call 43; (with_reducible refine (spec_digitAt.calls t109 x10_2 t115 _ A18.out).mono ?_); rintro e w' ⟨rfl, ⟨nd, rfl⟩⟩; (try first | exact ⟨rfl, _, World.drewN_drewN _ _ _⟩ | exact ⟨rfl, _, Eq.trans (World.drewN_drewN _ _ _) (congrArg (World.drewN _) (Nat.add_assoc _ _ _))⟩); have p19 : 0 ≤ ((ji14) : Int) := of_decide_eq_true (by first | (with_reducible assumption) | assumption); have q19 : ((ji14) : Int) < ((x7_2.length : Int) : Int) := of_decide_eq_true (by first | (with_reducible assumption) | assumption); obtain ⟨go19, co19, eo19, gb19, gl19, cl19, HG19⟩ := Kd.R_form HO_7.out (by omega); (first | cases eo19 | (injection eo19 with ea_ en_ ec_; (first | subst ea_ | (injection ea_ with ea_; subst ea_)); subst ec_; clear en_)); have GB19 := Aside0.mk gb19; have GG19 := Aside0.mk HG19; clear gb19 gl19 HG19; (first | simp only [add_plain] at hx113_0 | skip); obtain ⟨hx19_0, hf19_0⟩ := Kd.R_celln 0 HO_7.out ((ji14) : Int) p19 q19; replace p19 := eq_true p19; replace q19 := eq_true q19; obtain ⟨hy21_, hz21_⟩ := Kd.R_celln 0 HO_7.out ((ji14) : Int) (of_decide_eq_true (by first | (with_reducible assumption) | assumption)) (of_decide_eq_true (by first | (with_reducible assumption) | assumption)); have HP21 := Kd.R_putg HO_7.out ((ji14) : Int) (Int.tmod (wrap64 ((wrap64 ((rd x7_2 (ji14)) + (wrap64 (t114 * t115)))) + x9_2)) 10)) | ((with_reducible refine gate_store (t := 3) (p := 61) rfl ?_); (try (rw [drewN_self wc]; generalize hq_ : World.drewN wc _ = wc; have n0_ := Aside0.mk (Kd.R_at hq_ HO_7.out); have n1_ := Aside0.mk (below_at hq_ HB.out); clear hq_ HO_7 HB; have HO_7 := n0_; have HB := n1_; clear n0_ n1_; (try (obtain ⟨hy21_, hz21_⟩ := Kd.R_celln 0 HO_7.out ((ji14) : Int) (of_decide_eq_true (by first | (with_reducible assumption) | assumption)) (of_decide_eq_true (by first | (with_reducible assumption) | assumption)))); (try (have HP21 := Kd.R_putg HO_7.out ((ji14) : Int) (Int.tmod (wrap64 ((wrap64 ((rd x7_2 (ji14)) + (wrap64 (t114 * t115)))) + x9_2)) 10))))); refine store_event (t := 3) (p := 61) (v := ?vo_w22) (w1 := (wc.setCell ⟨go19, ((ji14) : Int).toNat, none⟩ (.int .i64 (Int.tmod (wrap64 ((wrap64 ((rd x7_2 (ji14)) + (wrap64 (t114 * t115)))) + x9_2)) 10)))) ?hg ?ho ?hn ?hr ?_; (case ho => rfl); (case hg => rfl); (case hn => rfl); (case hr => first | (go_simp; done) | (go_simp; rfl)); intro w22 hw; have hg : wc.grownBy w22 (some go19) := (by rw [hw]; exact HP21.2); have hp_ : Kd.R (Kd.int .i64) 3 w22 w.heap.size (fun _ => True) (.slice (some ⟨go19, 0, none⟩) x7_2.length co20) y116 := (by rw [hw, Ny116.out]; exact HP21.1); clear HP21; have n0_ := Aside0.mk (hp_); have n1_ := Aside0.mk ((by rw [hw]; exact below_set (HB.out) GB19.out : Below w.heap.size w w22)); clear HO_7; clear HB; have HO_7 := n0_; have HB := n1_; clear n0_ n1_; clear hg hw hp_))
                          repeat (go_quiet (first | (go_at_call 43; (with_reducible refine (spec_digitAt.calls t108 x8_1 t114 _ A17.out).mono ?_); rintro e w' ⟨rfl, ⟨nd, rfl⟩⟩; (try first | exact ⟨rfl, _, World.drewN_drewN _ _ _⟩ | exact ⟨rfl, _, Eq.trans (World.drewN_drewN _ _ _) (congrArg (World.drewN _) (Nat.add_assoc _ _ _))⟩)) | (go_at_call 43; (with_reducible refine (spec_digitAt.calls t109 x10_2 t115 _ A18.out).mono ?_); rintro e w' ⟨rfl, ⟨nd, rfl⟩⟩; (try first | exact ⟨rfl, _, World.drewN_drewN _ _ _⟩ | exact ⟨rfl, _, Eq.trans (World.drewN_drewN _ _ _) (congrArg (World.drewN _) (Nat.add_assoc _ _ _))⟩); have p19 : 0 ≤ ((ji14) : Int) := of_decide_eq_true (by first | (with_reducible assumption) | assumption); have q19 : ((ji14) : Int) < ((x7_2.length : Int) : Int) := of_decide_eq_true (by first | (with_reducible assumption) | assumption); obtain ⟨go19, co19, eo19, gb19, gl19, cl19, HG19⟩ := Kd.R_form HO_7.out (by omega); (first | cases eo19 | (injection eo19 with ea_ en_ ec_; (first | subst ea_ | (injection ea_ with ea_; subst ea_)); subst ec_; clear en_)); have GB19 := Aside0.mk gb19; have GG19 := Aside0.mk HG19; clear gb19 gl19 HG19; (first | simp only [add_plain] at hx113_0 | skip); obtain ⟨hx19_0, hf19_0⟩ := Kd.R_celln 0 HO_7.out ((ji14) : Int) p19 q19; replace p19 := eq_true p19; replace q19 := eq_true q19; obtain ⟨hy21_, hz21_⟩ := Kd.R_celln 0 HO_7.out ((ji14) : Int) (of_decide_eq_true (by first | (with_reducible assumption) | assumption)) (of_decide_eq_true (by first | (with_reducible assumption) | assumption)); have HP21 := Kd.R_putg HO_7.out ((ji14) : Int) (Int.tmod (wrap64 ((wrap64 ((rd x7_2 (ji14)) + (wrap64 (t114 * t115)))) + x9_2)) 10)) | ((with_reducible refine gate_store (t := 3) (p := 61) rfl ?_); (try (rw [drewN_self wc]; generalize hq_ : World.drewN wc _ = wc; have n0_ := Aside0.mk (Kd.R_at hq_ HO_7.out); have n1_ := Aside0.mk (below_at hq_ HB.out); clear hq_ HO_7 HB; have HO_7 := n0_; have HB := n1_; clear n0_ n1_; (try (obtain ⟨hy21_, hz21_⟩ := Kd.R_celln 0 HO_7.out ((ji14) : Int) (of_decide_eq_true (by first | (with_reducible assumption) | assumption)) (of_decide_eq_true (by first | (with_reducible assumption) | assumption)))); (try (have HP21 := Kd.R_putg HO_7.out ((ji14) : Int) (Int.tmod (wrap64 ((wrap64 ((rd x7_2 (ji14)) + (wrap64 (t114 * t115)))) + x9_2)) 10))))); refine store_event (t := 3) (p := 61) (v := ?vo_w22) (w1 := (wc.setCell ⟨go19, ((ji14) : Int).toNat, none⟩ (.int .i64 (Int.tmod (wrap64 ((wrap64 ((rd x7_2 (ji14)) + (wrap64 (t114 * t115)))) + x9_2)) 10)))) ?hg ?ho ?hn ?hr ?_; (case ho => rfl); (case hg => rfl); (case hn => rfl); (case hr => first | (go_simp; done) | (go_simp; rfl)); intro w22 hw; have hg : wc.grownBy w22 (some go19) := (by rw [hw]; exact HP21.2); have hp_ : Kd.R (Kd.int .i64) 3 w22 w.heap.size (fun _ => True) (.slice (some ⟨go19, 0, none⟩) x7_2.length co20) y116 := (by rw [hw, Ny116.out]; exact HP21.1); clear HP21; have n0_ := Aside0.mk (hp_); have n1_ := Aside0.mk ((by rw [hw]; exact below_set (HB.out) GB19.out : Below w.heap.size w w22)); clear HO_7; clear HB; have HO_7 := n0_; have HB := n1_; clear n0_ n1_; clear hg hw hp_)); try go_wp2_with (first | (go_at_call 43; (with_reducible refine (spec_digitAt.calls t108 x8_1 t114 _ A17.out).mono ?_); rintro e w' ⟨rfl, ⟨nd, rfl⟩⟩; (try first | exact ⟨rfl, _, World.drewN_drewN _ _ _⟩ | exact ⟨rfl, _, Eq.trans (World.drewN_drewN _ _ _) (congrArg (World.drewN _) (Nat.add_assoc _ _ _))⟩)) | (go_at_call 43; (with_reducible refine (spec_digitAt.calls t109 x10_2 t115 _ A18.out).mono ?_); rintro e w' ⟨rfl, ⟨nd, rfl⟩⟩; (try first | exact ⟨rfl, _, World.drewN_drewN _ _ _⟩ | exact ⟨rfl, _, Eq.trans (World.drewN_drewN _ _ _) (congrArg (World.drewN _) (Nat.add_assoc _ _ _))⟩); have p19 : 0 ≤ ((ji14) : Int) := of_decide_eq_true (by first | (with_reducible assumption) | assumption); have q19 : ((ji14) : Int) < ((x7_2.length : Int) : Int) := of_decide_eq_true (by first | (with_reducible assumption) | assumption); obtain ⟨go19, co19, eo19, gb19, gl19, cl19, HG19⟩ := Kd.R_form HO_7.out (by omega); (first | cases eo19 | (injection eo19 with ea_ en_ ec_; (first | subst ea_ | (injection ea_ with ea_; subst ea_)); subst ec_; clear en_)); have GB19 := Aside0.mk gb19; have GG19 := Aside0.mk HG19; clear gb19 gl19 HG19; (first | simp only [add_plain] at hx113_0 | skip); obtain ⟨hx19_0, hf19_0⟩ := Kd.R_celln 0 HO_7.out ((ji14) : Int) p19 q19; replace p19 := eq_true p19; replace q19 := eq_true q19; obtain ⟨hy21_, hz21_⟩ := Kd.R_celln 0 HO_7.out ((ji14) : Int) (of_decide_eq_true (by first | (with_reducible assumption) | assumption)) (of_decide_eq_true (by first | (with_reducible assumption) | assumption)); have HP21 := Kd.R_putg HO_7.out ((ji14) : Int) (Int.tmod (wrap64 ((wrap64 ((rd x7_2 (ji14)) + (wrap64 (t114 * t115)))) + x9_2)) 10)) | ((with_reducible refine gate_store (t := 3) (p := 61) rfl ?_); (try (rw [drewN_self wc]; generalize hq_ : World.drewN wc _ = wc; have n0_ := Aside0.mk (Kd.R_at hq_ HO_7.out); have n1_ := Aside0.mk (below_at hq_ HB.out); clear hq_ HO_7 HB; have HO_7 := n0_; have HB := n1_; clear n0_ n1_; (try (obtain ⟨hy21_, hz21_⟩ := Kd.R_celln 0 HO_7.out ((ji14) : Int) (of_decide_eq_true (by first | (with_reducible assumption) | assumption)) (of_decide_eq_true (by first | (with_reducible assumption) | assumption)))); (try (have HP21 := Kd.R_putg HO_7.out ((ji14) : Int) (Int.tmod (wrap64 ((wrap64 ((rd x7_2 (ji14)) + (wrap64 (t114 * t115)))) + x9_2)) 10))))); refine store_event (t := 3) (p := 61) (v := ?vo_w22) (w1 := (wc.setCell ⟨go19, ((ji14) : Int).toNat, none⟩ (.int .i64 (Int.tmod (wrap64 ((wrap64 ((rd x7_2 (ji14)) + (wrap64 (t114 * t115)))) + x9_2)) 10)))) ?hg ?ho ?hn ?hr ?_; (case ho => rfl); (case hg => rfl); (case hn => rfl); (case hr => first | (go_simp; done) | (go_simp; rfl)); intro w22 hw; have hg : wc.grownBy w22 (some go19) := (by rw [hw]; exact HP21.2); have hp_ : Kd.R (Kd.int .i64) 3 w22 w.heap.size (fun _ => True) (.slice (some ⟨go19, 0, none⟩) x7_2.length co20) y116 := (by rw [hw, Ny116.out]; exact HP21.1); clear HP21; have n0_ := Aside0.mk (hp_); have n1_ := Aside0.mk ((by rw [hw]; exact below_set (HB.out) GB19.out : Below w.heap.size w w22)); clear HO_7; clear HB; have HO_7 := n0_; have HB := n1_; clear n0_ n1_; clear hg hw hp_)))
                          go_roundg kj10
                          case measure => have := HK1.out; have := HK2.out; have := HJ10.out; omega
                          case rel => exact ⟨(y116), (wrap64 (Int.tdiv (wrap64 ((wrap64 ((rd x7_2 (ji14)) + (wrap64 (t114 * t115)))) + x9_2)) 10)), (wrap64 (x10_2 + 1)), (by first | rfl | (simp; done) | (simp only [← hji14] <;> (first | rfl | simp)) | (simp [*]; done)), (by first | rfl | (simp; done) | (simp [*]; done)), H', ⟨by have := HK1.out; have := HK2.out; have := HJ10.out; omega⟩, ⟨by (with_reducible repeat (first | apply Kd.R_alloc | apply Kd.R_drewN | apply Kd.R_drew)); exact HO_7.out⟩, ⟨by repeat (first | (with_reducible first | exact HB.out | apply below_alloc | apply pw_below_drewN | apply below_drew1) | exact HB.out)⟩⟩
                        · rw [if_neg c16] at H
                          exact absurd H (by simp)
                      · rw [if_neg c15] at H
                        exact absurd H (by simp)
                    · replace c13 := Bool.eq_false_iff.mpr c13
                      subst c13
                      have H1 : (spec_WholeMul.l0 kj10 a0 a1 t108 t109 x7_2 (wrap64 (x8_1 + 1))) = some r := by rw [if_neg (show ¬ (false = true) by decide)] at H; exact H
                      clear H
                      have H := H1
                      clear H1
                      have H' := Aside0.mk H
                      clear H
                      go_wp2
                      repeat (go_quiet (fail); try go_wp2)
                      go_roundg kj10
                      case measure => have := HK1.out; have := HK2.out; have := HJ10.out; omega
                      case rel => exact ⟨(x7_2), (wrap64 (x8_1 + 1)), (by first | rfl | (simp; done) | (simp [*]; done)), H', ⟨by have := HK1.out; have := HK2.out; have := HJ10.out; omega⟩, ⟨by (with_reducible repeat (first | apply Kd.R_alloc | apply Kd.R_drewN | apply Kd.R_drew)); exact HO_7.out⟩, ⟨by repeat (first | (with_reducible first | exact HB.out | apply below_alloc | apply pw_below_drewN | apply below_drew1) | exact HB.out)⟩⟩
          · rw [if_neg c10] at H
            have c10b0 : decide (x8_1 < (t108.size : Int)) = false := decide_eq_false c10
            clear c10
            replace H := Option.bind_eq_some_iff.mp H
            obtain ⟨t117, A230, H⟩ := H
            replace H : ((spec_below.f a1).bind fun t118 => ((spec_textOf.f k1 x7_1).bind fun t119 => ((spec_signed.f k1 (t117 != t118) t119).bind fun t120 => (some t120)))) = some r := H
            have A23 := Aside0.mk A230
            clear A230
            replace H := Option.bind_eq_some_iff.mp H
            obtain ⟨t118, A240, H⟩ := H
            replace H : ((spec_textOf.f k1 x7_1).bind fun t119 => ((spec_signed.f k1 (t117 != t118) t119).bind fun t120 => (some t120))) = some r := H
            have A24 := Aside0.mk A240
            clear A240
            replace H := Option.bind_eq_some_iff.mp H
            obtain ⟨t119, A250, H⟩ := H
            replace H : ((spec_signed.f k1 (t117 != t118) t119).bind fun t120 => (some t120)) = some r := H
            have A25 := Aside0.mk A250
            clear A250
            replace H := Option.bind_eq_some_iff.mp H
            obtain ⟨t120, A260, H⟩ := H
            replace H : (some t120) = some r := H
            have A26 := Aside0.mk A260
            clear A260
            obtain rfl := Option.some.inj H
            obtain ⟨A9, c9, rfl, hl9, hr9⟩ := Kd.R_reads HO_7.out
            have HR9 := Aside0.mk hr9
            have HL9 := Aside0.mk hl9
            clear hr9 hl9 HO_7
            go_wp2_with fail
            refine (spec_below.calls a0 t117 _ A23.out).mono ?_
            rintro e w20 ⟨rfl, ⟨nd, rfl⟩⟩
            go_wp2_with fail
            refine (spec_below.calls a1 t118 _ A24.out).mono ?_
            rintro e w21 ⟨rfl, ⟨nd2, rfl⟩⟩
            go_wp2_with fail
            refine (spec_textOf.calls k1 A9 c9 x7_1 t119 _ (Kd.C_drewN HR9.out _) HL9.out A25.out).mono ?_
            rintro e w28 ⟨rfl, hb⟩
            have n1_ := Aside0.mk (below_step (by repeat (first | (with_reducible first | exact HB.out | apply below_alloc | apply pw_below_drewN | apply below_drew1) | exact HB.out)) hb)
            clear HB hb
            have HB := n1_
            clear n1_
            go_wp2_with fail
            refine (spec_signed.calls k1 (t117 != t118) t119 t120 _ A26.out).mono ?_
            rintro e w29 ⟨rfl, ⟨nd3, rfl⟩⟩
            go_wp2_with fail
            go_ret
            exact ⟨by first | rfl | (simp [errW_none, errW_some] <;> rfl) | (simp only [← hji5]; first | rfl | (simp [errW_none, errW_some] <;> rfl)) | (simp [*, errW_none, errW_some] <;> rfl), by repeat (first | (with_reducible first | exact HB.out | apply below_alloc | apply pw_below_drewN | apply below_drew1) | exact HB.out)⟩
    · rw [if_neg c7] at H
      exact absurd H (by simp)
  · rw [if_neg c6] at H
    exact absurd H (by simp)

end Go.Proofs.YtaiidipcmnejoaaGreatDoor.PWholeMul
