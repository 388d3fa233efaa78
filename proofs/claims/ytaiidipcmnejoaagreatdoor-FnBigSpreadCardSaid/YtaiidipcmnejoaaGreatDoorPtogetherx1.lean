-- PRINTED BY print.sh 35421559b90ae4d0a3588c463048766b98c2df88dd9212a6774a882060cdf62d: not written by this session
import Derived.Test.YtaiidipcmnejoaaGreatDoorPtogetherx0
namespace Go.Proofs.YtaiidipcmnejoaaGreatDoor.Ptogether
open Go.RowKit Go.Proofs.YtaiidipcmnejoaaGreatDoorW.PrintWords Go.Proofs.YtaiidipcmnejoaaGreatDoorW.PrintLast Go.Proofs.YtaiidipcmnejoaaGreatDoorW.PrintMore
attribute [local go_sem] max2_int min2_int max_two min_two max_three min_three max_four min_four   -- for this text's walks alone
set_option linter.unusedVariables false
set_option linter.unusedSimpArgs false

/-! ### spec_digitAt: function 43 -/
def spec_digitAt.f (a0 : ByteArray) (a1 : Int) : Option (Int) := if a1 ≥ (a0.size : Int) then (some 0) else (if 0 ≤ (wrap64 ((wrap64 ((a0.size : Int) - 1)) - a1)) then (if (wrap64 ((wrap64 ((a0.size : Int) - 1)) - a1)) < (a0.size : Int) then (some (((bt a0 (wrap64 ((wrap64 ((a0.size : Int) - 1)) - a1))) - 48) % 256)) else (none)) else (none))
set_option maxHeartbeats 8000000 in
set_option maxRecDepth 100000 in
theorem spec_digitAt.calls (a0 : ByteArray) (a1 : Int) (r : Int) (w : World) (h : spec_digitAt.f a0 a1 = some r) :
    Calls Tryz.prog 43 #[.string a0, .int .i64 a1] w fun e w' => e = .returned (.int .i64 r) ∧ Drawn0 w w' := by
  have H : (if a1 ≥ (a0.size : Int) then (some 0) else (if 0 ≤ (wrap64 ((wrap64 ((a0.size : Int) - 1)) - a1)) then (if (wrap64 ((wrap64 ((a0.size : Int) - 1)) - a1)) < (a0.size : Int) then (some (((bt a0 (wrap64 ((wrap64 ((a0.size : Int) - 1)) - a1))) - 48) % 256)) else (none)) else (none))) = some r := h
  clear h
  by_cases c3 : a1 ≥ (a0.size : Int)
  · rw [if_pos c3] at H
    have c3b0 : decide ((a0.size : Int) ≤ a1) = true := decide_eq_true c3
    clear c3
    obtain rfl := Option.some.inj H
    go_enter Tryz.func43, Tryz.ntmps43
    go_wp2
    go_ret
    exact ⟨by first | rfl | (simp; done) | (simp [*]; done), by repeat (first | exact Drawn0.refl _ | apply Drawn0.step)⟩
  · rw [if_neg c3] at H
    have c3b0 : decide ((a0.size : Int) ≤ a1) = false := decide_eq_false c3
    clear c3
    obtain ⟨ji4, hji4⟩ : ∃ j_ : Int, (wrap64 ((wrap64 ((a0.size : Int) - 1)) - a1)) = j_ := ⟨_, rfl⟩
    replace H : (if 0 ≤ (ji4) then (if (ji4) < (a0.size : Int) then (some (((bt a0 (ji4)) - 48) % 256)) else (none)) else (none)) = some r := by first | (rw [hji4] at H; exact H) | (simp only [hji4] at H ⊢; exact H)
    have hji4w : (IntKind.i64.wrap ((wrap64 ((a0.size : Int) - 1)) - a1)) = ji4 := (i64_w _).trans hji4
    by_cases c5 : 0 ≤ (ji4)
    · rw [if_pos c5] at H
      have c5b0 : decide (0 ≤ (ji4)) = true := decide_eq_true c5
      clear c5
      by_cases c6 : (ji4) < (a0.size : Int)
      · rw [if_pos c6] at H
        have c6b0 : decide ((ji4) < (a0.size : Int)) = true := decide_eq_true c6
        clear c6
        obtain rfl := Option.some.inj H
        have p7 : 0 ≤ ((ji4) : Int) := of_decide_eq_true (by first | (with_reducible assumption) | assumption)
        have q7 : (ji4) < (a0.size : Int) := of_decide_eq_true (by first | (with_reducible assumption) | assumption)
        have hx7 := bt_at a0 (ji4)
        replace p7 := eq_true p7
        replace q7 := eq_true q7
        go_enter Tryz.func43, Tryz.ntmps43
        go_wp2
        go_ret
        exact ⟨by first | rfl | (simp; done) | (simp only [← hji4] <;> (first | rfl | simp)) | (simp [*]; done), by repeat (first | exact Drawn0.refl _ | apply Drawn0.step)⟩
      · rw [if_neg c6] at H
        exact absurd H (by simp)
    · rw [if_neg c5] at H
      exact absurd H (by simp)

/-! ### spec_signed: function 37 -/
def spec_signed.l0 : Nat → Bool → ByteArray → Option (ByteArray)
  | 0, _, _ => none
  | k + 1, x0, x1 => if (x1.size : Int) > 1 then (if 0 < (x1.size : Int) then (if (bt x1 0) = 48 then (if 1 ≤ (x1.size : Int) then (spec_signed.l0 k x0 (x1.extract 1 x1.size)) else (none)) else (if x0 = true then (if x1.toList = ([48] : List UInt8) then (some x1) else (if 1 + x1.size ≤ 9223372036854775807 then (some ((⟨#[45]⟩ : ByteArray) ++ x1)) else (none))) else (some x1))) else (none)) else (if x0 = true then (if x1.toList = ([48] : List UInt8) then (some x1) else (if 1 + x1.size ≤ 9223372036854775807 then (some ((⟨#[45]⟩ : ByteArray) ++ x1)) else (none))) else (some x1))
def spec_signed.f (k : Nat) (a0 : Bool) (a1 : ByteArray) : Option (ByteArray) := spec_signed.l0 k a0 a1
theorem spec_signed.mono_l : ∀ k, (∀ y0 y1, LeO (spec_signed.l0 k y0 y1) (spec_signed.l0 (k + 1) y0 y1))
  | 0 => fun _ _ r h => by simp [spec_signed.l0] at h
  | k + 1 => by
    have ih0 := spec_signed.mono_l k
    · intro y0 y1
      unfold spec_signed.l0
      repeat' first
      | (with_reducible exact ih0 _ _)
      | (with_reducible exact LeO.refl _)
      | (with_reducible exact LeO.none _)
      | (with_reducible refine LeO.ite ?_ ?_)
      | (with_reducible refine LeO.bind ?_ (fun _ => ?_))
      | exact ih0 _ _
      | exact LeO.none _
      | refine LeO.ite ?_ ?_
      | refine LeO.bind ?_ (fun _ => ?_)
theorem spec_signed.mono : ∀ a0 a1 k, LeO (spec_signed.f k a0 a1) (spec_signed.f (k + 1) a0 a1) := by
  intro a0 a1 k
  have ih0 := spec_signed.mono_l k
  unfold spec_signed.f
  repeat' first
      | (with_reducible exact ih0 _ _)
      | (with_reducible exact LeO.refl _)
      | (with_reducible exact LeO.none _)
      | (with_reducible refine LeO.ite ?_ ?_)
      | (with_reducible refine LeO.bind ?_ (fun _ => ?_))
      | exact ih0 _ _
      | exact LeO.none _
      | refine LeO.ite ?_ ?_
      | refine LeO.bind ?_ (fun _ => ?_)
set_option maxHeartbeats 8000000 in
set_option maxRecDepth 100000 in
theorem spec_signed.calls (k : Nat) (a0 : Bool) (a1 : ByteArray) (r : ByteArray) (w : World) (h : spec_signed.f k a0 a1 = some r) :
    Calls Tryz.prog 37 #[.bool a0, .string a1] w fun e w' => e = .returned (.string r) ∧ Drawn0 w w' := by
  have H : (spec_signed.l0 k a0 a1) = some r := h
  clear h
  have H' := Aside0.mk H
  clear H
  go_enter Tryz.func37, Tryz.ntmps37
  go_wp2
  go_loopg [1] k (fun kq v1 w' => ∃ (x1_1 : ByteArray), v1 = .string x1_1 ∧ Aside0 (spec_signed.l0 kq a0 x1_1 = some r) ∧ Aside0 (kq ≤ k) ∧ Drawn0 w w')
  case atStart => exact ⟨(a1), (by first | rfl | (simp; done) | (simp [*]; done)), H', ⟨Nat.le_refl _⟩, by repeat (first | exact Drawn0.refl _ | apply Drawn0.step)⟩
  case round =>
    clear H'
    try clear p2
    obtain ⟨x1_1, rfl, HA, HK1, ⟨m1, rfl⟩⟩ := hrel
    cases gk with
    | zero => exact absurd HA.out (by simp [spec_signed.l0])
    | succ k1 =>
      have H := HA.out
      clear HA
      simp only [spec_signed.l0] at H
      by_cases c3 : (x1_1.size : Int) > 1
      · rw [if_pos c3] at H
        have c3b0 : decide (1 < (x1_1.size : Int)) = true := decide_eq_true c3
        have c3b1 : decide (1 < x1_1.size) = true := decide_eq_true (by omega)
        clear c3
        by_cases c4 : 0 < (x1_1.size : Int)
        · rw [if_pos c4] at H
          have c4b0 : decide (0 < (x1_1.size : Int)) = true := decide_eq_true c4
          have c4b1 : decide (0 < x1_1.size) = true := decide_eq_true (by omega)
          clear c4
          by_cases c6 : (bt x1_1 0) = 48
          · rw [if_pos c6] at H
            have c6b0 : ((bt x1_1 0) == 48) = true := beq_iff_eq.mpr c6
            have c6b1 : ((bt x1_1 0) != 48) = false := bne_eq_false_iff_eq.mpr c6
            clear c6
            by_cases c7 : 1 ≤ (x1_1.size : Int)
            · rw [if_pos c7] at H
              have c7b0 := eq_true c7
              have c7b1 : decide (1 ≤ (x1_1.size : Int)) = true := decide_eq_true c7
              clear c7
              have H' := Aside0.mk H
              clear H
              have p5 : 0 ≤ (0 : Int) := (by omega)
              have q5 : 0 < x1_1.size := (by have : (0 : Int) < (x1_1.size : Int) := of_decide_eq_true (by first | (with_reducible assumption) | assumption); omega)
              have hx5 : ∀ h : 0 < x1_1.size, ((x1_1[0]'h).toNat : Int) = bt x1_1 0 := bt_at x1_1 0
              clear p5
              have qi5 : (0 < (x1_1.size : Int)) = True := eq_true (of_decide_eq_true (by first | (with_reducible assumption) | assumption))
              replace q5 := eq_true q5
              go_wp2
              go_roundg k1
              case measure => have := HK1.out; omega
              case rel => exact ⟨(x1_1.extract 1 x1_1.size), (by first | rfl | (simp; done) | (simp [*]; done)), H', ⟨by have := HK1.out; omega⟩, by repeat (first | exact Drawn0.refl _ | apply Drawn0.step)⟩
            · rw [if_neg c7] at H
              exact absurd H (by simp)
          · rw [if_neg c6] at H
            have c6b0 : ((bt x1_1 0) == 48) = false := beq_eq_false_iff_ne.mpr c6
            have c6b1 : ((bt x1_1 0) != 48) = true := bne_iff_ne.mpr c6
            by_cases c8 : a0 = true
            · subst c8
              have H1 : (if x1_1.toList = ([48] : List UInt8) then (some x1_1) else (if 1 + x1_1.size ≤ 9223372036854775807 then (some ((⟨#[45]⟩ : ByteArray) ++ x1_1)) else (none))) = some r := by rw [if_pos rfl] at H; exact H
              clear H
              have H := H1
              clear H1
              by_cases c9 : x1_1.toList = ([48] : List UInt8)
              · rw [if_pos c9] at H
                have c9b0 : (x1_1.toList == ([48] : List UInt8)) = true := beq_iff_eq.mpr c9
                have c9b1 : (x1_1.toList != ([48] : List UInt8)) = false := bne_eq_false_iff_eq.mpr c9
                clear c9
                obtain rfl := Option.some.inj H
                have p5 : 0 ≤ (0 : Int) := (by omega)
                have q5 : 0 < x1_1.size := (by have : (0 : Int) < (x1_1.size : Int) := of_decide_eq_true (by first | (with_reducible assumption) | assumption); omega)
                have hx5 : ∀ h : 0 < x1_1.size, ((x1_1[0]'h).toNat : Int) = bt x1_1 0 := bt_at x1_1 0
                clear p5
                have qi5 : (0 < (x1_1.size : Int)) = True := eq_true (of_decide_eq_true (by first | (with_reducible assumption) | assumption))
                replace q5 := eq_true q5
                go_wp2
                go_ret
                exact ⟨by first | rfl | (simp; done) | (simp [*]; done), by repeat (first | exact Drawn0.refl _ | apply Drawn0.step)⟩
              · rw [if_neg c9] at H
                have c9b0 : (x1_1.toList == ([48] : List UInt8)) = false := beq_eq_false_iff_ne.mpr c9
                have c9b1 : (x1_1.toList != ([48] : List UInt8)) = true := bne_iff_ne.mpr c9
                by_cases c10 : 1 + x1_1.size ≤ 9223372036854775807
                · rw [if_pos c10] at H
                  have c10b0 := eq_true c10
                  have c10b1 : decide (1 + x1_1.size ≤ 9223372036854775807) = true := decide_eq_true c10
                  try have c10b2 : (9223372036854775807 < 1 + x1_1.size) = False := eq_false (Nat.not_lt.2 c10)
                  obtain rfl := Option.some.inj H
                  have p5 : 0 ≤ (0 : Int) := (by omega)
                  have q5 : 0 < x1_1.size := (by have : (0 : Int) < (x1_1.size : Int) := of_decide_eq_true (by first | (with_reducible assumption) | assumption); omega)
                  have hx5 : ∀ h : 0 < x1_1.size, ((x1_1[0]'h).toNat : Int) = bt x1_1 0 := bt_at x1_1 0
                  clear p5
                  have qi5 : (0 < (x1_1.size : Int)) = True := eq_true (of_decide_eq_true (by first | (with_reducible assumption) | assumption))
                  replace q5 := eq_true q5
                  go_wp2
                  go_ret
                  exact ⟨by first | rfl | (simp; done) | (simp [*]; done), by repeat (first | exact Drawn0.refl _ | apply Drawn0.step)⟩
                · rw [if_neg c10] at H
                  exact absurd H (by simp)
            · replace c8 := Bool.eq_false_iff.mpr c8
              subst c8
              have H1 : (some x1_1) = some r := by rw [if_neg (show ¬ (false = true) by decide)] at H; exact H
              clear H
              have H := H1
              clear H1
              obtain rfl := Option.some.inj H
              have p5 : 0 ≤ (0 : Int) := (by omega)
              have q5 : 0 < x1_1.size := (by have : (0 : Int) < (x1_1.size : Int) := of_decide_eq_true (by first | (with_reducible assumption) | assumption); omega)
              have hx5 : ∀ h : 0 < x1_1.size, ((x1_1[0]'h).toNat : Int) = bt x1_1 0 := bt_at x1_1 0
              clear p5
              have qi5 : (0 < (x1_1.size : Int)) = True := eq_true (of_decide_eq_true (by first | (with_reducible assumption) | assumption))
              replace q5 := eq_true q5
              go_wp2
              go_ret
              exact ⟨by first | rfl | (simp; done) | (simp [*]; done), by repeat (first | exact Drawn0.refl _ | apply Drawn0.step)⟩
        · rw [if_neg c4] at H
          exact absurd H (by simp)
      · rw [if_neg c3] at H
        have c3b0 : decide (1 < (x1_1.size : Int)) = false := decide_eq_false c3
        have c3b1 : decide (1 < x1_1.size) = false := decide_eq_false (by omega)
        clear c3
        by_cases c11 : a0 = true
        · subst c11
          have H1 : (if x1_1.toList = ([48] : List UInt8) then (some x1_1) else (if 1 + x1_1.size ≤ 9223372036854775807 then (some ((⟨#[45]⟩ : ByteArray) ++ x1_1)) else (none))) = some r := by rw [if_pos rfl] at H; exact H
          clear H
          have H := H1
          clear H1
          by_cases c12 : x1_1.toList = ([48] : List UInt8)
          · rw [if_pos c12] at H
            have c12b0 : (x1_1.toList == ([48] : List UInt8)) = true := beq_iff_eq.mpr c12
            have c12b1 : (x1_1.toList != ([48] : List UInt8)) = false := bne_eq_false_iff_eq.mpr c12
            clear c12
            obtain rfl := Option.some.inj H
            go_wp2
            go_ret
            exact ⟨by first | rfl | (simp; done) | (simp [*]; done), by repeat (first | exact Drawn0.refl _ | apply Drawn0.step)⟩
          · rw [if_neg c12] at H
            have c12b0 : (x1_1.toList == ([48] : List UInt8)) = false := beq_eq_false_iff_ne.mpr c12
            have c12b1 : (x1_1.toList != ([48] : List UInt8)) = true := bne_iff_ne.mpr c12
            by_cases c13 : 1 + x1_1.size ≤ 9223372036854775807
            · rw [if_pos c13] at H
              have c13b0 := eq_true c13
              have c13b1 : decide (1 + x1_1.size ≤ 9223372036854775807) = true := decide_eq_true c13
              try have c13b2 : (9223372036854775807 < 1 + x1_1.size) = False := eq_false (Nat.not_lt.2 c13)
              obtain rfl := Option.some.inj H
              go_wp2
              go_ret
              exact ⟨by first | rfl | (simp; done) | (simp [*]; done), by repeat (first | exact Drawn0.refl _ | apply Drawn0.step)⟩
            · rw [if_neg c13] at H
              exact absurd H (by simp)
        · replace c11 := Bool.eq_false_iff.mpr c11
          subst c11
          have H1 : (some x1_1) = some r := by rw [if_neg (show ¬ (false = true) by decide)] at H; exact H
          clear H
          have H := H1
          clear H1
          obtain rfl := Option.some.inj H
          go_wp2
          go_ret
          exact ⟨by first | rfl | (simp; done) | (simp [*]; done), by repeat (first | exact Drawn0.refl _ | apply Drawn0.step)⟩

/-! ### spec_textOf: function 44 -/
def spec_textOf.l0 : Nat → List Int → List Int → List Int → Int → Int → Option (ByteArray)
  | 0, _, _, _, _, _ => none
  | k + 1, x0, x3, x9, x10, x11 => if x11 < x10 then (if 0 ≤ x11 then (if x11 < (x9.length : Int) then (if 0 ≤ (wrap64 ((wrap64 ((x0.length : Int) - 1)) - x11)) then (if (wrap64 ((wrap64 ((x0.length : Int) - 1)) - x11)) < (x3.length : Int) then (spec_textOf.l0 k x0 (x3.set ((wrap64 ((wrap64 ((x0.length : Int) - 1)) - x11)) : Int).toNat ((wrap64 (48 + (rd x9 x11))) % 256)) x9 x10 (wrap64 (x11 + 1))) else (none)) else (none)) else (none)) else (none)) else ((spec_signed.f k false (strOfNums x3)).bind fun t106 => (some t106))
def spec_textOf.f (k : Nat) (l0 : List Int) : Option (ByteArray) := if 0 ≤ (l0.length : Int) then (if ((l0.length : Int) : Int).toNat ≤ 281474976710656 then (spec_textOf.l0 k l0 (List.replicate ((l0.length : Int) : Int).toNat 0) l0 (l0.length : Int) 0) else (none)) else (none)
theorem spec_textOf.mono_l : ∀ k, (∀ y0 y1 y2 y3 y4, LeO (spec_textOf.l0 k y0 y1 y2 y3 y4) (spec_textOf.l0 (k + 1) y0 y1 y2 y3 y4))
  | 0 => fun _ _ _ _ _ r h => by simp [spec_textOf.l0] at h
  | k + 1 => by
    have ih0 := spec_textOf.mono_l k
    · intro y0 y1 y2 y3 y4
      unfold spec_textOf.l0
      repeat' first
      | (with_reducible exact ih0 _ _ _ _ _)
      | (with_reducible exact spec_signed.mono _ _ _)
      | (with_reducible exact LeO.refl _)
      | (with_reducible exact LeO.none _)
      | (with_reducible refine LeO.ite ?_ ?_)
      | (with_reducible refine LeO.bind ?_ (fun _ => ?_))
      | exact ih0 _ _ _ _ _
      | exact spec_signed.mono _ _ _
      | exact LeO.none _
      | refine LeO.ite ?_ ?_
      | refine LeO.bind ?_ (fun _ => ?_)
theorem spec_textOf.mono : ∀ a0 k, LeO (spec_textOf.f k a0) (spec_textOf.f (k + 1) a0) := by
  intro a0 k
  have ih0 := spec_textOf.mono_l k
  unfold spec_textOf.f
  repeat' first
      | (with_reducible exact ih0 _ _ _ _ _)
      | (with_reducible exact spec_signed.mono _ _ _)
      | (with_reducible exact LeO.refl _)
      | (with_reducible exact LeO.none _)
      | (with_reducible refine LeO.ite ?_ ?_)
      | (with_reducible refine LeO.bind ?_ (fun _ => ?_))
      | exact ih0 _ _ _ _ _
      | exact spec_signed.mono _ _ _
      | exact LeO.none _
      | refine LeO.ite ?_ ?_
      | refine LeO.bind ?_ (fun _ => ?_)
set_option maxHeartbeats 8000000 in
set_option maxRecDepth 100000 in
theorem spec_textOf.calls (k : Nat) (A0 : Option Addr) (c0 : Nat) (l0 : List Int) (r : ByteArray) (w : World) (hr0 : Kd.C (Kd.int .i64) w A0 l0.length l0) (hc0 : l0.length ≤ c0) (h : spec_textOf.f k l0 = some r) :
    Calls Tryz.prog 44 #[.slice A0 l0.length c0] w fun e w' => e = .returned (.string r) ∧ Below w.heap.size w w' := by
  have HR0 := Aside0.mk hr0
  have HC0 := Aside0.mk hc0
  clear hr0 hc0
  have HB := Aside0.mk (Below.refl w.heap.size w)
  have H : (if 0 ≤ (l0.length : Int) then (if ((l0.length : Int) : Int).toNat ≤ 281474976710656 then (spec_textOf.l0 k l0 (List.replicate ((l0.length : Int) : Int).toNat 0) l0 (l0.length : Int) 0) else (none)) else (none)) = some r := h
  clear h
  by_cases c2 : 0 ≤ (l0.length : Int)
  · rw [if_pos c2] at H
    have c2b0 := eq_true c2
    have c2b1 : decide (0 ≤ (l0.length : Int)) = true := decide_eq_true c2
    clear c2
    by_cases c3 : ((l0.length : Int) : Int).toNat ≤ 281474976710656
    · rw [if_pos c3] at H
      have c3b0 := eq_true c3
      have c3b1 : decide (((l0.length : Int) : Int).toNat ≤ 281474976710656) = true := decide_eq_true c3
      clear c3
      obtain ⟨y101, hy101⟩ : ∃ y_ : List Int, y_ = (List.replicate ((l0.length : Int) : Int).toNat 0) := ⟨_, rfl⟩
      replace H : (spec_textOf.l0 k l0 y101 l0 (l0.length : Int) 0) = some r := by first | (rw [hy101]; with_reducible exact H) | (have H2_ := (Option.bind_some _ _).symm.trans H; rw [hy101]; with_reducible exact H2_) | (have H2_ := (Option.bind_some _ _).symm.trans H; with_reducible exact H2_) | with_reducible exact H | (rw [hy101]; exact H) | exact H
      have Ny101 := Aside0.mk hy101
      clear hy101
      have H' := Aside0.mk H
      clear H
      go_enter Tryz.func44, Tryz.ntmps44
      go_wp2_with (first | ((with_reducible refine gate_dst (N := 8) rfl ?_); refine Kd.R_make (Kd.int .u8) _ 5 rfl (N := 8) rfl 49 _ _ rfl (l0.length : Int) rfl rfl Tryz.underlying49 (.int .u8 0) 1 info5 rfl (by decide) (by omega) 0 (ok := fun _ => True) (okp := fun _ => True) rfl (fun _ hk => hk) trivial (of_decide_eq_true (by first | (with_reducible assumption) | assumption)) (Nat.le_trans (Nat.mul_le_mul_right _ (of_decide_eq_true (by first | (with_reducible assumption) | assumption) : (l0.length : Int).toNat ≤ 281474976710656)) (by omega)) (Below.refl _ _) (Nat.le_refl _) ?_; intro v102 w4 ho5 hb hg_ hnew_; clear hg_ hnew_; (first | rw [← Ny101.out] at ho5 | (simp only [Int.reduceToNat] at ho5; rw [← Ny101.out] at ho5)); have n0_ := Aside0.mk (Kd.R_lower ho5 (below_size (by repeat (first | (with_reducible first | exact HB.out | apply below_alloc | apply pw_below_drewN | apply below_drew1) | exact HB.out)))); have n1_ := Aside0.mk (below_step (by repeat (first | (with_reducible first | exact HB.out | apply below_alloc | apply pw_below_drewN | apply below_drew1) | exact HB.out)) hb); clear HB; have HO103 := n0_; have HB := n1_; clear n0_ n1_; clear hb ho5))
      go_loopg [11] k (fun kq v11 w' => ∃ (x3_1 : List Int) (x11_1 : Int), v11 = .int .i64 x11_1 ∧ Aside0 (spec_textOf.l0 kq l0 x3_1 l0 (l0.length : Int) x11_1 = some r) ∧ Aside0 (kq ≤ k) ∧ Aside0 (Kd.R (Kd.int .u8) 5 w' w.heap.size (fun _ => True) v102 x3_1) ∧ Aside0 (Below w.heap.size w w'))
      case atStart => exact ⟨(y101), (0), (by first | rfl | (simp; done) | (simp [*]; done)), H', ⟨Nat.le_refl _⟩, ⟨by (with_reducible repeat (first | apply Kd.R_alloc | apply Kd.R_drewN | apply Kd.R_drew)); exact HO103.out⟩, ⟨by repeat (first | (with_reducible first | exact HB.out | apply below_alloc | apply pw_below_drewN | apply below_drew1) | exact HB.out)⟩⟩
      case round =>
        clear H'
        try clear c2
        try clear c2b0
        try clear c2b1
        try clear p2
        try clear c3
        try clear c3b0
        try clear c3b1
        try clear c4
        obtain ⟨x3_1, x11_1, rfl, HA, HK1, HO_3, HB⟩ := hrel
        cases gk with
        | zero => exact absurd HA.out (by simp [spec_textOf.l0])
        | succ k1 =>
          have H := HA.out
          clear HA
          simp only [spec_textOf.l0] at H
          by_cases c6 : x11_1 < (l0.length : Int)
          · rw [if_pos c6] at H
            have c6b0 : decide (x11_1 < (l0.length : Int)) = true := decide_eq_true c6
            clear c6
            by_cases c7 : 0 ≤ x11_1
            · rw [if_pos c7] at H
              have c7b0 : decide (0 ≤ x11_1) = true := decide_eq_true c7
              clear c7
              by_cases c8 : x11_1 < (l0.length : Int)
              · rw [if_pos c8] at H
                have c8b0 : decide (x11_1 < (l0.length : Int)) = true := decide_eq_true c8
                clear c8
                obtain ⟨ji9, hji9⟩ : ∃ j_ : Int, (wrap64 ((wrap64 ((l0.length : Int) - 1)) - x11_1)) = j_ := ⟨_, rfl⟩
                replace H : (if 0 ≤ (ji9) then (if (ji9) < (x3_1.length : Int) then (spec_textOf.l0 k1 l0 (x3_1.set ((ji9) : Int).toNat ((wrap64 (48 + (rd l0 x11_1))) % 256)) l0 (l0.length : Int) (wrap64 (x11_1 + 1))) else (none)) else (none)) = some r := by first | (rw [hji9] at H; exact H) | (simp only [hji9] at H ⊢; exact H)
                have hji9w : (IntKind.i64.wrap ((wrap64 ((l0.length : Int) - 1)) - x11_1)) = ji9 := (i64_w _).trans hji9
                by_cases c10 : 0 ≤ (ji9)
                · rw [if_pos c10] at H
                  have c10b0 : decide (0 ≤ (ji9)) = true := decide_eq_true c10
                  clear c10
                  by_cases c11 : (ji9) < (x3_1.length : Int)
                  · rw [if_pos c11] at H
                    have c11b0 : decide ((ji9) < (x3_1.length : Int)) = true := decide_eq_true c11
                    clear c11
                    obtain ⟨y105, hy105⟩ : ∃ y_ : List Int, y_ = (x3_1.set ((ji9) : Int).toNat ((wrap64 (48 + (rd l0 x11_1))) % 256)) := ⟨_, rfl⟩
                    replace H : (spec_textOf.l0 k1 l0 y105 l0 (l0.length : Int) (wrap64 (x11_1 + 1))) = some r := by first | (rw [hy105]; with_reducible exact H) | (have H2_ := (Option.bind_some _ _).symm.trans H; rw [hy105]; with_reducible exact H2_) | (have H2_ := (Option.bind_some _ _).symm.trans H; with_reducible exact H2_) | with_reducible exact H | (rw [hy105]; exact H) | exact H
                    have Ny105 := Aside0.mk hy105
                    clear hy105
                    have H' := Aside0.mk H
                    clear H
                    have p104 : 0 ≤ (x11_1 : Int) := of_decide_eq_true (by first | (with_reducible assumption) | assumption)
                    have q104 : x11_1 < (l0.length : Int) := of_decide_eq_true (by first | (with_reducible assumption) | assumption)
                    obtain ⟨ad104, e104, hx104_0⟩ := Kd.at_int HR0.out x11_1 p104 q104
                    cases e104
                    replace hx104_0 := (HB.out.cell (World.block_lt_of_cell? w _ hx104_0)).trans hx104_0
                    replace p104 := eq_true p104
                    replace q104 := eq_true q104
                    have p12 : 0 ≤ ((ji9) : Int) := of_decide_eq_true (by first | (with_reducible assumption) | assumption)
                    have q12 : ((ji9) : Int) < ((x3_1.length : Int) : Int) := of_decide_eq_true (by first | (with_reducible assumption) | assumption)
                    obtain ⟨go12, co12, eo12, gb12, gl12, cl12, HG12⟩ := Kd.R_form HO_3.out (by omega)
                    (first | cases eo12 | (injection eo12 with ea_ en_ ec_; (first | subst ea_ | (injection ea_ with ea_; subst ea_)); subst ec_; clear en_))
                    have GB12 := Aside0.mk gb12
                    have GG12 := Aside0.mk HG12
                    clear gb12 gl12 HG12
                    obtain ⟨hx12_0, hf12_0⟩ := Kd.R_celln 0 HO_3.out ((ji9) : Int) p12 q12
                    replace p12 := eq_true p12
                    replace q12 := eq_true q12
                    have HP13 := Kd.R_putg HO_3.out ((ji9) : Int) ((wrap64 (48 + (rd l0 x11_1))) % 256)
                    go_wp2_with (first | ((with_reducible refine gate_store (t := 5) (p := 25) rfl ?_); refine store_event (t := 5) (p := 25) (v := ?vo_w14) (w1 := (wr.setCell ⟨go12, ((ji9) : Int).toNat, none⟩ (.int .u8 ((wrap64 (48 + (rd l0 x11_1))) % 256)))) ?hg ?ho ?hn ?hr ?_; (case ho => rfl); (case hg => rfl); (case hn => rfl); (case hr => first | (go_simp; done) | (go_simp; rfl)); intro w14 hw; have hg : wr.grownBy w14 (some go12) := (by rw [hw]; exact HP13.2); have hp_ : Kd.R (Kd.int .u8) 5 w14 w.heap.size (fun _ => True) (.slice (some ⟨go12, 0, none⟩) x3_1.length co12) y105 := (by rw [hw, Ny105.out]; exact HP13.1); clear HP13; have n0_ := Aside0.mk (hp_); have n1_ := Aside0.mk ((by rw [hw]; exact below_set (HB.out) GB12.out : Below w.heap.size w w14)); clear HO_3; clear HB; have HO_3 := n0_; have HB := n1_; clear n0_ n1_; clear hg hw hp_))
                    go_roundg k1
                    case measure => have := HK1.out; omega
                    case rel => exact ⟨(y105), (wrap64 (x11_1 + 1)), (by first | rfl | (simp; done) | (simp [*]; done)), H', ⟨by have := HK1.out; omega⟩, ⟨by (with_reducible repeat (first | apply Kd.R_alloc | apply Kd.R_drewN | apply Kd.R_drew)); exact HO_3.out⟩, ⟨by repeat (first | (with_reducible first | exact HB.out | apply below_alloc | apply pw_below_drewN | apply below_drew1) | exact HB.out)⟩⟩
                  · rw [if_neg c11] at H
                    exact absurd H (by simp)
                · rw [if_neg c10] at H
                  exact absurd H (by simp)
              · rw [if_neg c8] at H
                exact absurd H (by simp)
            · rw [if_neg c7] at H
              exact absurd H (by simp)
          · rw [if_neg c6] at H
            have c6b0 : decide (x11_1 < (l0.length : Int)) = false := decide_eq_false c6
            clear c6
            replace H := Option.bind_eq_some_iff.mp H
            obtain ⟨t106, A150, H⟩ := H
            replace H : (some t106) = some r := H
            have A15 := Aside0.mk A150
            clear A150
            obtain rfl := Option.some.inj H
            have hcv16 := own_string (P := Tryz.prog) Tryz.underlying49 Tryz.underlying5 Tryz.underlying9 (Kd.own_of_R HO_3.out)
            go_wp2_with (first | ((with_reducible refine gate_callee (f := 37) rfl ?_); refine goesL_ (some 29) rfl rfl Tryz.func37 (by kernel_rfl) rfl #[.bool false, .string (strOfNums x3_1)] rfl (by (try simp only [List.map_toArray, List.map_cons, List.map_nil]); first | done | rfl | (simp only [List.length_drop, List.length_take]; rfl)) ?_; (with_reducible refine (spec_signed.calls k1 false (strOfNums x3_1) t106 _ A15.out).mono ?_); rintro e w' ⟨rfl, ⟨nd, rfl⟩⟩; refine ⟨_, rfl, ?_⟩))
            go_ret
            exact ⟨by first | rfl | (simp [errW_none, errW_some] <;> rfl) | (simp [*, errW_none, errW_some] <;> rfl), by repeat (first | (with_reducible first | exact HB.out | apply below_alloc | apply pw_below_drewN | apply below_drew1) | exact HB.out)⟩
    · rw [if_neg c3] at H
      exact absurd H (by simp)
  · rw [if_neg c2] at H
    exact absurd H (by simp)

/-! ### spec_together: function 38 -/
mutual
def spec_together.l0 : Nat → ByteArray → ByteArray → List Int → Int → Int → Option (ByteArray)
  | 0, _, _, _, _, _ => none
  | k + 1, x0, x1, x5, x6, x7 => if x7 < (x0.size : Int) then (spec_together.j1 k x0 x1 x5 x6 x7 true) else (if x7 < (x1.size : Int) then (spec_together.j1 k x0 x1 x5 x6 x7 true) else (spec_together.j1 k x0 x1 x5 x6 x7 (decide (x6 > 0))))
def spec_together.j1 : Nat → ByteArray → ByteArray → List Int → Int → Int → Bool → Option (ByteArray)
  | 0, _, _, _, _, _, _ => none
  | k + 1, x0, x1, x5, x6, x7, x22 => if x22 = true then ((spec_digitAt.f x0 x7).bind fun t107 => ((spec_digitAt.f x1 x7).bind fun t108 => (if x5.length < 17592186044416 then (spec_together.l0 k x0 x1 (x5 ++ [Int.tmod (wrap64 ((wrap64 (t107 + t108)) + x6)) 10]) (wrap64 (Int.tdiv (wrap64 ((wrap64 (t107 + t108)) + x6)) 10)) (wrap64 (x7 + 1))) else (none)))) else ((spec_textOf.f k x5).bind fun t112 => (some t112))
end
def spec_together.f (k : Nat) (a0 : ByteArray) (a1 : ByteArray) : Option (ByteArray) := spec_together.l0 k a0 a1 ([] : List Int) 0 0
theorem spec_together.mono_l : ∀ k, (∀ y0 y1 y2 y3 y4, LeO (spec_together.l0 k y0 y1 y2 y3 y4) (spec_together.l0 (k + 1) y0 y1 y2 y3 y4)) ∧ (∀ y0 y1 y2 y3 y4 y5, LeO (spec_together.j1 k y0 y1 y2 y3 y4 y5) (spec_together.j1 (k + 1) y0 y1 y2 y3 y4 y5))
  | 0 => ⟨fun _ _ _ _ _ r h => by simp [spec_together.l0] at h, fun _ _ _ _ _ _ r h => by simp [spec_together.j1] at h⟩
  | k + 1 => by
    obtain ⟨ih0, ih1⟩ := spec_together.mono_l k
    refine ⟨?_, ?_⟩
    · intro y0 y1 y2 y3 y4
      unfold spec_together.l0
      repeat' first
      | (with_reducible exact ih0 _ _ _ _ _)
      | (with_reducible exact ih1 _ _ _ _ _ _)
      | (with_reducible exact spec_textOf.mono _ _)
      | (with_reducible exact LeO.refl _)
      | (with_reducible exact LeO.none _)
      | (with_reducible refine LeO.ite ?_ ?_)
      | (with_reducible refine LeO.bind ?_ (fun _ => ?_))
      | exact ih0 _ _ _ _ _
      | exact ih1 _ _ _ _ _ _
      | exact spec_textOf.mono _ _
      | exact LeO.none _
      | refine LeO.ite ?_ ?_
      | refine LeO.bind ?_ (fun _ => ?_)
    · intro y0 y1 y2 y3 y4 y5
      unfold spec_together.j1
      repeat' first
      | (with_reducible exact ih0 _ _ _ _ _)
      | (with_reducible exact ih1 _ _ _ _ _ _)
      | (with_reducible exact spec_textOf.mono _ _)
      | (with_reducible exact LeO.refl _)
      | (with_reducible exact LeO.none _)
      | (with_reducible refine LeO.ite ?_ ?_)
      | (with_reducible refine LeO.bind ?_ (fun _ => ?_))
      | exact ih0 _ _ _ _ _
      | exact ih1 _ _ _ _ _ _
      | exact spec_textOf.mono _ _
      | exact LeO.none _
      | refine LeO.ite ?_ ?_
      | refine LeO.bind ?_ (fun _ => ?_)
theorem spec_together.mono : ∀ a0 a1 k, LeO (spec_together.f k a0 a1) (spec_together.f (k + 1) a0 a1) := by
  intro a0 a1 k
  obtain ⟨ih0, ih1⟩ := spec_together.mono_l k
  unfold spec_together.f
  repeat' first
      | (with_reducible exact ih0 _ _ _ _ _)
      | (with_reducible exact ih1 _ _ _ _ _ _)
      | (with_reducible exact spec_textOf.mono _ _)
      | (with_reducible exact LeO.refl _)
      | (with_reducible exact LeO.none _)
      | (with_reducible refine LeO.ite ?_ ?_)
      | (with_reducible refine LeO.bind ?_ (fun _ => ?_))
      | exact ih0 _ _ _ _ _
      | exact ih1 _ _ _ _ _ _
      | exact spec_textOf.mono _ _
      | exact LeO.none _
      | refine LeO.ite ?_ ?_
      | refine LeO.bind ?_ (fun _ => ?_)
set_option maxHeartbeats 8000000 in
set_option maxRecDepth 100000 in
theorem spec_together.calls (k : Nat) (a0 : ByteArray) (a1 : ByteArray) (r : ByteArray) (w : World) (h : spec_together.f k a0 a1 = some r) :
    Calls Tryz.prog 38 #[.string a0, .string a1] w fun e w' => e = .returned (.string r) ∧ Below w.heap.size w w' := by
  have HB := Aside0.mk (Below.refl w.heap.size w)
  have H : (spec_together.l0 k a0 a1 ([] : List Int) 0 0) = some r := h
  clear h
  have H' := Aside0.mk H
  clear H
  go_enter Tryz.func38, Tryz.ntmps38
  go_wp2
  go_loopg [5, 6, 7] k (fun kq v5 v6 v7 w' => ∃ (x5_1 : List Int) (x6_1 : Int) (x7_1 : Int), v6 = .int .i64 x6_1 ∧ v7 = .int .i64 x7_1 ∧ Aside0 (spec_together.l0 kq a0 a1 x5_1 x6_1 x7_1 = some r) ∧ Aside0 (kq ≤ k) ∧ Aside0 (Kd.R (Kd.int .i64) 3 w' w.heap.size (fun _ => True) v5 x5_1) ∧ Aside0 (Below w.heap.size w w'))
  case atStart => exact ⟨(([] : List Int)), (0), (0), (by first | rfl | (simp; done) | (simp [*]; done)), (by first | rfl | (simp; done) | (simp [*]; done)), H', ⟨Nat.le_refl _⟩, ⟨by first | exact Kd.R_nil _ _ _ _ _ | exact Kd.N_nil _ _ _ _ _ | exact Kd.V_nil _ _ _ _ _ | exact Kd.Q_nil _ _ _ _ _ | exact Kd.S_nil _ _ _ _ _⟩, ⟨by repeat (first | (with_reducible first | exact HB.out | apply below_alloc | apply pw_below_drewN | apply below_drew1) | exact HB.out)⟩⟩
  case round =>
    clear H'
    try clear p2
    obtain ⟨x5_1, x6_1, x7_1, rfl, rfl, HA, HK1, HO_5, HB⟩ := hrel
    cases gk with
    | zero => exact absurd HA.out (by simp [spec_together.l0])
    | succ k1 =>
      have H := HA.out
      clear HA
      simp only [spec_together.l0] at H
      have HC3 := Aside0.mk H
      clear H
      go_upto_region 4 with (fail)
      go_cut [22] (fun v22 wc => ∃ (kq : Nat) (x22_2 : Bool), v22 = .bool x22_2 ∧ Aside0 (spec_together.j1 kq a0 a1 x5_1 x6_1 x7_1 x22_2 = some r) ∧ Aside0 (kq ≤ k1) ∧ Aside0 (Kd.R (Kd.int .i64) 3 wc w.heap.size (fun _ => True) u5 x5_1) ∧ Aside0 (Below w.heap.size w wc))
      case first =>
        have H := HC3.out
        clear HC3
        by_cases c4 : x7_1 < (a0.size : Int)
        · rw [if_pos c4] at H
          have c4b0 : decide (x7_1 < (a0.size : Int)) = true := decide_eq_true c4
          clear c4
          (first | rw [c4b0] | (simp only [i64_w, i32_w]; rw [c4b0]) | skip)
          have H' := Aside0.mk H
          clear H
          go_wp2
          go_meet
          case rel => exact ⟨_, (true), (by first | rfl | (simp; done) | (simp [*]; done)), H', ⟨by have := HK1.out; first | omega | exact Nat.le_refl _⟩, ⟨by (with_reducible repeat (first | apply Kd.R_alloc | apply Kd.R_drewN | apply Kd.R_drew)); exact HO_5.out⟩, ⟨by repeat (first | (with_reducible first | exact HB.out | apply below_alloc | apply pw_below_drewN | apply below_drew1) | exact HB.out)⟩⟩
        · rw [if_neg c4] at H
          have c4b0 : decide (x7_1 < (a0.size : Int)) = false := decide_eq_false c4
          clear c4
          (first | rw [c4b0] | (simp only [i64_w, i32_w]; rw [c4b0]) | skip)
          by_cases c5 : x7_1 < (a1.size : Int)
          · rw [if_pos c5] at H
            have c5b0 : decide (x7_1 < (a1.size : Int)) = true := decide_eq_true c5
            clear c5
            have H' := Aside0.mk H
            clear H
            go_wp2
            go_meet
            case rel => exact ⟨_, (true), (by first | rfl | (simp; done) | (simp [*]; done)), H', ⟨by have := HK1.out; first | omega | exact Nat.le_refl _⟩, ⟨by (with_reducible repeat (first | apply Kd.R_alloc | apply Kd.R_drewN | apply Kd.R_drew)); exact HO_5.out⟩, ⟨by repeat (first | (with_reducible first | exact HB.out | apply below_alloc | apply pw_below_drewN | apply below_drew1) | exact HB.out)⟩⟩
          · rw [if_neg c5] at H
            have c5b0 : decide (x7_1 < (a1.size : Int)) = false := decide_eq_false c5
            clear c5
            have H' := Aside0.mk H
            clear H
            go_wp2
            go_meet
            case rel => exact ⟨_, (decide (x6_1 > 0)), (by first | rfl | (simp; done) | (simp [*]; done)), H', ⟨by have := HK1.out; first | omega | exact Nat.le_refl _⟩, ⟨by (with_reducible repeat (first | apply Kd.R_alloc | apply Kd.R_drewN | apply Kd.R_drew)); exact HO_5.out⟩, ⟨by repeat (first | (with_reducible first | exact HB.out | apply below_alloc | apply pw_below_drewN | apply below_drew1) | exact HB.out)⟩⟩
      case rest =>
        clear HC3
        try clear p2
        try clear c3
        try clear c4
        try clear c4b0
        try clear c5
        try clear c5b0
        try clear p2
        obtain ⟨kq, x22_2, rfl, HA, HJ2, HO_5, HB⟩ := hcut
        cases kq with
        | zero => exact absurd HA.out (by simp [spec_together.j1])
        | succ kj2 =>
          have H := HA.out
          clear HA
          simp only [spec_together.j1] at H
          by_cases c6 : x22_2 = true
          · subst c6
            have H1 : ((spec_digitAt.f a0 x7_1).bind fun t107 => ((spec_digitAt.f a1 x7_1).bind fun t108 => (if x5_1.length < 17592186044416 then (spec_together.l0 kj2 a0 a1 (x5_1 ++ [Int.tmod (wrap64 ((wrap64 (t107 + t108)) + x6_1)) 10]) (wrap64 (Int.tdiv (wrap64 ((wrap64 (t107 + t108)) + x6_1)) 10)) (wrap64 (x7_1 + 1))) else (none)))) = some r := by rw [if_pos rfl] at H; exact H
            clear H
            have H := H1
            clear H1
            replace H := Option.bind_eq_some_iff.mp H
            obtain ⟨t107, A70, H⟩ := H
            replace H : ((spec_digitAt.f a1 x7_1).bind fun t108 => (if x5_1.length < 17592186044416 then (spec_together.l0 kj2 a0 a1 (x5_1 ++ [Int.tmod (wrap64 ((wrap64 (t107 + t108)) + x6_1)) 10]) (wrap64 (Int.tdiv (wrap64 ((wrap64 (t107 + t108)) + x6_1)) 10)) (wrap64 (x7_1 + 1))) else (none))) = some r := H
            have A7 := Aside0.mk A70
            clear A70
            replace H := Option.bind_eq_some_iff.mp H
            obtain ⟨t108, A80, H⟩ := H
            replace H : (if x5_1.length < 17592186044416 then (spec_together.l0 kj2 a0 a1 (x5_1 ++ [Int.tmod (wrap64 ((wrap64 (t107 + t108)) + x6_1)) 10]) (wrap64 (Int.tdiv (wrap64 ((wrap64 (t107 + t108)) + x6_1)) 10)) (wrap64 (x7_1 + 1))) else (none)) = some r := H
            have A8 := Aside0.mk A80
            clear A80
            by_cases c9 : x5_1.length < 17592186044416
            · rw [if_pos c9] at H
              have LMc9 := Aside0.mk c9
              clear c9
              obtain ⟨y109, hy109⟩ : ∃ y_ : List Int, y_ = (x5_1 ++ [Int.tmod (wrap64 ((wrap64 (t107 + t108)) + x6_1)) 10]) := ⟨_, rfl⟩
              replace H : (spec_together.l0 kj2 a0 a1 y109 (wrap64 (Int.tdiv (wrap64 ((wrap64 (t107 + t108)) + x6_1)) 10)) (wrap64 (x7_1 + 1))) = some r := by first | (rw [hy109]; with_reducible exact H) | (have H2_ := (Option.bind_some _ _).symm.trans H; rw [hy109]; with_reducible exact H2_) | (have H2_ := (Option.bind_some _ _).symm.trans H; with_reducible exact H2_) | with_reducible exact H | (rw [hy109]; exact H) | exact H
              have Ny109 := Aside0.mk hy109
              clear hy109
              have H' := Aside0.mk H
              clear H
              go_wp2_with (first | ((with_reducible refine gate_callee (f := 43) rfl ?_); refine goesL_ (some 27) rfl rfl Tryz.func43 (by kernel_rfl) rfl #[.string a0, .int .i64 x7_1] rfl (by (try simp only [List.map_toArray, List.map_cons, List.map_nil]); first | done | rfl | (simp only [List.length_drop, List.length_take]; rfl)) ?_; (with_reducible refine (spec_digitAt.calls a0 x7_1 t107 _ A7.out).mono ?_); rintro e w' ⟨rfl, ⟨nd, rfl⟩⟩; refine ⟨_, rfl, ?_⟩) | ((with_reducible refine gate_callee (f := 43) rfl ?_); refine goesL_ (some 30) rfl rfl Tryz.func43 (by kernel_rfl) rfl #[.string a1, .int .i64 x7_1] rfl (by (try simp only [List.map_toArray, List.map_cons, List.map_nil]); first | done | rfl | (simp only [List.length_drop, List.length_take]; rfl)) ?_; (with_reducible refine (spec_digitAt.calls a1 x7_1 t108 _ A8.out).mono ?_); rintro e w' ⟨rfl, ⟨nd, rfl⟩⟩; refine ⟨_, rfl, ?_⟩) | ((with_reducible refine gate_builtin (b := .append) (xs := #[.tmp 34, .tmp 37]) rfl ?_); (try (refine gate_guard (by rfl) ?_; dsimp only)); at_builtin; refine Kd.R_append (Kd.int .i64) (w0 := w) w.heap.size rfl (.tmp 34) (.tmp 37) 45 3 (.int .i64 0) 8 rfl Tryz.underlying45 info3 rfl (by decide) (by omega) u5 x5_1 (Int.tmod (wrap64 ((wrap64 (t107 + t108)) + x6_1)) 10) [.int .i64 (Int.tmod (wrap64 ((wrap64 (t107 + t108)) + x6_1)) 10)] (fun _ => True) (fun _ => False) rfl rfl ?aP (fun _ hk => hk.elim) ?aF ?aO ?aB ?aS ?aL ?_; (case aP => exact rfl); (case aB => exact (by repeat (first | (with_reducible first | exact HB.out | apply below_alloc | apply pw_below_drewN | apply below_drew1) | exact HB.out))); (case aF => exact (fun _ _ => trivial)); (case aO => exact (by (with_reducible repeat (first | apply Kd.R_alloc | apply Kd.R_drewN | apply Kd.R_drew)); exact HO_5.out)); (case aS => exact (below_size (by repeat (first | (with_reducible first | exact HB.out | apply below_alloc | apply pw_below_drewN | apply below_drew1) | exact HB.out)))); (case aL => have := LMc9.out; omega); intro v110 w10 ho hb hg hat; rw [← Ny109.out] at ho; have n0_ := Aside0.mk (hb); have n1_ := Aside0.mk (ho); clear HB; clear HO_5; have HB := n0_; have HO111 := n1_; clear n0_ n1_; clear ho hb hg hat))
              go_roundg kj2
              case measure => have := HK1.out; have := HJ2.out; omega
              case rel => exact ⟨(y109), (wrap64 (Int.tdiv (wrap64 ((wrap64 (t107 + t108)) + x6_1)) 10)), (wrap64 (x7_1 + 1)), (by first | rfl | (simp; done) | (simp [*]; done)), (by first | rfl | (simp; done) | (simp [*]; done)), H', ⟨by have := HK1.out; have := HJ2.out; omega⟩, ⟨by (with_reducible repeat (first | apply Kd.R_alloc | apply Kd.R_drewN | apply Kd.R_drew)); exact HO111.out⟩, ⟨by repeat (first | (with_reducible first | exact HB.out | apply below_alloc | apply pw_below_drewN | apply below_drew1) | exact HB.out)⟩⟩
            · rw [if_neg c9] at H
              exact absurd H (by simp)
          · replace c6 := Bool.eq_false_iff.mpr c6
            subst c6
            have H1 : ((spec_textOf.f kj2 x5_1).bind fun t112 => (some t112)) = some r := by rw [if_neg (show ¬ (false = true) by decide)] at H; exact H
            clear H
            have H := H1
            clear H1
            replace H := Option.bind_eq_some_iff.mp H
            obtain ⟨t112, A110, H⟩ := H
            replace H : (some t112) = some r := H
            have A11 := Aside0.mk A110
            clear A110
            obtain rfl := Option.some.inj H
            obtain ⟨Ao12, co12, eo12⟩ := Kd.R_slice HO_5.out
            subst eo12
            go_wp2_with (first | ((with_reducible refine gate_callee (f := 44) rfl ?_); refine goesL_ (some 42) rfl rfl Tryz.func44 (by kernel_rfl) rfl #[.slice Ao12 x5_1.length co12] rfl (by (try simp only [List.map_toArray, List.map_cons, List.map_nil]); first | done | rfl | (simp only [List.length_drop, List.length_take]; rfl)) ?_; (with_reducible refine (spec_textOf.calls kj2 _ _ x5_1 t112 _ ?side1 ?side2 A11.out).mono ?_); (case side1 => repeat (first | exact (Kd.R_reads' HO_5.out).2.2 | (with_reducible refine Kd.C_alloc ?_ _) | (with_reducible refine Kd.C_drewN ?_ _) | (with_reducible refine Kd.C_drew ?_))); (case side2 => exact (Kd.R_reads' HO_5.out).2.1); rintro e w13 ⟨rfl, hb⟩; refine ⟨_, rfl, ?_⟩; have n0_ := Aside0.mk (Kd.R_below (by (with_reducible repeat (first | apply Kd.R_alloc | apply Kd.R_drewN | apply Kd.R_drew)); exact HO_5.out) hb); have n1_ := Aside0.mk (below_step (by repeat (first | (with_reducible first | exact HB.out | apply below_alloc | apply pw_below_drewN | apply below_drew1) | exact HB.out)) hb); clear HO_5; clear HB; have HO_5 := n0_; have HB := n1_; clear n0_ n1_; (try clear hb); (try clear hb2); (try clear hk); (try clear hi)))
            go_ret
            exact ⟨by first | rfl | (simp [errW_none, errW_some] <;> rfl) | (simp [*, errW_none, errW_some] <;> rfl), by repeat (first | (with_reducible first | exact HB.out | apply below_alloc | apply pw_below_drewN | apply below_drew1) | exact HB.out)⟩

end Go.Proofs.YtaiidipcmnejoaaGreatDoor.Ptogether
