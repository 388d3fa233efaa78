/-
gojq.Compare at two numbers, two strings.
-/
import Derived.Test.YtbnfeicpjmfooaaGreatDoorMF
import Derived.Test.YtbnfeicpjmfooaaGreatDoorMD
set_option linter.unusedSimpArgs false
set_option linter.unusedVariables false
namespace Go.Proofs.YtbnfeicpjmfooaaGreatDoor.NumA
open Go.RowKit Go.Lib Go.Proofs.YtbnfeicpjmfooaaGreatDoor.ValA Go.Proofs.YtbnfeicpjmfooaaGreatDoor.FloH Go.Proofs.YtbnfeicpjmfooaaGreatDoorW.PrintWords Go.Proofs.YtbnfeicpjmfooaaGreatDoorW.PrintLast Go.Proofs.YtbnfeicpjmfooaaGreatDoorW.PrintMore Go.Proofs.YtbnfeicpjmfooaaGreatDoor.PzzFits1
set_option maxRecDepth 100000 in
set_option maxHeartbeats 4000000 in
theorem bin_cmp_ii (Q : Value → Prop) (m n : Int) (HC : ∀ w, Calls Tryz.prog 194 #[.int .i64 m, .int .i64 n] w (Gives Q w))  (w : World) :
    Calls Tryz.prog 193 #[.iface 3 (.int .i64 m), .iface 3 (.int .i64 n), Value.func (Fn.func 194) #[] #[], Value.func (Fn.func 195) #[] #[], Value.func (Fn.func 147) #[] #[], Value.func (Fn.func 197) #[] #[], Value.func (Fn.func 198) #[] #[], Value.func (Fn.func 199) #[] #[], Value.func (Fn.func 201) #[] #[]] w (Gives Q w) := by
  have H := Lib.hid HC
  clear HC
  have ia1 := fun w => noJ3 (.int .i64 m) w
  have ia2 := fun w => is33 (.int .i64 m) w
  have ib1 := fun w => noJ3 (.int .i64 n) w
  have ib2 := fun w => is33 (.int .i64 n) w
  go_enter Tryz.func193, Tryz.ntmps193
  go_wp2_with fail
  refine (H.out _).mono ?_
  rintro e w1 ⟨v, rfl, hv⟩
  have HB := Lib.hid hv; clear hv
  go_wp2_with fail
  go_ret
  exact ⟨_, rfl, HB.out⟩
set_option maxRecDepth 100000 in
set_option maxHeartbeats 4000000 in
theorem bin_cmp_ff (Q : Value → Prop) (x y : Nat) (HC : ∀ w, Calls Tryz.prog 195 #[.float .f64 x, .float .f64 y] w (Gives Q w))  (w : World) :
    Calls Tryz.prog 193 #[.iface 85 (.float .f64 x), .iface 85 (.float .f64 y), Value.func (Fn.func 194) #[] #[], Value.func (Fn.func 195) #[] #[], Value.func (Fn.func 147) #[] #[], Value.func (Fn.func 197) #[] #[], Value.func (Fn.func 198) #[] #[], Value.func (Fn.func 199) #[] #[], Value.func (Fn.func 201) #[] #[]] w (Gives Q w) := by
  have H := Lib.hid HC
  clear HC
  have fa1 := fun w => noJ6 (.float .f64 x) w
  have fa2 := fun w => no63 (.float .f64 x) w
  have fa3 := fun w => is66 (.float .f64 x) w
  have fb1 := fun w => noJ6 (.float .f64 y) w
  have fb2 := fun w => no63 (.float .f64 y) w
  have fb3 := fun w => is66 (.float .f64 y) w
  go_enter Tryz.func193, Tryz.ntmps193
  go_wp2_with fail
  refine (H.out _).mono ?_
  rintro e w1 ⟨v, rfl, hv⟩
  have HB := Lib.hid hv; clear hv
  go_wp2_with fail
  go_ret
  exact ⟨_, rfl, HB.out⟩
set_option maxRecDepth 100000 in
set_option maxHeartbeats 4000000 in
theorem bin_cmp_if (Q : Value → Prop) (m : Int) (x y : Nat) (HC : ∀ w, Calls Tryz.prog 195 #[.float .f64 x, .float .f64 y] w (Gives Q w)) (hx : floatOfInt .f64 m = x) (w : World) :
    Calls Tryz.prog 193 #[.iface 3 (.int .i64 m), .iface 85 (.float .f64 y), Value.func (Fn.func 194) #[] #[], Value.func (Fn.func 195) #[] #[], Value.func (Fn.func 147) #[] #[], Value.func (Fn.func 197) #[] #[], Value.func (Fn.func 198) #[] #[], Value.func (Fn.func 199) #[] #[], Value.func (Fn.func 201) #[] #[]] w (Gives Q w) := by
  have H := Lib.hid HC
  clear HC
  have ia1 := fun w => noJ3 (.int .i64 m) w
  have ia2 := fun w => is33 (.int .i64 m) w
  have fb1 := fun w => noJ6 (.float .f64 y) w
  have fb2 := fun w => no63 (.float .f64 y) w
  have fb3 := fun w => is66 (.float .f64 y) w
  go_enter Tryz.func193, Tryz.ntmps193
  go_wp2_with fail
  refine (H.out _).mono ?_
  rintro e w1 ⟨v, rfl, hv⟩
  have HB := Lib.hid hv; clear hv
  go_wp2_with fail
  go_ret
  exact ⟨_, rfl, HB.out⟩
set_option maxRecDepth 100000 in
set_option maxHeartbeats 4000000 in
theorem bin_cmp_fi (Q : Value → Prop) (x : Nat) (n : Int) (y : Nat) (HC : ∀ w, Calls Tryz.prog 195 #[.float .f64 x, .float .f64 y] w (Gives Q w)) (hy : floatOfInt .f64 n = y) (w : World) :
    Calls Tryz.prog 193 #[.iface 85 (.float .f64 x), .iface 3 (.int .i64 n), Value.func (Fn.func 194) #[] #[], Value.func (Fn.func 195) #[] #[], Value.func (Fn.func 147) #[] #[], Value.func (Fn.func 197) #[] #[], Value.func (Fn.func 198) #[] #[], Value.func (Fn.func 199) #[] #[], Value.func (Fn.func 201) #[] #[]] w (Gives Q w) := by
  have H := Lib.hid HC
  clear HC
  have fa1 := fun w => noJ6 (.float .f64 x) w
  have fa2 := fun w => no63 (.float .f64 x) w
  have fa3 := fun w => is66 (.float .f64 x) w
  have ib1 := fun w => noJ3 (.int .i64 n) w
  have ib2 := fun w => is33 (.int .i64 n) w
  go_enter Tryz.func193, Tryz.ntmps193
  go_wp2_with fail
  refine (H.out _).mono ?_
  rintro e w1 ⟨v, rfl, hv⟩
  have HB := Lib.hid hv; clear hv
  go_wp2_with fail
  go_ret
  exact ⟨_, rfl, HB.out⟩
theorem lt_flt (h k : Int) (hh : HE h) (hk : HE k) (w : World) : Calls Tryz.prog 196 #[.float .f64 (fw h), .float .f64 (fw k)] w fun e w' => e = .returned (.bool (decide (h < k))) ∧ w = w' := by
  have ho : (FloatKind.f64.format.order (fw h) (fw k) == some .lt) = decide (h < k) := by
    show (Ieee.double.order (fw h) (fw k) == some .lt) = _
    rw [order_fw h k hh hk, Bool.eq_iff_iff, beq_iff_eq, decide_eq_true_eq]
    constructor
    · intro e
      exact Int.compare_eq_lt.1 (Option.some.inj e)
    · intro e
      rw [Int.compare_eq_lt.2 e]
  have HN := Lib.hid (fun w => isNaN_fw h hh w)
  cases hd : decide (h < k) with
  | true =>
    rw [hd] at ho
    clear hd hh hk
    go_enter Tryz.func196, Tryz.ntmps196
    go_wp2_with fail
    go_ret
    exact ⟨rfl, rfl⟩
  | false =>
    rw [hd] at ho
    clear hd hh hk
    go_enter Tryz.func196, Tryz.ntmps196
    go_wp2_with fail
    refine (HN.out _).mono ?_
    rintro e w1 ⟨rfl, rfl⟩
    go_wp2_with fail
    go_ret
    exact ⟨rfl, rfl⟩
theorem cmp_flts (h k : Int) (hh : HE h) (hk : HE k) (w : World) : Calls Tryz.prog 195 #[.float .f64 (fw h), .float .f64 (fw k)] w (Gives (fun v => v = .int .i64 (h - k).sign) w) := by
  have HL := Lib.hid (fun w => lt_flt h k hh hk w)
  have ho : (FloatKind.f64.format.order (fw h) (fw k) == some .eq) = decide (h = k) := by
    show (Ieee.double.order (fw h) (fw k) == some .eq) = _
    rw [order_fw h k hh hk, Bool.eq_iff_iff, beq_iff_eq, decide_eq_true_eq]
    constructor
    · intro e
      exact Int.compare_eq_eq.1 (Option.some.inj e)
    · rintro rfl
      simp
  clear hh hk
  rcases Int.lt_trichotomy h k with c | c | c
  · rw [Int.sign_eq_neg_one_of_neg (by omega)]
    rw [decide_eq_true c] at HL
    clear c ho
    go_enter Tryz.func195, Tryz.ntmps195
    go_wp2_with fail
    refine (HL.out _).mono ?_
    rintro e w1 ⟨rfl, rfl⟩
    go_wp2_with fail
    go_ret
    exact ⟨_, rfl, rfl, Below.refl _ _⟩
  · rw [show h - k = 0 by omega, Int.sign_zero]
    rw [decide_eq_false (show ¬ h < k by omega)] at HL
    rw [decide_eq_true c] at ho
    clear c
    go_enter Tryz.func195, Tryz.ntmps195
    go_wp2_with fail
    refine (HL.out _).mono ?_
    rintro e w1 ⟨rfl, rfl⟩
    go_wp2_with fail
    go_ret
    exact ⟨_, rfl, rfl, Below.refl _ _⟩
  · rw [Int.sign_eq_one_of_pos (by omega)]
    rw [decide_eq_false (show ¬ h < k by omega)] at HL
    rw [decide_eq_false (show ¬ h = k by omega)] at ho
    clear c
    go_enter Tryz.func195, Tryz.ntmps195
    go_wp2_with fail
    refine (HL.out _).mono ?_
    rintro e w1 ⟨rfl, rfl⟩
    go_wp2_with fail
    go_ret
    exact ⟨_, rfl, rfl, Below.refl _ _⟩
theorem nan_str (s : ByteArray) (w : World) : Calls Tryz.prog 232 #[.string s] w fun e w' => e = .returned (.bool false) ∧ w = w' := by
  have h1 : (s.toList != s.toList) = false := by simp
  have h2 : (s.toList == s.toList) = true := by simp
  go_enter Tryz.func232, Tryz.ntmps232
  go_wp2_with fail
  go_ret
  exact ⟨rfl, rfl⟩
theorem cmp_strs (s t : ByteArray) (w : World) : Calls Tryz.prog 197 #[.string s, .string t] w (Gives (fun v => v = .int .i64 (tx s t)) w) := by
  unfold tx
  by_cases c : s.toList = t.toList
  · rw [if_pos c]
    have h1 : Op.bytesLess s.toList t.toList = false := by rw [c]; exact bless_irrefl _
    have h2 : (!(Op.bytesLess s.toList t.toList || s.toList == t.toList)) = false := by rw [c]; simp
    have h3 : (!(s.toList == t.toList)) = false := by rw [c]; simp
    clear c
    go_enter Tryz.func197, Tryz.ntmps197
    go_wp2_with fail
    refine (nan_str _ _).mono ?_
    rintro e w1 ⟨rfl, rfl⟩
    go_wp2_with fail
    refine (nan_str _ _).mono ?_
    rintro e w1 ⟨rfl, rfl⟩
    go_wp2_with fail
    go_ret
    exact ⟨_, rfl, rfl, Below.refl _ _⟩
  rw [if_neg c]
  by_cases d : Op.bytesLess s.toList t.toList = true
  · rw [if_pos d]
    clear c
    go_enter Tryz.func197, Tryz.ntmps197
    go_wp2_with fail
    refine (nan_str _ _).mono ?_
    rintro e w1 ⟨rfl, rfl⟩
    go_wp2_with fail
    refine (nan_str _ _).mono ?_
    rintro e w1 ⟨rfl, rfl⟩
    go_wp2_with fail
    go_ret
    exact ⟨_, rfl, rfl, Below.refl _ _⟩
  · rw [if_neg d]
    have h1 : Op.bytesLess s.toList t.toList = false := by simpa using d
    have h2 : (!(Op.bytesLess s.toList t.toList || s.toList == t.toList)) = true := by rw [h1]; simp [c]
    have h3 : (!(s.toList == t.toList)) = true := by simp [c]
    clear c d
    go_enter Tryz.func197, Tryz.ntmps197
    go_wp2_with fail
    refine (nan_str _ _).mono ?_
    rintro e w1 ⟨rfl, rfl⟩
    go_wp2_with fail
    refine (nan_str _ _).mono ?_
    rintro e w1 ⟨rfl, rfl⟩
    go_wp2_with fail
    go_ret
    exact ⟨_, rfl, rfl, Below.refl _ _⟩
end Go.Proofs.YtbnfeicpjmfooaaGreatDoor.NumA
