/-
Values that are numbers: package spec's order of them; what package impl makes of them; what comes back.
-/
import Derived.Test.YtdcgjfiknknjfaaGreatDoorValA
import Derived.Test.YtdcgjfiknknjfaaGreatDoorFloH
import Derived.Laws.Externs
namespace Go.Proofs.YtdcgjfiknknjfaaGreatDoor.NumA
open Go.RowKit Go.Lib Go.Proofs.YtdcgjfiknknjfaaGreatDoor.ValA Go.Proofs.YtdcgjfiknknjfaaGreatDoor.FloH
/-- What a value holds beside its kind and its number. -/
structure Rest where
  s : ByteArray
  a : Option Addr
  l : Nat
  c : Nat
  a1 : Option Addr
  l1 : Nat
  c1 : Nat
  a2 : Option Addr
  l2 : Nat
  c2 : Nat
def vl (k h : Int) (r : Rest) : Value := .agg #[.int .i64 k, .int .i64 h, .string r.s, .slice r.a r.l r.c, .slice r.a1 r.l1 r.c1, .slice r.a2 r.l2 r.c2]
/-- A Res. -/
def rv (k h e : Int) (r : Rest) : Value := .agg #[.int .i64 k, .int .i64 h, .string r.s, .slice r.a r.l r.c, .slice r.a1 r.l1 r.c1, .slice r.a2 r.l2 r.c2, .int .i64 e]
theorem sign_any (n : Int) (w : World) : Calls Tryz.prog 50 #[.int .i64 n] w fun e w' => e = .returned (.int .i64 n.sign) ∧ w = w' := by
  rcases Int.lt_trichotomy n 0 with h | h | h
  · rw [Int.sign_eq_neg_one_of_neg h]
    have h1 : decide (n < 0) = true := decide_eq_true h
    clear h
    go_enter Tryz.func50, Tryz.ntmps50
    go_wp2
    go_ret
    exact ⟨rfl, rfl⟩
  · subst h
    go_enter Tryz.func50, Tryz.ntmps50
    go_wp2
    go_ret
    exact ⟨rfl, rfl⟩
  · rw [Int.sign_eq_one_of_pos h]
    have h1 : decide (n < 0) = false := decide_eq_false (by omega)
    have h2 : decide (0 < n) = true := decide_eq_true h
    clear h
    go_enter Tryz.func50, Tryz.ntmps50
    go_wp2
    go_ret
    exact ⟨rfl, rfl⟩
theorem cmp_num (h k : Int) (r r' : Rest) (w : World) (h1 : -2305843009213693952 ≤ h) (h2 : h ≤ 2305843009213693952) (k1 : -2305843009213693952 ≤ k) (k2 : k ≤ 2305843009213693952) :
    Calls Tryz.prog 30 #[vl 3 h r, vl 3 k r'] w fun e w' => e = .returned (.int .i64 (h - k).sign) ∧ Below w.heap.size w w' := by
  obtain ⟨s, a, l, c, a1, l1, c1, a2, l2, c2⟩ := r
  obtain ⟨s', a', l', c', a1', l1', c1', a2', l2', c2'⟩ := r'
  simp only [vl]
  go_enter Tryz.func30, Tryz.ntmps30
  go_wp2_with fail
  refine (sign_any _ _).mono ?_
  rintro e w1 ⟨rfl, rfl⟩
  go_wp2_with fail
  go_ret
  exact ⟨congrArg (fun x => Ending.returned (.int .i64 (Int.sign x))) (by first | rfl | (unfold wrap64; omega)), ((Below.refl _ w).alloc (Nat.le_refl _) _).alloc (by simp) _⟩
theorem same_num (h k : Int) (r r' : Rest) (w : World) (h1 : -2305843009213693952 ≤ h) (h2 : h ≤ 2305843009213693952) (k1 : -2305843009213693952 ≤ k) (k2 : k ≤ 2305843009213693952) :
    Calls Tryz.prog 27 #[vl 3 h r, vl 3 k r'] w fun e w' => e = .returned (.bool (decide (h = k))) ∧ Below w.heap.size w w' := by
  have HC := Lib.hid (fun w => cmp_num h k r r' w h1 h2 k1 k2)
  have hs : ((h - k).sign == 0) = decide (h = k) := by
    rw [Bool.eq_iff_iff, beq_iff_eq, decide_eq_true_eq, Int.sign_eq_zero_iff_zero]; omega
  have HS := Lib.hid hs
  clear h1 h2 k1 k2 hs
  obtain ⟨s, a, l, c, a1, l1, c1, a2, l2, c2⟩ := r
  obtain ⟨s', a', l', c', a1', l1', c1', a2', l2', c2'⟩ := r'
  simp only [vl] at HC ⊢
  go_enter Tryz.func27, Tryz.ntmps27
  go_wp2_with fail
  refine (HC.out _).mono ?_
  rintro e w1 ⟨rfl, hb⟩
  have HB := Lib.hid (Below.trans (((Below.refl _ w).alloc (Nat.le_refl _) (.cells #[.int .i64 3, .int .i64 h, .string s, .slice a l c, .slice a1 l1 c1, .slice a2 l2 c2] 26)).alloc (by simp) (.cells #[.int .i64 3, .int .i64 k, .string s', .slice a' l' c', .slice a1' l1' c1', .slice a2' l2' c2'] 26)) (hb.mono (by simp; omega)))
  clear hb
  go_wp2_with fail
  go_ret
  exact ⟨congrArg (fun x => Ending.returned (.bool x)) HS.out, HB.out⟩
theorem told_num (h k : Int) (r r' : Rest) (w : World) (h1 : -2305843009213693952 ≤ h) (h2 : h ≤ 2305843009213693952) (k1 : -2305843009213693952 ≤ k) (k2 : k ≤ 2305843009213693952) :
    Calls Tryz.prog 44 #[rv 3 h 0 r, vl 3 k r', .int .i64 0] w fun e w' => e = .returned (.bool (decide (h = k))) ∧ Below w.heap.size w w' := by
  have HC := Lib.hid (fun w => same_num h k r r' w h1 h2 k1 k2)
  clear h1 h2 k1 k2
  obtain ⟨s, a, l, c, a1, l1, c1, a2, l2, c2⟩ := r
  obtain ⟨s', a', l', c', a1', l1', c1', a2', l2', c2'⟩ := r'
  simp only [vl, rv] at HC ⊢
  go_enter Tryz.func44, Tryz.ntmps44
  go_wp2_with fail
  refine (HC.out _).mono ?_
  rintro e w1 ⟨rfl, hb⟩
  have HB := Lib.hid (Below.trans (((Below.refl _ w).alloc (Nat.le_refl _) (.cells #[.int .i64 3, .int .i64 h, .string s, .slice a l c, .slice a1 l1 c1, .slice a2 l2 c2, .int .i64 0] 30)).alloc (by simp) (.cells #[.int .i64 3, .int .i64 k, .string s', .slice a' l' c', .slice a1' l1' c1', .slice a2' l2' c2'] 26)) (hb.mono (by simp; omega)))
  clear hb
  go_wp2_with fail
  go_ret
  exact ⟨rfl, HB.out⟩
theorem given_num (h k : Int) (r r' : Rest) (w : World) (h1 : -2305843009213693952 ≤ h) (h2 : h ≤ 2305843009213693952) (k1 : -2305843009213693952 ≤ k) (k2 : k ≤ 2305843009213693952) :
    Calls Tryz.prog 18 #[rv 3 h 0 r, vl 3 k r'] w fun e w' => e = .returned (.bool (decide (h = k))) ∧ Below w.heap.size w w' := by
  have HC := Lib.hid (fun w => told_num h k r r' w h1 h2 k1 k2)
  clear h1 h2 k1 k2
  obtain ⟨s, a, l, c, a1, l1, c1, a2, l2, c2⟩ := r
  obtain ⟨s', a', l', c', a1', l1', c1', a2', l2', c2'⟩ := r'
  simp only [vl, rv] at HC ⊢
  go_enter Tryz.func18, Tryz.ntmps18
  go_wp2_with fail
  refine (HC.out _).mono ?_
  rintro e w1 ⟨rfl, hb⟩
  have HB := Lib.hid (Below.trans (((Below.refl _ w).alloc (Nat.le_refl _) (.cells #[.int .i64 3, .int .i64 h, .string s, .slice a l c, .slice a1 l1 c1, .slice a2 l2 c2, .int .i64 0] 30)).alloc (by simp) (.cells #[.int .i64 3, .int .i64 k, .string s', .slice a' l' c', .slice a1' l1' c1', .slice a2' l2' c2'] 26)) (hb.mono (by simp; omega)))
  clear hb
  go_wp2_with fail
  go_ret
  exact ⟨rfl, HB.out⟩
/-- What package impl hands on for a number. -/
def gv (h : Int) : Value := if h % 2 = 0 then .iface 3 (.int .i64 (h / 2)) else .iface 61 (.float .f64 (fw h))
theorem toGo_num (h : Int) (r : Rest) (w : World) (h1 : -9007199254740992 ≤ h) (h2 : h ≤ 9007199254740992) :
    Calls Tryz.prog 41 #[vl 3 h r] w fun e w' => e = .returned (.tuple #[gv h, .bool true]) ∧ Below w.heap.size w w' := by
  obtain ⟨s, a, l, c, a1, l1, c1, a2, l2, c2⟩ := r
  simp only [vl]
  unfold gv
  by_cases hm : h % 2 = 0
  · rw [if_pos hm]
    obtain ⟨n, hn⟩ : ∃ n, h = 2 * n := ⟨h / 2, by omega⟩
    have q : h.tdiv 2 = n := by rw [hn]; exact Int.mul_tdiv_cancel_left n (by omega)
    have m : (h.tmod 2 == 0) = true := by rw [beq_iff_eq, hn]; exact Int.mul_tmod_right 2 n
    have e : h / 2 = n := by omega
    rw [e]
    have Q := Lib.hid q
    clear q hm hn e
    go_enter Tryz.func41, Tryz.ntmps41
    go_wp2_with fail
    go_ret2
    exact ⟨by rw [← Q.out]; rfl, (Below.refl _ w).alloc (Nat.le_refl _) _⟩
  · rw [if_neg hm]
    have m : (h.tmod 2 == 0) = false := by
      rw [beq_eq_false_iff_ne]
      intro e
      exact hm (Int.emod_eq_zero_of_dvd (Int.dvd_of_tmod_eq_zero e))
    have hf : floatOfInt .f64 h = fw (2 * h) := ofInt_fw h (he_even h h1 h2)
    have hq : ∀ w, (binOp .quo 61 (.float .f64 (fw (2 * h))) (.float .f64 4611686018427387904)).run Tryz.prog w = .ok (.float .f64 (fw h)) w := fun w => run_float_arith w .quo 61 .f64 _ _ _ (half_fw h (by omega) (he_small h (by omega) (by omega)) (he_even h h1 h2))
    clear hm h1 h2
    go_enter Tryz.func41, Tryz.ntmps41
    go_wp2_with fail
    go_ret2
    exact ⟨rfl, (Below.refl _ w).alloc (Nat.le_refl _) _⟩
def r0 : Rest := ⟨⟨#[]⟩, none, 0, 0, none, 0, 0, none, 0, 0⟩
theorem is33 (v : Value) (w : World) : (Instr.typeAssert (.iface 3 v) 20 3 true).run Tryz.prog w = .ok (.tuple #[v, .bool true]) w := by kernel_rfl
theorem no34 (v : Value) (w : World) : (Instr.typeAssert (.iface 3 v) 20 4 true).run Tryz.prog w = .ok (.tuple #[.bool false, .bool false]) w := by kernel_rfl
theorem is66 (v : Value) (w : World) : (Instr.typeAssert (.iface 61 v) 20 61 true).run Tryz.prog w = .ok (.tuple #[v, .bool true]) w := by kernel_rfl
theorem no63 (v : Value) (w : World) : (Instr.typeAssert (.iface 61 v) 20 3 true).run Tryz.prog w = .ok (.tuple #[.int .i64 0, .bool false]) w := by kernel_rfl
theorem no64 (v : Value) (w : World) : (Instr.typeAssert (.iface 61 v) 20 4 true).run Tryz.prog w = .ok (.tuple #[.bool false, .bool false]) w := by kernel_rfl
theorem fromGo_int (n : Int) (w : World) (h1 : -1000000000000000000 ≤ n) (h2 : n ≤ 1000000000000000000) :
    Calls Tryz.prog 63 #[.iface 3 (.int .i64 n)] w fun e w' => e = .returned (.tuple #[vl 3 (2 * n) r0, .bool true]) ∧ Below w.heap.size w w' := by
  have a1 := fun w => is33 (.int .i64 n) w
  have a2 := fun w => no34 (.int .i64 n) w
  have e1 : decide (-4611686018427387904 ≤ n) = true := decide_eq_true (by omega)
  have e2 : decide (n ≤ 4611686018427387903) = true := decide_eq_true (by omega)
  go_enter Tryz.func63, Tryz.ntmps63
  go_wp2_with fail
  refine bodyPost_ret (v := .tuple #[vl 3 (2 * n) r0, .bool true]) (by simp [results, Tryz.results63, go_sem, vl, r0]) rfl ⟨rfl, ?_⟩
  exact (Below.refl _ w).alloc (Nat.le_refl _) _
theorem isNaN_fw (h : Int) (hE : HE h) (w : World) : Calls Tryz.prog 125 #[.float .f64 (fw h)] w fun e w' => e = .returned (.bool false) ∧ w = w' := by
  have ho : (FloatKind.f64.format.order (fw h) (fw h) != some .eq) = false := by
    show (Ieee.double.order (fw h) (fw h) != some .eq) = false
    rw [order_fw h h hE hE]
    have : compare h h = .eq := by simp
    rw [this]; rfl
  clear hE
  go_enter Tryz.func125, Tryz.ntmps125
  go_wp2_with fail
  go_ret
  exact ⟨rfl, rfl⟩
theorem toI (x : Nat) (s : Bool) (m : Nat) (i : Int) (h : FloatKind.f64.decode x = .number s m i) : Extern.MathFloor.toIntegral "math.archTrunc" .zero #[.float .f64 x] = pure (.float .f64 (FloatKind.f64.encode ((Ieee.Datum.number s m i).integral .zero))) := by
  have e : Extern.MathFloor.toIntegral "math.archTrunc" .zero #[.float .f64 x] = Extern.MathFloor.toIntegral.match_1 (fun _ => Sem Value) (FloatKind.f64.decode x) (fun s t => _) (fun d => pure (.float .f64 (FloatKind.f64.encode (d.integral .zero)))) := rfl
  rw [e, h]
theorem run_trunc (n : Int) (hE : HE (2 * n)) (w : World) : (callFunc 149 #[.float .f64 (fw (2 * n))]).run Tryz.prog w = .ok (.value (.float .f64 (fw (2 * n)))) w := by
  rw [run_callFunc_extern (e := Extern.MathFloor.toIntegral "math.archTrunc" .zero) Tryz.func149 (by kernel_rfl) (by kernel_rfl) (by kernel_rfl) (by kernel_rfl)]
  have ht := trunc_fw n hE
  obtain ⟨m, i, hr, _⟩ := read_fw (2 * n) hE
  have hr' : FloatKind.f64.decode (fw (2 * n)) = .number (decide (2 * n < 0)) m i := hr
  rw [hr'] at ht
  have : (Extern.MathFloor.toIntegral "math.archTrunc" .zero #[.float .f64 (fw (2 * n))]).run Tryz.prog w = .ok (.float .f64 (fw (2 * n))) w := by
    rw [toI _ _ _ _ hr', ht]
    rfl
  rw [this]
  rfl
theorem trunc_any (n : Int) (hE : HE (2 * n)) (w : World) : Calls Tryz.prog 130 #[.float .f64 (fw (2 * n))] w fun e w' => e = .returned (.float .f64 (fw (2 * n))) ∧ w = w' := by
  have ht := fun w => run_trunc n hE w
  clear hE
  go_enter Tryz.func130, Tryz.ntmps130
  go_wp2_with fail
  go_ret
  exact ⟨rfl, rfl⟩
end Go.Proofs.YtdcgjfiknknjfaaGreatDoor.NumA
