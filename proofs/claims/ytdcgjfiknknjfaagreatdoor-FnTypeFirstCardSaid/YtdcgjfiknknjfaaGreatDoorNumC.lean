/-
Package gojq's sums, differences and opposites of two numbers: the switch over the kinds, its closures, the doors; impl.OpAdd, OpSub, Negate.
-/
import Derived.Test.YtdcgjfiknknjfaaGreatDoorNumB
namespace Go.Proofs.YtdcgjfiknknjfaaGreatDoor.NumA
open Go.RowKit Go.Lib Go.Proofs.YtdcgjfiknknjfaaGreatDoor.ValA Go.Proofs.YtdcgjfiknknjfaaGreatDoor.FloH
theorem three_boxes (w : World) (ca cb cc : Array Value) (ta tb tc : TypeId) : Below w.heap.size w (((w.alloc (.cells ca ta)).alloc (.cells cb tb)).alloc (.cells cc tc)) ∧ (((w.alloc (.cells ca ta)).alloc (.cells cb tb)).alloc (.cells cc tc)).heap[w.heap.size + 1 + 1]? = some (.cells cc tc (0, 0)) ∧ (((w.alloc (.cells ca ta)).alloc (.cells cb tb)).alloc (.cells cc tc)).heap[w.heap.size + 1]? = some (.cells cb tb (0, 0)) := by
  refine ⟨(((Below.refl _ w).alloc (Nat.le_refl _) _).alloc (by simp) _).alloc (by simp; omega) _, ?_, ?_⟩
  · have := heap_alloc_new ((w.alloc (.cells ca ta)).alloc (.cells cb tb)) (.cells cc tc)
    simpa using this
  · have h1 := heap_alloc_new (w.alloc (.cells ca ta)) (.cells cb tb)
    have h2 := (World.grownBy_alloc ((w.alloc (.cells ca ta)).alloc (.cells cb tb)) (.cells cc tc) none).block _ (lt_of_heap h1) (by simp)
    have h3 := h2.trans h1
    simpa using h3
set_option maxRecDepth 100000 in
set_option maxHeartbeats 4000000 in
theorem bin_add_ii (Q : Value → Prop) (m n : Int) (HC : ∀ w, Calls Tryz.prog 92 #[.int .i64 m, .int .i64 n] w (Gives Q w))  (w : World) :
    Calls Tryz.prog 91 #[.iface 3 (.int .i64 m), .iface 3 (.int .i64 n), Value.func (Fn.func 92) #[] #[], Value.func (Fn.func 95) #[] #[], Value.func (Fn.func 96) #[] #[], Value.func (Fn.func 97) #[] #[], Value.func (Fn.func 98) #[] #[], Value.func (Fn.func 99) #[] #[], Value.func (Fn.func 101) #[] #[]] w (Gives Q w) := by
  have H := Lib.hid HC
  clear HC
  have ia1 := fun w => noJ3 (.int .i64 m) w
  have ia2 := fun w => is33 (.int .i64 m) w
  have ib1 := fun w => noJ3 (.int .i64 n) w
  have ib2 := fun w => is33 (.int .i64 n) w
  go_enter Tryz.func91, Tryz.ntmps91
  go_wp2_with fail
  refine (H.out _).mono ?_
  rintro e w1 ⟨v, rfl, hv⟩
  have HB := Lib.hid hv; clear hv
  go_wp2_with fail
  go_ret
  exact ⟨_, rfl, HB.out⟩
set_option maxRecDepth 100000 in
set_option maxHeartbeats 4000000 in
theorem bin_add_ff (Q : Value → Prop) (x y : Nat) (HC : ∀ w, Calls Tryz.prog 95 #[.float .f64 x, .float .f64 y] w (Gives Q w))  (w : World) :
    Calls Tryz.prog 91 #[.iface 61 (.float .f64 x), .iface 61 (.float .f64 y), Value.func (Fn.func 92) #[] #[], Value.func (Fn.func 95) #[] #[], Value.func (Fn.func 96) #[] #[], Value.func (Fn.func 97) #[] #[], Value.func (Fn.func 98) #[] #[], Value.func (Fn.func 99) #[] #[], Value.func (Fn.func 101) #[] #[]] w (Gives Q w) := by
  have H := Lib.hid HC
  clear HC
  have fa1 := fun w => noJ6 (.float .f64 x) w
  have fa2 := fun w => no63 (.float .f64 x) w
  have fa3 := fun w => is66 (.float .f64 x) w
  have fb1 := fun w => noJ6 (.float .f64 y) w
  have fb2 := fun w => no63 (.float .f64 y) w
  have fb3 := fun w => is66 (.float .f64 y) w
  go_enter Tryz.func91, Tryz.ntmps91
  go_wp2_with fail
  refine (H.out _).mono ?_
  rintro e w1 ⟨v, rfl, hv⟩
  have HB := Lib.hid hv; clear hv
  go_wp2_with fail
  go_ret
  exact ⟨_, rfl, HB.out⟩
set_option maxRecDepth 100000 in
set_option maxHeartbeats 4000000 in
theorem bin_add_if (Q : Value → Prop) (m : Int) (x y : Nat) (HC : ∀ w, Calls Tryz.prog 95 #[.float .f64 x, .float .f64 y] w (Gives Q w)) (hx : floatOfInt .f64 m = x) (w : World) :
    Calls Tryz.prog 91 #[.iface 3 (.int .i64 m), .iface 61 (.float .f64 y), Value.func (Fn.func 92) #[] #[], Value.func (Fn.func 95) #[] #[], Value.func (Fn.func 96) #[] #[], Value.func (Fn.func 97) #[] #[], Value.func (Fn.func 98) #[] #[], Value.func (Fn.func 99) #[] #[], Value.func (Fn.func 101) #[] #[]] w (Gives Q w) := by
  have H := Lib.hid HC
  clear HC
  have ia1 := fun w => noJ3 (.int .i64 m) w
  have ia2 := fun w => is33 (.int .i64 m) w
  have fb1 := fun w => noJ6 (.float .f64 y) w
  have fb2 := fun w => no63 (.float .f64 y) w
  have fb3 := fun w => is66 (.float .f64 y) w
  go_enter Tryz.func91, Tryz.ntmps91
  go_wp2_with fail
  refine (H.out _).mono ?_
  rintro e w1 ⟨v, rfl, hv⟩
  have HB := Lib.hid hv; clear hv
  go_wp2_with fail
  go_ret
  exact ⟨_, rfl, HB.out⟩
set_option maxRecDepth 100000 in
set_option maxHeartbeats 4000000 in
theorem bin_add_fi (Q : Value → Prop) (x : Nat) (n : Int) (y : Nat) (HC : ∀ w, Calls Tryz.prog 95 #[.float .f64 x, .float .f64 y] w (Gives Q w)) (hy : floatOfInt .f64 n = y) (w : World) :
    Calls Tryz.prog 91 #[.iface 61 (.float .f64 x), .iface 3 (.int .i64 n), Value.func (Fn.func 92) #[] #[], Value.func (Fn.func 95) #[] #[], Value.func (Fn.func 96) #[] #[], Value.func (Fn.func 97) #[] #[], Value.func (Fn.func 98) #[] #[], Value.func (Fn.func 99) #[] #[], Value.func (Fn.func 101) #[] #[]] w (Gives Q w) := by
  have H := Lib.hid HC
  clear HC
  have fa1 := fun w => noJ6 (.float .f64 x) w
  have fa2 := fun w => no63 (.float .f64 x) w
  have fa3 := fun w => is66 (.float .f64 x) w
  have ib1 := fun w => noJ3 (.int .i64 n) w
  have ib2 := fun w => is33 (.int .i64 n) w
  go_enter Tryz.func91, Tryz.ntmps91
  go_wp2_with fail
  refine (H.out _).mono ?_
  rintro e w1 ⟨v, rfl, hv⟩
  have HB := Lib.hid hv; clear hv
  go_wp2_with fail
  go_ret
  exact ⟨_, rfl, HB.out⟩
theorem bin_add (Q : Value → Prop) (va vb : Value) (h k : Int) (ha : GNum va h) (hb : GNum vb k)
    (HI : ∀ m n, h = 2 * m → k = 2 * n → ∀ w, Calls Tryz.prog 92 #[.int .i64 m, .int .i64 n] w (Gives Q w)) (HF : ∀ w, Calls Tryz.prog 95 #[.float .f64 (fw h), .float .f64 (fw k)] w (Gives Q w))
    (h1 : -9007199254740992 ≤ h) (h2 : h ≤ 9007199254740992) (k1 : -9007199254740992 ≤ k) (k2 : k ≤ 9007199254740992) (w : World) :
    Calls Tryz.prog 91 #[va, vb, Value.func (Fn.func 92) #[] #[], Value.func (Fn.func 95) #[] #[], Value.func (Fn.func 96) #[] #[], Value.func (Fn.func 97) #[] #[], Value.func (Fn.func 98) #[] #[], Value.func (Fn.func 99) #[] #[], Value.func (Fn.func 101) #[] #[]] w (Gives Q w) := by
  rcases ha with ⟨m, e, rfl, m1, m2⟩ | ⟨rfl, m1, m2⟩
  · rcases hb with ⟨n, e', rfl, n1, n2⟩ | ⟨rfl, n1, n2⟩
    · exact bin_add_ii Q m n (HI m n e e') w
    · refine bin_add_if Q m (fw h) (fw k) HF ?_ w
      rw [ofInt_fw m (by rw [← e]; exact he_small h h1 h2), e]
  · rcases hb with ⟨n, e', rfl, n1, n2⟩ | ⟨rfl, n1, n2⟩
    · refine bin_add_fi Q (fw h) n (fw k) HF ?_ w
      rw [ofInt_fw n (by rw [← e']; exact he_small k k1 k2), e']
    · exact bin_add_ff Q _ _ HF w
set_option maxRecDepth 100000 in
set_option maxHeartbeats 4000000 in
theorem bin_sub_ii (Q : Value → Prop) (m n : Int) (HC : ∀ w, Calls Tryz.prog 102 #[.int .i64 m, .int .i64 n] w (Gives Q w))  (w : World) :
    Calls Tryz.prog 91 #[.iface 3 (.int .i64 m), .iface 3 (.int .i64 n), Value.func (Fn.func 102) #[] #[], Value.func (Fn.func 104) #[] #[], Value.func (Fn.func 105) #[] #[], Value.func (Fn.func 106) #[] #[], Value.func (Fn.func 107) #[] #[], Value.func (Fn.func 108) #[] #[], Value.func (Fn.func 109) #[] #[]] w (Gives Q w) := by
  have H := Lib.hid HC
  clear HC
  have ia1 := fun w => noJ3 (.int .i64 m) w
  have ia2 := fun w => is33 (.int .i64 m) w
  have ib1 := fun w => noJ3 (.int .i64 n) w
  have ib2 := fun w => is33 (.int .i64 n) w
  go_enter Tryz.func91, Tryz.ntmps91
  go_wp2_with fail
  refine (H.out _).mono ?_
  rintro e w1 ⟨v, rfl, hv⟩
  have HB := Lib.hid hv; clear hv
  go_wp2_with fail
  go_ret
  exact ⟨_, rfl, HB.out⟩
set_option maxRecDepth 100000 in
set_option maxHeartbeats 4000000 in
theorem bin_sub_ff (Q : Value → Prop) (x y : Nat) (HC : ∀ w, Calls Tryz.prog 104 #[.float .f64 x, .float .f64 y] w (Gives Q w))  (w : World) :
    Calls Tryz.prog 91 #[.iface 61 (.float .f64 x), .iface 61 (.float .f64 y), Value.func (Fn.func 102) #[] #[], Value.func (Fn.func 104) #[] #[], Value.func (Fn.func 105) #[] #[], Value.func (Fn.func 106) #[] #[], Value.func (Fn.func 107) #[] #[], Value.func (Fn.func 108) #[] #[], Value.func (Fn.func 109) #[] #[]] w (Gives Q w) := by
  have H := Lib.hid HC
  clear HC
  have fa1 := fun w => noJ6 (.float .f64 x) w
  have fa2 := fun w => no63 (.float .f64 x) w
  have fa3 := fun w => is66 (.float .f64 x) w
  have fb1 := fun w => noJ6 (.float .f64 y) w
  have fb2 := fun w => no63 (.float .f64 y) w
  have fb3 := fun w => is66 (.float .f64 y) w
  go_enter Tryz.func91, Tryz.ntmps91
  go_wp2_with fail
  refine (H.out _).mono ?_
  rintro e w1 ⟨v, rfl, hv⟩
  have HB := Lib.hid hv; clear hv
  go_wp2_with fail
  go_ret
  exact ⟨_, rfl, HB.out⟩
set_option maxRecDepth 100000 in
set_option maxHeartbeats 4000000 in
theorem bin_sub_if (Q : Value → Prop) (m : Int) (x y : Nat) (HC : ∀ w, Calls Tryz.prog 104 #[.float .f64 x, .float .f64 y] w (Gives Q w)) (hx : floatOfInt .f64 m = x) (w : World) :
    Calls Tryz.prog 91 #[.iface 3 (.int .i64 m), .iface 61 (.float .f64 y), Value.func (Fn.func 102) #[] #[], Value.func (Fn.func 104) #[] #[], Value.func (Fn.func 105) #[] #[], Value.func (Fn.func 106) #[] #[], Value.func (Fn.func 107) #[] #[], Value.func (Fn.func 108) #[] #[], Value.func (Fn.func 109) #[] #[]] w (Gives Q w) := by
  have H := Lib.hid HC
  clear HC
  have ia1 := fun w => noJ3 (.int .i64 m) w
  have ia2 := fun w => is33 (.int .i64 m) w
  have fb1 := fun w => noJ6 (.float .f64 y) w
  have fb2 := fun w => no63 (.float .f64 y) w
  have fb3 := fun w => is66 (.float .f64 y) w
  go_enter Tryz.func91, Tryz.ntmps91
  go_wp2_with fail
  refine (H.out _).mono ?_
  rintro e w1 ⟨v, rfl, hv⟩
  have HB := Lib.hid hv; clear hv
  go_wp2_with fail
  go_ret
  exact ⟨_, rfl, HB.out⟩
set_option maxRecDepth 100000 in
set_option maxHeartbeats 4000000 in
theorem bin_sub_fi (Q : Value → Prop) (x : Nat) (n : Int) (y : Nat) (HC : ∀ w, Calls Tryz.prog 104 #[.float .f64 x, .float .f64 y] w (Gives Q w)) (hy : floatOfInt .f64 n = y) (w : World) :
    Calls Tryz.prog 91 #[.iface 61 (.float .f64 x), .iface 3 (.int .i64 n), Value.func (Fn.func 102) #[] #[], Value.func (Fn.func 104) #[] #[], Value.func (Fn.func 105) #[] #[], Value.func (Fn.func 106) #[] #[], Value.func (Fn.func 107) #[] #[], Value.func (Fn.func 108) #[] #[], Value.func (Fn.func 109) #[] #[]] w (Gives Q w) := by
  have H := Lib.hid HC
  clear HC
  have fa1 := fun w => noJ6 (.float .f64 x) w
  have fa2 := fun w => no63 (.float .f64 x) w
  have fa3 := fun w => is66 (.float .f64 x) w
  have ib1 := fun w => noJ3 (.int .i64 n) w
  have ib2 := fun w => is33 (.int .i64 n) w
  go_enter Tryz.func91, Tryz.ntmps91
  go_wp2_with fail
  refine (H.out _).mono ?_
  rintro e w1 ⟨v, rfl, hv⟩
  have HB := Lib.hid hv; clear hv
  go_wp2_with fail
  go_ret
  exact ⟨_, rfl, HB.out⟩
theorem bin_sub (Q : Value → Prop) (va vb : Value) (h k : Int) (ha : GNum va h) (hb : GNum vb k)
    (HI : ∀ m n, h = 2 * m → k = 2 * n → ∀ w, Calls Tryz.prog 102 #[.int .i64 m, .int .i64 n] w (Gives Q w)) (HF : ∀ w, Calls Tryz.prog 104 #[.float .f64 (fw h), .float .f64 (fw k)] w (Gives Q w))
    (h1 : -9007199254740992 ≤ h) (h2 : h ≤ 9007199254740992) (k1 : -9007199254740992 ≤ k) (k2 : k ≤ 9007199254740992) (w : World) :
    Calls Tryz.prog 91 #[va, vb, Value.func (Fn.func 102) #[] #[], Value.func (Fn.func 104) #[] #[], Value.func (Fn.func 105) #[] #[], Value.func (Fn.func 106) #[] #[], Value.func (Fn.func 107) #[] #[], Value.func (Fn.func 108) #[] #[], Value.func (Fn.func 109) #[] #[]] w (Gives Q w) := by
  rcases ha with ⟨m, e, rfl, m1, m2⟩ | ⟨rfl, m1, m2⟩
  · rcases hb with ⟨n, e', rfl, n1, n2⟩ | ⟨rfl, n1, n2⟩
    · exact bin_sub_ii Q m n (HI m n e e') w
    · refine bin_sub_if Q m (fw h) (fw k) HF ?_ w
      rw [ofInt_fw m (by rw [← e]; exact he_small h h1 h2), e]
  · rcases hb with ⟨n, e', rfl, n1, n2⟩ | ⟨rfl, n1, n2⟩
    · refine bin_sub_fi Q (fw h) n (fw k) HF ?_ w
      rw [ofInt_fw n (by rw [← e']; exact he_small k k1 k2), e']
    · exact bin_sub_ff Q _ _ HF w
theorem add_ints (m n : Int) (m1 : -1000000000000000000 ≤ m) (m2 : m ≤ 1000000000000000000) (n1 : -1000000000000000000 ≤ n) (n2 : n ≤ 1000000000000000000) (s1 : -1000000000000000000 ≤ m + n) (s2 : m + n ≤ 1000000000000000000) (w : World) :
    Calls Tryz.prog 92 #[.int .i64 m, .int .i64 n] w (Gives (fun v => GNum v (2 * m + 2 * n)) w) := by
  have hc : (decide (m ≤ wrap64 (m + n)) == decide (0 ≤ n)) = true := by
    rw [beq_iff_eq, decide_eq_decide]; unfold wrap64; omega
  have hw : wrap64 (m + n) = m + n := by unfold wrap64; omega
  have HF := Lib.hid (show GNum (.iface 3 (.int .i64 (m + n))) (2 * m + 2 * n) from .inl ⟨m + n, by omega, rfl, by omega, by omega⟩)
  have HW := Lib.hid hw
  clear hw m1 m2 n1 n2 s1 s2
  go_enter Tryz.func92, Tryz.ntmps92
  go_wp2_with fail
  go_ret
  exact ⟨_, rfl, by rw [HW.out]; exact HF.out, Below.refl _ _⟩
theorem add_flts (h k : Int) (h1 : -9007199254740992 ≤ h) (h2 : h ≤ 9007199254740992) (k1 : -9007199254740992 ≤ k) (k2 : k ≤ 9007199254740992) (s1 : -9007199254740992 ≤ h + k) (s2 : h + k ≤ 9007199254740992) (w : World) :
    Calls Tryz.prog 95 #[.float .f64 (fw h), .float .f64 (fw k)] w (Gives (fun v => GNum v (h + k)) w) := by
  have hq : ∀ w, (binOp .add 61 (.float .f64 (fw h)) (.float .f64 (fw k))).run Tryz.prog w = .ok (.float .f64 (fw (h + k))) w := fun w => run_float_arith w .add 61 .f64 _ _ _ (add_fw h k (he_small h h1 h2) (he_small k k1 k2) (he_small _ s1 s2))
  have HF := Lib.hid (show GNum (.iface 61 (.float .f64 (fw (h + k)))) (h + k) from .inr ⟨rfl, s1, s2⟩)
  clear h1 h2 k1 k2 s1 s2
  go_enter Tryz.func95, Tryz.ntmps95
  go_wp2_with fail
  go_ret
  exact ⟨_, rfl, HF.out, Below.refl _ _⟩
theorem zz_add (va vb : Value) (h k : Int) (ha : GNum va h) (hb : GNum vb k) (h1 : -9007199254740992 ≤ h) (h2 : h ≤ 9007199254740992) (k1 : -9007199254740992 ≤ k) (k2 : k ≤ 9007199254740992) (s1 : -9007199254740992 ≤ h + k) (s2 : h + k ≤ 9007199254740992) (w : World) :
    Calls Tryz.prog 43 #[va, vb] w (Gives (fun v => GNum v (h + k)) w) := by
  have HB := Lib.hid (fun w => bin_add (fun v => GNum v (h + k)) va vb h k ha hb (fun m n e e' w => by subst e; subst e'; exact add_ints m n (by omega) (by omega) (by omega) (by omega) (by omega) (by omega) w) (fun w => add_flts h k h1 h2 k1 k2 s1 s2 w) h1 h2 k1 k2 w)
  clear ha hb h1 h2 k1 k2 s1 s2
  have H2 : Hid (∀ w, Calls Tryz.prog 64 #[.nilIface, va, vb] w (Gives (fun v => GNum v (h + k)) w)) := by
    refine Lib.hid fun w => ?_
    go_enter Tryz.func64, Tryz.ntmps64
    go_wp2_with fail
    refine (HB.out _).mono ?_
    rintro e w1 ⟨v, rfl, hv⟩
    have HV := Lib.hid hv; clear hv
    go_wp2_with fail
    go_ret
    exact ⟨_, rfl, HV.out⟩
  clear HB
  go_enter Tryz.func43, Tryz.ntmps43
  go_wp2_with fail
  refine (H2.out _).mono ?_
  rintro e w1 ⟨v, rfl, hv⟩
  have HV := Lib.hid hv; clear hv
  go_wp2_with fail
  go_ret
  exact ⟨_, rfl, HV.out⟩
set_option maxHeartbeats 1000000 in
theorem impl_add (h k : Int) (r r' : Rest) (h1 : -9007199254740992 ≤ h) (h2 : h ≤ 9007199254740992) (k1 : -9007199254740992 ≤ k) (k2 : k ≤ 9007199254740992) (s1 : -9007199254740992 ≤ h + k) (s2 : h + k ≤ 9007199254740992) (w : World) :
    Calls Tryz.prog 17 #[vl 3 h r, vl 3 k r'] w fun e w' => e = .returned (rv 3 (h + k) 0 r0) ∧ Below w.heap.size w w' := by
  have HA := Lib.hid (fun w => toGo_num h r w (by omega) (by omega))
  have HB := Lib.hid (fun w => toGo_num k r' w (by omega) (by omega))
  have HC := Lib.hid (fun w => zz_add (gv h) (gv k) h k (gv_num h (by omega) (by omega)) (gv_num k (by omega) (by omega)) h1 h2 k1 k2 s1 s2 w)
  have HD := Lib.hid (fun v hv w => result_num v (h + k) hv w)
  obtain ⟨a, ha⟩ : ∃ a, a = gv h := ⟨_, rfl⟩
  obtain ⟨b, hb⟩ : ∃ b, b = gv k := ⟨_, rfl⟩
  rw [← ha] at HA HC
  rw [← hb] at HB HC
  clear h1 h2 k1 k2 s1 s2 ha hb
  obtain ⟨s, q, l, c, q1, l1, c1, q2, l2, c2⟩ := r
  obtain ⟨s', q', l', c', q1', l1', c1', q2', l2', c2'⟩ := r'
  simp only [vl, rv, r0] at HA HB HD ⊢
  go_enter Tryz.func17, Tryz.ntmps17
  go_wp2_with fail
  have h3 := three_boxes w #[.int .i64 3, .int .i64 h, .string s, .slice q l c, .slice q1 l1 c1, .slice q2 l2 c2] #[.int .i64 3, .int .i64 k, .string s', .slice q' l' c', .slice q1' l1' c1', .slice q2' l2' c2'] #[.int .i64 0, .int .i64 0, .string ⟨#[]⟩, .slice none 0 0, .slice none 0 0, .slice none 0 0, .int .i64 0] 26 26 30
  obtain ⟨w0, hw0⟩ : ∃ w0, w0 = (((w.alloc (.cells #[.int .i64 3, .int .i64 h, .string s, .slice q l c, .slice q1 l1 c1, .slice q2 l2 c2] 26)).alloc (.cells #[.int .i64 3, .int .i64 k, .string s', .slice q' l' c', .slice q1' l1' c1', .slice q2' l2' c2'] 26)).alloc (.cells #[.int .i64 0, .int .i64 0, .string ⟨#[]⟩, .slice none 0 0, .slice none 0 0, .slice none 0 0, .int .i64 0] 30)) := ⟨_, rfl⟩
  rw [← hw0] at h3 ⊢
  clear hw0
  have H0 := Lib.hid h3
  clear h3
  refine (HA.out w0).mono ?_
  rintro e w1 ⟨rfl, hb⟩
  have hy := (hb.block _ (lt_of_heap H0.out.2.2)).trans H0.out.2.2
  have H1 := Lib.hid (And.intro (H0.out.1.trans (hb.mono H0.out.1.size)) ((hb.block _ (lt_of_heap H0.out.2.1)).trans H0.out.2.1))
  clear hb H0
  have y := six_cells hy
  clear hy
  go_wp2_with fail
  refine (HB.out w1).mono ?_
  rintro e w2 ⟨rfl, hb⟩
  clear y
  have H2 := Lib.hid (And.intro (H1.out.1.trans (hb.mono H1.out.1.size)) ((hb.block _ (lt_of_heap H1.out.2)).trans H1.out.2))
  clear hb H1
  go_wp2_with fail
  refine (HC.out w2).mono ?_
  rintro e w3 ⟨v, rfl, hv, hb⟩
  have HV := Lib.hid hv
  have H3 := Lib.hid (And.intro (H2.out.1.trans (hb.mono H2.out.1.size)) ((hb.block _ (lt_of_heap H2.out.2)).trans H2.out.2))
  clear hb H2 hv
  go_wp2_with fail
  refine (HD.out v HV.out w3).mono ?_
  rintro e w4 ⟨rfl, hb⟩
  have hx := (hb.block _ (lt_of_heap H3.out.2)).trans H3.out.2
  have H4 := Lib.hid (H3.out.1.trans (hb.mono H3.out.1.size))
  clear hb H3
  have y := sev_cells hx
  go_wp2_with fail
  have hz := sev_set hx (.int .i64 3) (.int .i64 (h + k)) (.string ⟨#[]⟩) (.slice none 0 0) (.slice none 0 0) (.slice none 0 0) (.int .i64 0)
  have hg := sev_grown w4 (w.heap.size + 1 + 1) (.int .i64 3) (.int .i64 (h + k)) (.string ⟨#[]⟩) (.slice none 0 0) (.slice none 0 0) (.slice none 0 0) (.int .i64 0)
  obtain ⟨W2, hW⟩ : ∃ W2, W2 = (((((((w4.setCell ⟨w.heap.size + 1 + 1, 0, none⟩ (.int .i64 3)).setCell ⟨w.heap.size + 1 + 1, 1, none⟩ (.int .i64 (h + k))).setCell ⟨w.heap.size + 1 + 1, 2, none⟩ (.string ⟨#[]⟩)).setCell ⟨w.heap.size + 1 + 1, 3, none⟩ (.slice none 0 0)).setCell ⟨w.heap.size + 1 + 1, 4, none⟩ (.slice none 0 0)).setCell ⟨w.heap.size + 1 + 1, 5, none⟩ (.slice none 0 0)).setCell ⟨w.heap.size + 1 + 1, 6, none⟩ (.int .i64 0)) := ⟨_, rfl⟩
  rw [← hW] at hz hg ⊢
  clear hW y hx
  obtain ⟨q0, q1, q2, q3, q4, q5, q6, _⟩ := sev_cells hz
  refine bodyPost_ret (v := .agg #[.int .i64 3, .int .i64 (h + k), .string ⟨#[]⟩, .slice none 0 0, .slice none 0 0, .slice none 0 0, .int .i64 0]) (by simp [results, Tryz.results17, go_sem, q0, q1, q2, q3, q4, q5, q6]) rfl ?_
  exact ⟨rfl, H4.out.grown hg H4.out.size (fun k hk => by cases hk; omega)⟩
theorem sub_ints (m n : Int) (m1 : -1000000000000000000 ≤ m) (m2 : m ≤ 1000000000000000000) (n1 : -1000000000000000000 ≤ n) (n2 : n ≤ 1000000000000000000) (s1 : -1000000000000000000 ≤ m - n) (s2 : m - n ≤ 1000000000000000000) (w : World) :
    Calls Tryz.prog 102 #[.int .i64 m, .int .i64 n] w (Gives (fun v => GNum v (2 * m - 2 * n)) w) := by
  have hc : (decide (wrap64 (m - n) ≤ m) == decide (0 ≤ n)) = true := by
    rw [beq_iff_eq, decide_eq_decide]; unfold wrap64; omega
  have hw : wrap64 (m - n) = m - n := by unfold wrap64; omega
  have HF := Lib.hid (show GNum (.iface 3 (.int .i64 (m - n))) (2 * m - 2 * n) from .inl ⟨m - n, by omega, rfl, by omega, by omega⟩)
  have HW := Lib.hid hw
  clear hw m1 m2 n1 n2 s1 s2
  go_enter Tryz.func102, Tryz.ntmps102
  go_wp2_with fail
  go_ret
  exact ⟨_, rfl, by rw [HW.out]; exact HF.out, Below.refl _ _⟩
theorem sub_flts (h k : Int) (h1 : -9007199254740992 ≤ h) (h2 : h ≤ 9007199254740992) (k1 : -9007199254740992 ≤ k) (k2 : k ≤ 9007199254740992) (s1 : -9007199254740992 ≤ h - k) (s2 : h - k ≤ 9007199254740992) (w : World) :
    Calls Tryz.prog 104 #[.float .f64 (fw h), .float .f64 (fw k)] w (Gives (fun v => GNum v (h - k)) w) := by
  have hq : ∀ w, (binOp .sub 61 (.float .f64 (fw h)) (.float .f64 (fw k))).run Tryz.prog w = .ok (.float .f64 (fw (h - k))) w := fun w => run_float_arith w .sub 61 .f64 _ _ _ (sub_fw h k (he_small h h1 h2) (he_small k k1 k2) (he_small _ s1 s2))
  have HF := Lib.hid (show GNum (.iface 61 (.float .f64 (fw (h - k)))) (h - k) from .inr ⟨rfl, s1, s2⟩)
  clear h1 h2 k1 k2 s1 s2
  go_enter Tryz.func104, Tryz.ntmps104
  go_wp2_with fail
  go_ret
  exact ⟨_, rfl, HF.out, Below.refl _ _⟩
theorem zz_sub (va vb : Value) (h k : Int) (ha : GNum va h) (hb : GNum vb k) (h1 : -9007199254740992 ≤ h) (h2 : h ≤ 9007199254740992) (k1 : -9007199254740992 ≤ k) (k2 : k ≤ 9007199254740992) (s1 : -9007199254740992 ≤ h - k) (s2 : h - k ≤ 9007199254740992) (w : World) :
    Calls Tryz.prog 45 #[va, vb] w (Gives (fun v => GNum v (h - k)) w) := by
  have HB := Lib.hid (fun w => bin_sub (fun v => GNum v (h - k)) va vb h k ha hb (fun m n e e' w => by subst e; subst e'; exact sub_ints m n (by omega) (by omega) (by omega) (by omega) (by omega) (by omega) w) (fun w => sub_flts h k h1 h2 k1 k2 s1 s2 w) h1 h2 k1 k2 w)
  clear ha hb h1 h2 k1 k2 s1 s2
  have H2 : Hid (∀ w, Calls Tryz.prog 65 #[.nilIface, va, vb] w (Gives (fun v => GNum v (h - k)) w)) := by
    refine Lib.hid fun w => ?_
    go_enter Tryz.func65, Tryz.ntmps65
    go_wp2_with fail
    refine (HB.out _).mono ?_
    rintro e w1 ⟨v, rfl, hv⟩
    have HV := Lib.hid hv; clear hv
    go_wp2_with fail
    go_ret
    exact ⟨_, rfl, HV.out⟩
  clear HB
  go_enter Tryz.func45, Tryz.ntmps45
  go_wp2_with fail
  refine (H2.out _).mono ?_
  rintro e w1 ⟨v, rfl, hv⟩
  have HV := Lib.hid hv; clear hv
  go_wp2_with fail
  go_ret
  exact ⟨_, rfl, HV.out⟩
set_option maxHeartbeats 1000000 in
theorem impl_sub (h k : Int) (r r' : Rest) (h1 : -9007199254740992 ≤ h) (h2 : h ≤ 9007199254740992) (k1 : -9007199254740992 ≤ k) (k2 : k ≤ 9007199254740992) (s1 : -9007199254740992 ≤ h - k) (s2 : h - k ≤ 9007199254740992) (w : World) :
    Calls Tryz.prog 19 #[vl 3 h r, vl 3 k r'] w fun e w' => e = .returned (rv 3 (h - k) 0 r0) ∧ Below w.heap.size w w' := by
  have HA := Lib.hid (fun w => toGo_num h r w (by omega) (by omega))
  have HB := Lib.hid (fun w => toGo_num k r' w (by omega) (by omega))
  have HC := Lib.hid (fun w => zz_sub (gv h) (gv k) h k (gv_num h (by omega) (by omega)) (gv_num k (by omega) (by omega)) h1 h2 k1 k2 s1 s2 w)
  have HD := Lib.hid (fun v hv w => result_num v (h - k) hv w)
  obtain ⟨a, ha⟩ : ∃ a, a = gv h := ⟨_, rfl⟩
  obtain ⟨b, hb⟩ : ∃ b, b = gv k := ⟨_, rfl⟩
  rw [← ha] at HA HC
  rw [← hb] at HB HC
  clear h1 h2 k1 k2 s1 s2 ha hb
  obtain ⟨s, q, l, c, q1, l1, c1, q2, l2, c2⟩ := r
  obtain ⟨s', q', l', c', q1', l1', c1', q2', l2', c2'⟩ := r'
  simp only [vl, rv, r0] at HA HB HD ⊢
  go_enter Tryz.func19, Tryz.ntmps19
  go_wp2_with fail
  have h3 := three_boxes w #[.int .i64 3, .int .i64 h, .string s, .slice q l c, .slice q1 l1 c1, .slice q2 l2 c2] #[.int .i64 3, .int .i64 k, .string s', .slice q' l' c', .slice q1' l1' c1', .slice q2' l2' c2'] #[.int .i64 0, .int .i64 0, .string ⟨#[]⟩, .slice none 0 0, .slice none 0 0, .slice none 0 0, .int .i64 0] 26 26 30
  obtain ⟨w0, hw0⟩ : ∃ w0, w0 = (((w.alloc (.cells #[.int .i64 3, .int .i64 h, .string s, .slice q l c, .slice q1 l1 c1, .slice q2 l2 c2] 26)).alloc (.cells #[.int .i64 3, .int .i64 k, .string s', .slice q' l' c', .slice q1' l1' c1', .slice q2' l2' c2'] 26)).alloc (.cells #[.int .i64 0, .int .i64 0, .string ⟨#[]⟩, .slice none 0 0, .slice none 0 0, .slice none 0 0, .int .i64 0] 30)) := ⟨_, rfl⟩
  rw [← hw0] at h3 ⊢
  clear hw0
  have H0 := Lib.hid h3
  clear h3
  refine (HA.out w0).mono ?_
  rintro e w1 ⟨rfl, hb⟩
  have hy := (hb.block _ (lt_of_heap H0.out.2.2)).trans H0.out.2.2
  have H1 := Lib.hid (And.intro (H0.out.1.trans (hb.mono H0.out.1.size)) ((hb.block _ (lt_of_heap H0.out.2.1)).trans H0.out.2.1))
  clear hb H0
  have y := six_cells hy
  clear hy
  go_wp2_with fail
  refine (HB.out w1).mono ?_
  rintro e w2 ⟨rfl, hb⟩
  clear y
  have H2 := Lib.hid (And.intro (H1.out.1.trans (hb.mono H1.out.1.size)) ((hb.block _ (lt_of_heap H1.out.2)).trans H1.out.2))
  clear hb H1
  go_wp2_with fail
  refine (HC.out w2).mono ?_
  rintro e w3 ⟨v, rfl, hv, hb⟩
  have HV := Lib.hid hv
  have H3 := Lib.hid (And.intro (H2.out.1.trans (hb.mono H2.out.1.size)) ((hb.block _ (lt_of_heap H2.out.2)).trans H2.out.2))
  clear hb H2 hv
  go_wp2_with fail
  refine (HD.out v HV.out w3).mono ?_
  rintro e w4 ⟨rfl, hb⟩
  have hx := (hb.block _ (lt_of_heap H3.out.2)).trans H3.out.2
  have H4 := Lib.hid (H3.out.1.trans (hb.mono H3.out.1.size))
  clear hb H3
  have y := sev_cells hx
  go_wp2_with fail
  have hz := sev_set hx (.int .i64 3) (.int .i64 (h - k)) (.string ⟨#[]⟩) (.slice none 0 0) (.slice none 0 0) (.slice none 0 0) (.int .i64 0)
  have hg := sev_grown w4 (w.heap.size + 1 + 1) (.int .i64 3) (.int .i64 (h - k)) (.string ⟨#[]⟩) (.slice none 0 0) (.slice none 0 0) (.slice none 0 0) (.int .i64 0)
  obtain ⟨W2, hW⟩ : ∃ W2, W2 = (((((((w4.setCell ⟨w.heap.size + 1 + 1, 0, none⟩ (.int .i64 3)).setCell ⟨w.heap.size + 1 + 1, 1, none⟩ (.int .i64 (h - k))).setCell ⟨w.heap.size + 1 + 1, 2, none⟩ (.string ⟨#[]⟩)).setCell ⟨w.heap.size + 1 + 1, 3, none⟩ (.slice none 0 0)).setCell ⟨w.heap.size + 1 + 1, 4, none⟩ (.slice none 0 0)).setCell ⟨w.heap.size + 1 + 1, 5, none⟩ (.slice none 0 0)).setCell ⟨w.heap.size + 1 + 1, 6, none⟩ (.int .i64 0)) := ⟨_, rfl⟩
  rw [← hW] at hz hg ⊢
  clear hW y hx
  obtain ⟨q0, q1, q2, q3, q4, q5, q6, _⟩ := sev_cells hz
  refine bodyPost_ret (v := .agg #[.int .i64 3, .int .i64 (h - k), .string ⟨#[]⟩, .slice none 0 0, .slice none 0 0, .slice none 0 0, .int .i64 0]) (by simp [results, Tryz.results19, go_sem, q0, q1, q2, q3, q4, q5, q6]) rfl ?_
  exact ⟨rfl, H4.out.grown hg H4.out.size (fun k hk => by cases hk; omega)⟩
end Go.Proofs.YtdcgjfiknknjfaaGreatDoor.NumA
