import Derived.Test.YtaiidipcmnejoaaGreatDoorNumAll
import Derived.Test.YtaiidipcmnejoaaGreatDoorIntAll

namespace Go.Proofs.YtaiidipcmnejoaaGreatDoor.NumV
open Go.RowKit Go.Lib Go.Proofs.YtaiidipcmnejoaaGreatDoorW.PrintWords Go.Proofs.YtaiidipcmnejoaaGreatDoorW.PrintLast Go.Proofs.YtaiidipcmnejoaaGreatDoorW.PrintMore
open Go.Proofs.YtaiidipcmnejoaaGreatDoor.Nt Go.Proofs.YtaiidipcmnejoaaGreatDoor.Dec Go.Proofs.YtaiidipcmnejoaaGreatDoor.IntW Go.Proofs.YtaiidipcmnejoaaGreatDoor.NumW
open Go.Proofs.YtaiidipcmnejoaaGreatDoor.Spec (S S_list S_toList S_size S_of S_ext)
theorem no124_3 (v : Value) (w : World) : (Instr.typeAssert (.iface 3 v) 20 124 true).run Tryz.prog w = .ok (.tuple #[.string ⟨#[]⟩, .bool false]) w := by kernel_rfl
theorem no124_62 (v : Value) (w : World) : (Instr.typeAssert (.iface 62 v) 20 124 true).run Tryz.prog w = .ok (.tuple #[.string ⟨#[]⟩, .bool false]) w := by kernel_rfl
theorem no68_62 (v : Value) (w : World) : (Instr.typeAssert (.iface 62 v) 20 68 true).run Tryz.prog w = .ok (.tuple #[.float .f64 0, .bool false]) w := by kernel_rfl
/-- What a binary operation gives: a value of which Q says something. -/
def Gives (Q : World → Value → Prop) (w : World) (e : Ending) (w' : World) : Prop := ∃ v, e = .returned v ∧ Q w' v ∧ Below w.heap.size w w'
set_option maxRecDepth 100000 in
set_option maxHeartbeats 4000000 in
theorem binop_ii (f3 f5 f6 f7 f8 : Nat) (Q : World → Value → Prop) (m n : Int) (hI : ∀ w, Calls Tryz.prog 83 #[.int .i64 m, .int .i64 n] w (Gives Q w)) (w : World) :
    Calls Tryz.prog 82 #[.iface 3 (.int .i64 m), .iface 3 (.int .i64 n), Value.func (Fn.func 83) #[] #[], Value.func (Fn.func f3) #[] #[], Value.func (Fn.func 87) #[] #[], Value.func (Fn.func f5) #[] #[], Value.func (Fn.func f6) #[] #[], Value.func (Fn.func f7) #[] #[], Value.func (Fn.func f8) #[] #[]] w (Gives Q w) := by
  have HC := Lib.hid (hI w)
  clear hI
  have a1 := fun w => no124_3 (.int .i64 m) w
  have a2 := fun w => no124_3 (.int .i64 n) w
  have a3 := fun w => is3 (.int .i64 m) w
  have a4 := fun w => is3 (.int .i64 n) w
  go_enter Tryz.func82, Tryz.ntmps82
  go_wp2_with fail
  refine HC.out.mono ?_
  rintro e w1 ⟨v, rfl, hv⟩
  have HB := Lib.hid hv; clear hv
  go_wp2_with fail
  go_ret
  exact ⟨_, rfl, HB.out⟩
set_option maxRecDepth 100000 in
set_option maxHeartbeats 4000000 in
theorem binop_ib (f3 f5 f6 f7 f8 : Nat) (Q : World → Value → Prop) (m n : Int) (L : Nat) (hB : ∀ gx gy w, IntAt w gx m L → IntAt w gy n L → Calls Tryz.prog 87 #[.pointer (some ⟨gx, 0, none⟩), .pointer (some ⟨gy, 0, none⟩)] w (Gives Q w)) (g : Nat) (w : World) (h0m : -9223372036854775808 ≤ m) (h1m : m ≤ 9223372036854775807) (hg : IntAt w g n L) (hL : 2 ≤ L) :
    Calls Tryz.prog 82 #[.iface 3 (.int .i64 m), .iface 62 (.pointer (some ⟨g, 0, none⟩)), Value.func (Fn.func 83) #[] #[], Value.func (Fn.func f3) #[] #[], Value.func (Fn.func 87) #[] #[], Value.func (Fn.func f5) #[] #[], Value.func (Fn.func f6) #[] #[], Value.func (Fn.func f7) #[] #[], Value.func (Fn.func f8) #[] #[]] w (Gives Q w) := by
  have HC := Lib.hid hB
  clear hB
  have a0_no124_3 := fun w => no124_3 (.int .i64 m) w
  have a0_is3 := fun w => is3 (.int .i64 m) w
  have a1_no124_62 := fun w => no124_62 (.pointer (some ⟨g, 0, none⟩)) w
  have a1_no3 := fun w => no3 (.pointer (some ⟨g, 0, none⟩)) w
  have a1_no68_62 := fun w => no68_62 (.pointer (some ⟨g, 0, none⟩)) w
  have a1_is62 := fun w => is62 (.pointer (some ⟨g, 0, none⟩)) w
  have HN := Lib.hid (fun w => newInt_any m h0m h1m w)
  have HG := Lib.hid hg
  have HL := Lib.hid hL
  clear h0m h1m hg hL
  go_enter Tryz.func82, Tryz.ntmps82
  go_wp2_with fail
  refine (HN.out _).mono ?_
  rintro e w1 ⟨q, rfl, hq, hi, hb⟩
  have HX := Lib.hid (hi.mono HL.out)
  have HY := Lib.hid (HG.out.below hb)
  have HB1 := Lib.hid hb
  clear hq hi hb
  go_wp2_with fail
  refine (HC.out _ _ _ HX.out HY.out).mono ?_
  rintro e w2 ⟨v, rfl, hv, hb⟩
  have HB := Lib.hid (And.intro hv hb); clear hv hb
  go_wp2_with fail
  go_ret
  exact ⟨_, rfl, HB.out.1, HB1.out.trans (HB.out.2.mono HB1.out.size)⟩
set_option maxRecDepth 100000 in
set_option maxHeartbeats 4000000 in
theorem binop_bi (f3 f5 f6 f7 f8 : Nat) (Q : World → Value → Prop) (m n : Int) (L : Nat) (hB : ∀ gx gy w, IntAt w gx m L → IntAt w gy n L → Calls Tryz.prog 87 #[.pointer (some ⟨gx, 0, none⟩), .pointer (some ⟨gy, 0, none⟩)] w (Gives Q w)) (g : Nat) (w : World) (h0n : -9223372036854775808 ≤ n) (h1n : n ≤ 9223372036854775807) (hg : IntAt w g m L) (hL : 2 ≤ L) :
    Calls Tryz.prog 82 #[.iface 62 (.pointer (some ⟨g, 0, none⟩)), .iface 3 (.int .i64 n), Value.func (Fn.func 83) #[] #[], Value.func (Fn.func f3) #[] #[], Value.func (Fn.func 87) #[] #[], Value.func (Fn.func f5) #[] #[], Value.func (Fn.func f6) #[] #[], Value.func (Fn.func f7) #[] #[], Value.func (Fn.func f8) #[] #[]] w (Gives Q w) := by
  have HC := Lib.hid hB
  clear hB
  have a0_no124_62 := fun w => no124_62 (.pointer (some ⟨g, 0, none⟩)) w
  have a0_no3 := fun w => no3 (.pointer (some ⟨g, 0, none⟩)) w
  have a0_no68_62 := fun w => no68_62 (.pointer (some ⟨g, 0, none⟩)) w
  have a0_is62 := fun w => is62 (.pointer (some ⟨g, 0, none⟩)) w
  have a1_no124_3 := fun w => no124_3 (.int .i64 n) w
  have a1_is3 := fun w => is3 (.int .i64 n) w
  have HN := Lib.hid (fun w => newInt_any n h0n h1n w)
  have HG := Lib.hid hg
  have HL := Lib.hid hL
  clear h0n h1n hg hL
  go_enter Tryz.func82, Tryz.ntmps82
  go_wp2_with fail
  refine (HN.out _).mono ?_
  rintro e w1 ⟨q, rfl, hq, hi, hb⟩
  have HY := Lib.hid (hi.mono HL.out)
  have HX := Lib.hid (HG.out.below hb)
  have HB1 := Lib.hid hb
  clear hq hi hb
  go_wp2_with fail
  refine (HC.out _ _ _ HX.out HY.out).mono ?_
  rintro e w2 ⟨v, rfl, hv, hb⟩
  have HB := Lib.hid (And.intro hv hb); clear hv hb
  go_wp2_with fail
  go_ret
  exact ⟨_, rfl, HB.out.1, HB1.out.trans (HB.out.2.mono HB1.out.size)⟩
set_option maxRecDepth 100000 in
set_option maxHeartbeats 4000000 in
theorem binop_bb (f3 f5 f6 f7 f8 : Nat) (Q : World → Value → Prop) (m n : Int) (L : Nat) (hB : ∀ gx gy w, IntAt w gx m L → IntAt w gy n L → Calls Tryz.prog 87 #[.pointer (some ⟨gx, 0, none⟩), .pointer (some ⟨gy, 0, none⟩)] w (Gives Q w)) (g k : Nat) (w : World) (hg : IntAt w g m L) (hk : IntAt w k n L) :
    Calls Tryz.prog 82 #[.iface 62 (.pointer (some ⟨g, 0, none⟩)), .iface 62 (.pointer (some ⟨k, 0, none⟩)), Value.func (Fn.func 83) #[] #[], Value.func (Fn.func f3) #[] #[], Value.func (Fn.func 87) #[] #[], Value.func (Fn.func f5) #[] #[], Value.func (Fn.func f6) #[] #[], Value.func (Fn.func f7) #[] #[], Value.func (Fn.func f8) #[] #[]] w (Gives Q w) := by
  have HC := Lib.hid hB
  clear hB
  have a0_no124_62 := fun w => no124_62 (.pointer (some ⟨g, 0, none⟩)) w
  have a0_no3 := fun w => no3 (.pointer (some ⟨g, 0, none⟩)) w
  have a0_no68_62 := fun w => no68_62 (.pointer (some ⟨g, 0, none⟩)) w
  have a0_is62 := fun w => is62 (.pointer (some ⟨g, 0, none⟩)) w
  have a1_no124_62 := fun w => no124_62 (.pointer (some ⟨k, 0, none⟩)) w
  have a1_no3 := fun w => no3 (.pointer (some ⟨k, 0, none⟩)) w
  have a1_no68_62 := fun w => no68_62 (.pointer (some ⟨k, 0, none⟩)) w
  have a1_is62 := fun w => is62 (.pointer (some ⟨k, 0, none⟩)) w
  have HX := Lib.hid hg
  have HY := Lib.hid hk
  clear hg hk
  go_enter Tryz.func82, Tryz.ntmps82
  go_wp2_with fail
  refine (HC.out _ _ _ HX.out HY.out).mono ?_
  rintro e w2 ⟨v, rfl, hv, hb⟩
  have HB := Lib.hid (And.intro hv hb); clear hv hb
  go_wp2_with fail
  go_ret
  exact ⟨_, rfl, HB.out.1, HB.out.2⟩
theorem binop_any (f3 f5 f6 f7 f8 : Nat) (Q : World → Value → Prop) (m n : Int) (L : Nat) (hI : -9223372036854775808 ≤ m → m ≤ 9223372036854775807 → -9223372036854775808 ≤ n → n ≤ 9223372036854775807 → ∀ w, Calls Tryz.prog 83 #[.int .i64 m, .int .i64 n] w (Gives Q w)) (hB : ∀ gx gy w, IntAt w gx m L → IntAt w gy n L → Calls Tryz.prog 87 #[.pointer (some ⟨gx, 0, none⟩), .pointer (some ⟨gy, 0, none⟩)] w (Gives Q w)) (va vb : Value) (w : World) (ha : GoN w m L va) (hb : GoN w n L vb) (hL : 2 ≤ L) :
    Calls Tryz.prog 82 #[va, vb, Value.func (Fn.func 83) #[] #[], Value.func (Fn.func f3) #[] #[], Value.func (Fn.func 87) #[] #[], Value.func (Fn.func f5) #[] #[], Value.func (Fn.func f6) #[] #[], Value.func (Fn.func f7) #[] #[], Value.func (Fn.func f8) #[] #[]] w (Gives Q w) := by
  rcases ha with ⟨rfl, a0, a1⟩ | ⟨g, rfl, ha⟩
  · rcases hb with ⟨rfl, b0, b1⟩ | ⟨k, rfl, hb⟩
    · exact binop_ii f3 f5 f6 f7 f8 Q m n (hI a0 a1 b0 b1) w
    · exact binop_ib f3 f5 f6 f7 f8 Q m n L hB k w a0 a1 hb hL
  · rcases hb with ⟨rfl, b0, b1⟩ | ⟨k, rfl, hb⟩
    · exact binop_bi f3 f5 f6 f7 f8 Q m n L hB g w b0 b1 ha hL
    · exact binop_bb f3 f5 f6 f7 f8 Q m n L hB g k w ha hb
end Go.Proofs.YtaiidipcmnejoaaGreatDoor.NumV

namespace Go.Proofs.YtaiidipcmnejoaaGreatDoor.IntW
open Go.RowKit Go.Lib Go.Proofs.YtaiidipcmnejoaaGreatDoorW.PrintWords Go.Proofs.YtaiidipcmnejoaaGreatDoorW.PrintLast Go.Proofs.YtaiidipcmnejoaaGreatDoorW.PrintMore
open Go.Proofs.YtaiidipcmnejoaaGreatDoor.Nt
set_option maxRecDepth 100000 in
set_option maxHeartbeats 4000000 in
theorem neg_new (gz : Nat) (b0 : Bool) (az : Option Addr) (lz cz : Nat) (gx : Nat) (m : Int) (L : Nat) (w : World)
    (hz : w.heap[gz]? = some (.cells #[.bool b0, .slice az lz cz] 97 (0, 0))) (hx : IntAt w gx m L) :
    Calls Tryz.prog 156 #[.pointer (some ⟨gz, 0, none⟩), .pointer (some ⟨gx, 0, none⟩)] w fun e w' => e = .returned (.pointer (some ⟨gz, 0, none⟩)) ∧ IntAt w' gz (-m) L ∧ w.grownBy w' (some gz) := by
  obtain ⟨xneg, xs, sv, h1, h2, h3, h4, h5, h6⟩ := hx
  have h2' := h2
  obtain ⟨ax, cx, rfl, hcx, hCx⟩ := h2
  obtain ⟨x0, x1, x2, x3⟩ := two_cells h1
  obtain ⟨z0, z1, z2, z3⟩ := two_cells hz
  have fin : ∀ b2 : Bool, b2 = (decide (0 < xs.length) && !xneg) → IntAt ((w.drew.setCell ⟨gz, 1, none⟩ (.slice ax xs.length cx)).setCell ⟨gz, 0, none⟩ (.bool b2)) gz (-m) L ∧ w.grownBy ((w.drew.setCell ⟨gz, 1, none⟩ (.slice ax xs.length cx)).setCell ⟨gz, 0, none⟩ (.bool b2)) (some gz) := by
    intro b2 hb2
    have hz' : w.drew.heap[gz]? = some (.cells #[.bool b0, .slice az lz cz] 97 (0, 0)) := hz
    have hw1 : w.drew.grownBy ((w.drew.setCell ⟨gz, 1, none⟩ (.slice ax xs.length cx)).setCell ⟨gz, 0, none⟩ (.bool b2)) (some gz) := grown_set (grown_set (World.grownBy.refl w.drew _) 1 _) 0 _
    have hV : NatV w.drew (.slice ax xs.length cx) xs := NatV.drewN h2' 1
    refine ⟨⟨b2, xs, _, set_both hz' _ _, NatV.move hV (int_ne hz' hw1), h3, ?_, ?_, h6⟩, grown_drewN (k := 1) hw1⟩
    · rw [hb2, h4]
      cases xs with
      | nil => cases xneg <;> simp [nv]
      | cons x r => cases xneg <;> simp
    · intro e
      rw [hb2] at e
      simp only [Bool.and_eq_true, decide_eq_true_eq] at e
      rintro rfl
      simp at e
  have FF := Lib.hid fin
  clear fin h1 hz h2' hcx hCx h3 h4 h5 h6
  by_cases hr : 0 < xs.length
  · have hr2 : decide (0 < (xs.length : Int)) = true := decide_eq_true (by omega)
    have hr1 : decide (0 < xs.length) = true := decide_eq_true hr
    clear hr
    go_enter Tryz.func156, Tryz.ntmps156
    go_wp2_with fail
    go_region
    all_goals
      go_wp2_with fail
      go_ret
      exact ⟨rfl, FF.out _ (by rw [hr1]; cases xneg <;> rfl)⟩
  · have hr2 : decide (0 < (xs.length : Int)) = false := decide_eq_false (by omega)
    have hr1 : decide (0 < xs.length) = false := decide_eq_false hr
    clear hr
    go_enter Tryz.func156, Tryz.ntmps156
    go_wp2_with fail
    go_region
    all_goals
      go_wp2_with fail
      go_ret
      exact ⟨rfl, FF.out _ (by rw [hr1]; rfl)⟩
end Go.Proofs.YtaiidipcmnejoaaGreatDoor.IntW

namespace Go.Proofs.YtaiidipcmnejoaaGreatDoor.OpMulW
open Go.RowKit Go.Lib Go.Proofs.YtaiidipcmnejoaaGreatDoorW.PrintWords Go.Proofs.YtaiidipcmnejoaaGreatDoorW.PrintLast Go.Proofs.YtaiidipcmnejoaaGreatDoorW.PrintMore
open Go.Proofs.YtaiidipcmnejoaaGreatDoor.Nt Go.Proofs.YtaiidipcmnejoaaGreatDoor.Dec Go.Proofs.YtaiidipcmnejoaaGreatDoor.IntW Go.Proofs.YtaiidipcmnejoaaGreatDoor.NumW Go.Proofs.YtaiidipcmnejoaaGreatDoor.NumV
open Go.Proofs.YtaiidipcmnejoaaGreatDoor.Spec (S S_list S_toList S_size S_of S_ext)
set_option maxRecDepth 100000 in
set_option maxHeartbeats 4000000 in
theorem binop_ii (f3 f5 f6 f7 f8 : Nat) (Q : World → Value → Prop) (m n : Int) (hI : ∀ w, Calls Tryz.prog 105 #[.int .i64 m, .int .i64 n] w (Gives Q w)) (w : World) :
    Calls Tryz.prog 82 #[.iface 3 (.int .i64 m), .iface 3 (.int .i64 n), Value.func (Fn.func 105) #[] #[], Value.func (Fn.func f3) #[] #[], Value.func (Fn.func 109) #[] #[], Value.func (Fn.func f5) #[] #[], Value.func (Fn.func f6) #[] #[], Value.func (Fn.func f7) #[] #[], Value.func (Fn.func f8) #[] #[]] w (Gives Q w) := by
  have HC := Lib.hid (hI w)
  clear hI
  have a1 := fun w => no124_3 (.int .i64 m) w
  have a2 := fun w => no124_3 (.int .i64 n) w
  have a3 := fun w => is3 (.int .i64 m) w
  have a4 := fun w => is3 (.int .i64 n) w
  go_enter Tryz.func82, Tryz.ntmps82
  go_wp2_with fail
  refine HC.out.mono ?_
  rintro e w1 ⟨v, rfl, hv⟩
  have HB := Lib.hid hv; clear hv
  go_wp2_with fail
  go_ret
  exact ⟨_, rfl, HB.out⟩
set_option maxRecDepth 100000 in
set_option maxHeartbeats 4000000 in
theorem binop_ib (f3 f5 f6 f7 f8 : Nat) (Q : World → Value → Prop) (m n : Int) (L : Nat) (hB : ∀ gx gy w, IntAt w gx m L → IntAt w gy n L → Calls Tryz.prog 109 #[.pointer (some ⟨gx, 0, none⟩), .pointer (some ⟨gy, 0, none⟩)] w (Gives Q w)) (g : Nat) (w : World) (h0m : -9223372036854775808 ≤ m) (h1m : m ≤ 9223372036854775807) (hg : IntAt w g n L) (hL : 2 ≤ L) :
    Calls Tryz.prog 82 #[.iface 3 (.int .i64 m), .iface 62 (.pointer (some ⟨g, 0, none⟩)), Value.func (Fn.func 105) #[] #[], Value.func (Fn.func f3) #[] #[], Value.func (Fn.func 109) #[] #[], Value.func (Fn.func f5) #[] #[], Value.func (Fn.func f6) #[] #[], Value.func (Fn.func f7) #[] #[], Value.func (Fn.func f8) #[] #[]] w (Gives Q w) := by
  have HC := Lib.hid hB
  clear hB
  have a0_no124_3 := fun w => no124_3 (.int .i64 m) w
  have a0_is3 := fun w => is3 (.int .i64 m) w
  have a1_no124_62 := fun w => no124_62 (.pointer (some ⟨g, 0, none⟩)) w
  have a1_no3 := fun w => no3 (.pointer (some ⟨g, 0, none⟩)) w
  have a1_no68_62 := fun w => no68_62 (.pointer (some ⟨g, 0, none⟩)) w
  have a1_is62 := fun w => is62 (.pointer (some ⟨g, 0, none⟩)) w
  have HN := Lib.hid (fun w => newInt_any m h0m h1m w)
  have HG := Lib.hid hg
  have HL := Lib.hid hL
  clear h0m h1m hg hL
  go_enter Tryz.func82, Tryz.ntmps82
  go_wp2_with fail
  refine (HN.out _).mono ?_
  rintro e w1 ⟨q, rfl, hq, hi, hb⟩
  have HX := Lib.hid (hi.mono HL.out)
  have HY := Lib.hid (HG.out.below hb)
  have HB1 := Lib.hid hb
  clear hq hi hb
  go_wp2_with fail
  refine (HC.out _ _ _ HX.out HY.out).mono ?_
  rintro e w2 ⟨v, rfl, hv, hb⟩
  have HB := Lib.hid (And.intro hv hb); clear hv hb
  go_wp2_with fail
  go_ret
  exact ⟨_, rfl, HB.out.1, HB1.out.trans (HB.out.2.mono HB1.out.size)⟩
set_option maxRecDepth 100000 in
set_option maxHeartbeats 4000000 in
theorem binop_bi (f3 f5 f6 f7 f8 : Nat) (Q : World → Value → Prop) (m n : Int) (L : Nat) (hB : ∀ gx gy w, IntAt w gx m L → IntAt w gy n L → Calls Tryz.prog 109 #[.pointer (some ⟨gx, 0, none⟩), .pointer (some ⟨gy, 0, none⟩)] w (Gives Q w)) (g : Nat) (w : World) (h0n : -9223372036854775808 ≤ n) (h1n : n ≤ 9223372036854775807) (hg : IntAt w g m L) (hL : 2 ≤ L) :
    Calls Tryz.prog 82 #[.iface 62 (.pointer (some ⟨g, 0, none⟩)), .iface 3 (.int .i64 n), Value.func (Fn.func 105) #[] #[], Value.func (Fn.func f3) #[] #[], Value.func (Fn.func 109) #[] #[], Value.func (Fn.func f5) #[] #[], Value.func (Fn.func f6) #[] #[], Value.func (Fn.func f7) #[] #[], Value.func (Fn.func f8) #[] #[]] w (Gives Q w) := by
  have HC := Lib.hid hB
  clear hB
  have a0_no124_62 := fun w => no124_62 (.pointer (some ⟨g, 0, none⟩)) w
  have a0_no3 := fun w => no3 (.pointer (some ⟨g, 0, none⟩)) w
  have a0_no68_62 := fun w => no68_62 (.pointer (some ⟨g, 0, none⟩)) w
  have a0_is62 := fun w => is62 (.pointer (some ⟨g, 0, none⟩)) w
  have a1_no124_3 := fun w => no124_3 (.int .i64 n) w
  have a1_is3 := fun w => is3 (.int .i64 n) w
  have HN := Lib.hid (fun w => newInt_any n h0n h1n w)
  have HG := Lib.hid hg
  have HL := Lib.hid hL
  clear h0n h1n hg hL
  go_enter Tryz.func82, Tryz.ntmps82
  go_wp2_with fail
  refine (HN.out _).mono ?_
  rintro e w1 ⟨q, rfl, hq, hi, hb⟩
  have HY := Lib.hid (hi.mono HL.out)
  have HX := Lib.hid (HG.out.below hb)
  have HB1 := Lib.hid hb
  clear hq hi hb
  go_wp2_with fail
  refine (HC.out _ _ _ HX.out HY.out).mono ?_
  rintro e w2 ⟨v, rfl, hv, hb⟩
  have HB := Lib.hid (And.intro hv hb); clear hv hb
  go_wp2_with fail
  go_ret
  exact ⟨_, rfl, HB.out.1, HB1.out.trans (HB.out.2.mono HB1.out.size)⟩
set_option maxRecDepth 100000 in
set_option maxHeartbeats 4000000 in
theorem binop_bb (f3 f5 f6 f7 f8 : Nat) (Q : World → Value → Prop) (m n : Int) (L : Nat) (hB : ∀ gx gy w, IntAt w gx m L → IntAt w gy n L → Calls Tryz.prog 109 #[.pointer (some ⟨gx, 0, none⟩), .pointer (some ⟨gy, 0, none⟩)] w (Gives Q w)) (g k : Nat) (w : World) (hg : IntAt w g m L) (hk : IntAt w k n L) :
    Calls Tryz.prog 82 #[.iface 62 (.pointer (some ⟨g, 0, none⟩)), .iface 62 (.pointer (some ⟨k, 0, none⟩)), Value.func (Fn.func 105) #[] #[], Value.func (Fn.func f3) #[] #[], Value.func (Fn.func 109) #[] #[], Value.func (Fn.func f5) #[] #[], Value.func (Fn.func f6) #[] #[], Value.func (Fn.func f7) #[] #[], Value.func (Fn.func f8) #[] #[]] w (Gives Q w) := by
  have HC := Lib.hid hB
  clear hB
  have a0_no124_62 := fun w => no124_62 (.pointer (some ⟨g, 0, none⟩)) w
  have a0_no3 := fun w => no3 (.pointer (some ⟨g, 0, none⟩)) w
  have a0_no68_62 := fun w => no68_62 (.pointer (some ⟨g, 0, none⟩)) w
  have a0_is62 := fun w => is62 (.pointer (some ⟨g, 0, none⟩)) w
  have a1_no124_62 := fun w => no124_62 (.pointer (some ⟨k, 0, none⟩)) w
  have a1_no3 := fun w => no3 (.pointer (some ⟨k, 0, none⟩)) w
  have a1_no68_62 := fun w => no68_62 (.pointer (some ⟨k, 0, none⟩)) w
  have a1_is62 := fun w => is62 (.pointer (some ⟨k, 0, none⟩)) w
  have HX := Lib.hid hg
  have HY := Lib.hid hk
  clear hg hk
  go_enter Tryz.func82, Tryz.ntmps82
  go_wp2_with fail
  refine (HC.out _ _ _ HX.out HY.out).mono ?_
  rintro e w2 ⟨v, rfl, hv, hb⟩
  have HB := Lib.hid (And.intro hv hb); clear hv hb
  go_wp2_with fail
  go_ret
  exact ⟨_, rfl, HB.out.1, HB.out.2⟩
theorem binop_any (f3 f5 f6 f7 f8 : Nat) (Q : World → Value → Prop) (m n : Int) (L : Nat) (hI : -9223372036854775808 ≤ m → m ≤ 9223372036854775807 → -9223372036854775808 ≤ n → n ≤ 9223372036854775807 → ∀ w, Calls Tryz.prog 105 #[.int .i64 m, .int .i64 n] w (Gives Q w)) (hB : ∀ gx gy w, IntAt w gx m L → IntAt w gy n L → Calls Tryz.prog 109 #[.pointer (some ⟨gx, 0, none⟩), .pointer (some ⟨gy, 0, none⟩)] w (Gives Q w)) (va vb : Value) (w : World) (ha : GoN w m L va) (hb : GoN w n L vb) (hL : 2 ≤ L) :
    Calls Tryz.prog 82 #[va, vb, Value.func (Fn.func 105) #[] #[], Value.func (Fn.func f3) #[] #[], Value.func (Fn.func 109) #[] #[], Value.func (Fn.func f5) #[] #[], Value.func (Fn.func f6) #[] #[], Value.func (Fn.func f7) #[] #[], Value.func (Fn.func f8) #[] #[]] w (Gives Q w) := by
  rcases ha with ⟨rfl, a0, a1⟩ | ⟨g, rfl, ha⟩
  · rcases hb with ⟨rfl, b0, b1⟩ | ⟨k, rfl, hb⟩
    · exact binop_ii f3 f5 f6 f7 f8 Q m n (hI a0 a1 b0 b1) w
    · exact binop_ib f3 f5 f6 f7 f8 Q m n L hB k w a0 a1 hb hL
  · rcases hb with ⟨rfl, b0, b1⟩ | ⟨k, rfl, hb⟩
    · exact binop_bi f3 f5 f6 f7 f8 Q m n L hB g w b0 b1 ha hL
    · exact binop_bb f3 f5 f6 f7 f8 Q m n L hB g k w ha hb
end Go.Proofs.YtaiidipcmnejoaaGreatDoor.OpMulW
