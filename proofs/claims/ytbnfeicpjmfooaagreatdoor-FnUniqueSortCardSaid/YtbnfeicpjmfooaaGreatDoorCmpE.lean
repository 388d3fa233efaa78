/-
gojq.Compare out of its callbacks: numbers, strings, lists, maps.
-/
import Derived.Test.YtbnfeicpjmfooaaGreatDoorCmpD
import Derived.Test.YtbnfeicpjmfooaaGreatDoorMG
set_option linter.unusedSimpArgs false
set_option linter.unusedVariables false
namespace Go.Proofs.YtbnfeicpjmfooaaGreatDoor.NumA
open Go.RowKit Go.Lib Go.Proofs.YtbnfeicpjmfooaaGreatDoor.ValA Go.Proofs.YtbnfeicpjmfooaaGreatDoor.FloH Go.Proofs.YtbnfeicpjmfooaaGreatDoorW.PrintWords Go.Proofs.YtbnfeicpjmfooaaGreatDoorW.PrintLast Go.Proofs.YtbnfeicpjmfooaaGreatDoorW.PrintMore Go.Proofs.YtbnfeicpjmfooaaGreatDoor.PzzFits1
/-- The call gives z. -/
def Gz (z : Int) (w : World) (e : Ending) (w' : World) : Prop := e = .returned (.int .i64 z) ∧ Below w.heap.size w w'
theorem Gz.of {z : Int} {w : World} {e : Ending} {w' : World} (h : Gives (fun v => v = .int .i64 z) w e w') : Gz z w e w' := by
  obtain ⟨v, rfl, rfl, hb⟩ := h
  exact ⟨rfl, hb⟩
theorem compare_of (l r : Value) (z : Int) (w : World) (HB : Calls Tryz.prog 193 #[l, r, Value.func (Fn.func 194) #[] #[], Value.func (Fn.func 195) #[] #[], Value.func (Fn.func 147) #[] #[], Value.func (Fn.func 197) #[] #[], Value.func (Fn.func 198) #[] #[], Value.func (Fn.func 199) #[] #[], Value.func (Fn.func 201) #[] #[]] w (Gz z w)) : Calls Tryz.prog 163 #[l, r] w (Gz z w) := by
  have H := Lib.hid HB
  clear HB
  go_enter Tryz.func163, Tryz.ntmps163
  go_wp2_with fail
  refine H.out.mono ?_
  rintro e w1 ⟨rfl, hb⟩
  have H1 := Lib.hid hb; clear hb
  go_wp2_with fail
  go_ret
  exact ⟨rfl, H1.out⟩
set_option maxRecDepth 100000 in
set_option maxHeartbeats 4000000 in
theorem bin_cmp_ss (z : Int) (s t : ByteArray) (w : World) (HC : Calls Tryz.prog 197 #[.string s, .string t] w (Gz z w)) :
    Calls Tryz.prog 193 #[.iface 9 (.string s), .iface 9 (.string t), Value.func (Fn.func 194) #[] #[], Value.func (Fn.func 195) #[] #[], Value.func (Fn.func 147) #[] #[], Value.func (Fn.func 197) #[] #[], Value.func (Fn.func 198) #[] #[], Value.func (Fn.func 199) #[] #[], Value.func (Fn.func 201) #[] #[]] w (Gz z w) := by
  have H := Lib.hid HC
  clear HC
  have faJ := fun w => qSJ (.string s) w
  have faI := fun w => qSI (.string s) w
  have faF := fun w => qSF (.string s) w
  have faB := fun w => qSB (.string s) w
  have gaS := fun w => qS (.string s) w
  have fbJ := fun w => qSJ (.string t) w
  have gbS := fun w => qS (.string t) w
  go_enter Tryz.func193, Tryz.ntmps193
  go_wp2_with fail
  refine H.out.mono ?_
  rintro e w1 ⟨rfl, hb⟩
  have HB := Lib.hid hb; clear hb
  go_wp2_with fail
  go_ret
  exact ⟨rfl, HB.out⟩
set_option maxRecDepth 100000 in
set_option maxHeartbeats 4000000 in
theorem bin_cmp_ll (z : Int) (A B : Option Addr) (n m : Nat) (w : World) (HC : Calls Tryz.prog 198 #[.slice A n n, .slice B m m] w (Gz z w)) :
    Calls Tryz.prog 193 #[.iface 81 (.slice A n n), .iface 81 (.slice B m m), Value.func (Fn.func 194) #[] #[], Value.func (Fn.func 195) #[] #[], Value.func (Fn.func 147) #[] #[], Value.func (Fn.func 197) #[] #[], Value.func (Fn.func 198) #[] #[], Value.func (Fn.func 199) #[] #[], Value.func (Fn.func 201) #[] #[]] w (Gz z w) := by
  have H := Lib.hid HC
  clear HC
  have faJ := fun w => qLJ (.slice A n n) w
  have faI := fun w => qLI (.slice A n n) w
  have faF := fun w => qLF (.slice A n n) w
  have faB := fun w => qLB (.slice A n n) w
  have faS := fun w => qLS (.slice A n n) w
  have gaL := fun w => qL (.slice A n n) w
  have fbJ := fun w => qLJ (.slice B m m) w
  have gbL := fun w => qL (.slice B m m) w
  go_enter Tryz.func193, Tryz.ntmps193
  go_wp2_with fail
  refine H.out.mono ?_
  rintro e w1 ⟨rfl, hb⟩
  have HB := Lib.hid hb; clear hb
  go_wp2_with fail
  go_ret
  exact ⟨rfl, HB.out⟩
set_option maxRecDepth 100000 in
set_option maxHeartbeats 4000000 in
theorem bin_cmp_mm (z : Int) (b c : Option Nat) (w : World) (HC : Calls Tryz.prog 199 #[.map b, .map c] w (Gz z w)) :
    Calls Tryz.prog 193 #[.iface 90 (.map b), .iface 90 (.map c), Value.func (Fn.func 194) #[] #[], Value.func (Fn.func 195) #[] #[], Value.func (Fn.func 147) #[] #[], Value.func (Fn.func 197) #[] #[], Value.func (Fn.func 198) #[] #[], Value.func (Fn.func 199) #[] #[], Value.func (Fn.func 201) #[] #[]] w (Gz z w) := by
  have H := Lib.hid HC
  clear HC
  have faJ := fun w => qMJ (.map b) w
  have faI := fun w => qMI (.map b) w
  have faF := fun w => qMF (.map b) w
  have faB := fun w => qMB (.map b) w
  have faS := fun w => qMS (.map b) w
  have faL := fun w => qML (.map b) w
  have gaM := fun w => qM (.map b) w
  have fbJ := fun w => qMJ (.map c) w
  have gbM := fun w => qM (.map c) w
  go_enter Tryz.func193, Tryz.ntmps193
  go_wp2_with fail
  refine H.out.mono ?_
  rintro e w1 ⟨rfl, hb⟩
  have HB := Lib.hid hb; clear hb
  go_wp2_with fail
  go_ret
  exact ⟨rfl, HB.out⟩
theorem cmp_nums (h k : Int) (jh : JN h) (jk : JN k) (w : World) : Calls Tryz.prog 163 #[gv h, gv k] w (Gz (h - k).sign w) := by
  refine compare_of _ _ _ w ?_
  have eh : HE h := by
    rcases jh.2 with e | e
    · have := he_even (h / 2) (by have := jh.1; omega) (by have := jh.1; omega)
      rwa [show 2 * (h / 2) = h by omega] at this
    · exact he_small h (by omega) (by omega)
  have ek : HE k := by
    rcases jk.2 with e | e
    · have := he_even (k / 2) (by have := jk.1; omega) (by have := jk.1; omega)
      rwa [show 2 * (k / 2) = k by omega] at this
    · exact he_small k (by omega) (by omega)
  have HF := fun w => cmp_flts h k eh ek w
  unfold gv
  by_cases a : h % 2 = 0
  · rw [if_pos a]
    by_cases b : k % 2 = 0
    · rw [if_pos b]
      refine (bin_cmp_ii (fun v => v = .int .i64 (h - k).sign) (h / 2) (k / 2) (fun w => (cmp_ints _ _ w).mono ?_) w).mono fun e w' h => Gz.of h
      rintro e w' ⟨rfl, hb⟩
      refine ⟨_, rfl, ?_, hb⟩
      have := sg (h - k)
      have := sg (h / 2 - k / 2)
      congr 1
      omega
    · rw [if_neg b]
      refine (bin_cmp_if (fun v => v = .int .i64 (h - k).sign) (h / 2) (fw h) (fw k) HF ?_ w).mono fun e w' h => Gz.of h
      rw [ofInt_fw (h / 2) (by rwa [show 2 * (h / 2) = h by omega]), show 2 * (h / 2) = h by omega]
  · rw [if_neg a]
    by_cases b : k % 2 = 0
    · rw [if_pos b]
      refine (bin_cmp_fi (fun v => v = .int .i64 (h - k).sign) (fw h) (k / 2) (fw k) HF ?_ w).mono fun e w' h => Gz.of h
      rw [ofInt_fw (k / 2) (by rwa [show 2 * (k / 2) = k by omega]), show 2 * (k / 2) = k by omega]
    · rw [if_neg b]
      exact (bin_cmp_ff (fun v => v = .int .i64 (h - k).sign) (fw h) (fw k) HF w).mono fun e w' h => Gz.of h
theorem compare_strs (s t : ByteArray) (w : World) : Calls Tryz.prog 163 #[.iface 9 (.string s), .iface 9 (.string t)] w (Gz (tx s t) w) :=
  compare_of _ _ _ w (bin_cmp_ss _ s t w ((cmp_strs s t w).mono fun e w' h => Gz.of h))
end Go.Proofs.YtbnfeicpjmfooaaGreatDoor.NumA
