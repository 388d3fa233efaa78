/-
gojq.Compare at two values of different kinds.
-/
import Derived.Test.YtdcgjfiknknjfaaGreatDoorGoV
set_option linter.unusedSimpArgs false
set_option linter.unusedVariables false
namespace Go.Proofs.YtdcgjfiknknjfaaGreatDoor.NumA
open Go.RowKit Go.Lib Go.Proofs.YtdcgjfiknknjfaaGreatDoor.ValA Go.Proofs.YtdcgjfiknknjfaaGreatDoor.FloH Go.Proofs.YtdcgjfiknknjfaaGreatDoorW.PrintWords Go.Proofs.YtdcgjfiknknjfaaGreatDoorW.PrintLast Go.Proofs.YtdcgjfiknknjfaaGreatDoorW.PrintMore Go.Proofs.YtdcgjfiknknjfaaGreatDoor.PzzFits1
theorem qIJ (v : Value) (w : World) : (Instr.typeAssert (.iface 3 v) 20 109 true).run Tryz.prog w = .ok (.tuple #[.string ⟨#[]⟩, .bool false]) w := by kernel_rfl
theorem qI (v : Value) (w : World) : (Instr.typeAssert (.iface 3 v) 20 3 true).run Tryz.prog w = .ok (.tuple #[v, .bool true]) w := by kernel_rfl
theorem qIF (v : Value) (w : World) : (Instr.typeAssert (.iface 3 v) 20 61 true).run Tryz.prog w = .ok (.tuple #[.float .f64 0, .bool false]) w := by kernel_rfl
theorem qIB (v : Value) (w : World) : (Instr.typeAssert (.iface 3 v) 20 80 true).run Tryz.prog w = .ok (.tuple #[.pointer none, .bool false]) w := by kernel_rfl
theorem qIS (v : Value) (w : World) : (Instr.typeAssert (.iface 3 v) 20 9 true).run Tryz.prog w = .ok (.tuple #[.string ⟨#[]⟩, .bool false]) w := by kernel_rfl
theorem qIL (v : Value) (w : World) : (Instr.typeAssert (.iface 3 v) 20 62 true).run Tryz.prog w = .ok (.tuple #[.slice none 0 0, .bool false]) w := by kernel_rfl
theorem qIM (v : Value) (w : World) : (Instr.typeAssert (.iface 3 v) 20 65 true).run Tryz.prog w = .ok (.tuple #[.map none, .bool false]) w := by kernel_rfl
theorem qIT (v : Value) (w : World) : (Instr.typeAssert (.iface 3 v) 20 4 true).run Tryz.prog w = .ok (.tuple #[.bool false, .bool false]) w := by kernel_rfl
theorem qFJ (v : Value) (w : World) : (Instr.typeAssert (.iface 61 v) 20 109 true).run Tryz.prog w = .ok (.tuple #[.string ⟨#[]⟩, .bool false]) w := by kernel_rfl
theorem qFI (v : Value) (w : World) : (Instr.typeAssert (.iface 61 v) 20 3 true).run Tryz.prog w = .ok (.tuple #[.int .i64 0, .bool false]) w := by kernel_rfl
theorem qF (v : Value) (w : World) : (Instr.typeAssert (.iface 61 v) 20 61 true).run Tryz.prog w = .ok (.tuple #[v, .bool true]) w := by kernel_rfl
theorem qFB (v : Value) (w : World) : (Instr.typeAssert (.iface 61 v) 20 80 true).run Tryz.prog w = .ok (.tuple #[.pointer none, .bool false]) w := by kernel_rfl
theorem qFS (v : Value) (w : World) : (Instr.typeAssert (.iface 61 v) 20 9 true).run Tryz.prog w = .ok (.tuple #[.string ⟨#[]⟩, .bool false]) w := by kernel_rfl
theorem qFL (v : Value) (w : World) : (Instr.typeAssert (.iface 61 v) 20 62 true).run Tryz.prog w = .ok (.tuple #[.slice none 0 0, .bool false]) w := by kernel_rfl
theorem qFM (v : Value) (w : World) : (Instr.typeAssert (.iface 61 v) 20 65 true).run Tryz.prog w = .ok (.tuple #[.map none, .bool false]) w := by kernel_rfl
theorem qFT (v : Value) (w : World) : (Instr.typeAssert (.iface 61 v) 20 4 true).run Tryz.prog w = .ok (.tuple #[.bool false, .bool false]) w := by kernel_rfl
theorem qSJ (v : Value) (w : World) : (Instr.typeAssert (.iface 9 v) 20 109 true).run Tryz.prog w = .ok (.tuple #[.string ⟨#[]⟩, .bool false]) w := by kernel_rfl
theorem qSI (v : Value) (w : World) : (Instr.typeAssert (.iface 9 v) 20 3 true).run Tryz.prog w = .ok (.tuple #[.int .i64 0, .bool false]) w := by kernel_rfl
theorem qSF (v : Value) (w : World) : (Instr.typeAssert (.iface 9 v) 20 61 true).run Tryz.prog w = .ok (.tuple #[.float .f64 0, .bool false]) w := by kernel_rfl
theorem qSB (v : Value) (w : World) : (Instr.typeAssert (.iface 9 v) 20 80 true).run Tryz.prog w = .ok (.tuple #[.pointer none, .bool false]) w := by kernel_rfl
theorem qS (v : Value) (w : World) : (Instr.typeAssert (.iface 9 v) 20 9 true).run Tryz.prog w = .ok (.tuple #[v, .bool true]) w := by kernel_rfl
theorem qSL (v : Value) (w : World) : (Instr.typeAssert (.iface 9 v) 20 62 true).run Tryz.prog w = .ok (.tuple #[.slice none 0 0, .bool false]) w := by kernel_rfl
theorem qSM (v : Value) (w : World) : (Instr.typeAssert (.iface 9 v) 20 65 true).run Tryz.prog w = .ok (.tuple #[.map none, .bool false]) w := by kernel_rfl
theorem qST (v : Value) (w : World) : (Instr.typeAssert (.iface 9 v) 20 4 true).run Tryz.prog w = .ok (.tuple #[.bool false, .bool false]) w := by kernel_rfl
theorem qLJ (v : Value) (w : World) : (Instr.typeAssert (.iface 62 v) 20 109 true).run Tryz.prog w = .ok (.tuple #[.string ⟨#[]⟩, .bool false]) w := by kernel_rfl
theorem qLI (v : Value) (w : World) : (Instr.typeAssert (.iface 62 v) 20 3 true).run Tryz.prog w = .ok (.tuple #[.int .i64 0, .bool false]) w := by kernel_rfl
theorem qLF (v : Value) (w : World) : (Instr.typeAssert (.iface 62 v) 20 61 true).run Tryz.prog w = .ok (.tuple #[.float .f64 0, .bool false]) w := by kernel_rfl
theorem qLB (v : Value) (w : World) : (Instr.typeAssert (.iface 62 v) 20 80 true).run Tryz.prog w = .ok (.tuple #[.pointer none, .bool false]) w := by kernel_rfl
theorem qLS (v : Value) (w : World) : (Instr.typeAssert (.iface 62 v) 20 9 true).run Tryz.prog w = .ok (.tuple #[.string ⟨#[]⟩, .bool false]) w := by kernel_rfl
theorem qL (v : Value) (w : World) : (Instr.typeAssert (.iface 62 v) 20 62 true).run Tryz.prog w = .ok (.tuple #[v, .bool true]) w := by kernel_rfl
theorem qLM (v : Value) (w : World) : (Instr.typeAssert (.iface 62 v) 20 65 true).run Tryz.prog w = .ok (.tuple #[.map none, .bool false]) w := by kernel_rfl
theorem qLT (v : Value) (w : World) : (Instr.typeAssert (.iface 62 v) 20 4 true).run Tryz.prog w = .ok (.tuple #[.bool false, .bool false]) w := by kernel_rfl
theorem qMJ (v : Value) (w : World) : (Instr.typeAssert (.iface 65 v) 20 109 true).run Tryz.prog w = .ok (.tuple #[.string ⟨#[]⟩, .bool false]) w := by kernel_rfl
theorem qMI (v : Value) (w : World) : (Instr.typeAssert (.iface 65 v) 20 3 true).run Tryz.prog w = .ok (.tuple #[.int .i64 0, .bool false]) w := by kernel_rfl
theorem qMF (v : Value) (w : World) : (Instr.typeAssert (.iface 65 v) 20 61 true).run Tryz.prog w = .ok (.tuple #[.float .f64 0, .bool false]) w := by kernel_rfl
theorem qMB (v : Value) (w : World) : (Instr.typeAssert (.iface 65 v) 20 80 true).run Tryz.prog w = .ok (.tuple #[.pointer none, .bool false]) w := by kernel_rfl
theorem qMS (v : Value) (w : World) : (Instr.typeAssert (.iface 65 v) 20 9 true).run Tryz.prog w = .ok (.tuple #[.string ⟨#[]⟩, .bool false]) w := by kernel_rfl
theorem qML (v : Value) (w : World) : (Instr.typeAssert (.iface 65 v) 20 62 true).run Tryz.prog w = .ok (.tuple #[.slice none 0 0, .bool false]) w := by kernel_rfl
theorem qM (v : Value) (w : World) : (Instr.typeAssert (.iface 65 v) 20 65 true).run Tryz.prog w = .ok (.tuple #[v, .bool true]) w := by kernel_rfl
theorem qMT (v : Value) (w : World) : (Instr.typeAssert (.iface 65 v) 20 4 true).run Tryz.prog w = .ok (.tuple #[.bool false, .bool false]) w := by kernel_rfl
theorem qTJ (v : Value) (w : World) : (Instr.typeAssert (.iface 4 v) 20 109 true).run Tryz.prog w = .ok (.tuple #[.string ⟨#[]⟩, .bool false]) w := by kernel_rfl
theorem qTI (v : Value) (w : World) : (Instr.typeAssert (.iface 4 v) 20 3 true).run Tryz.prog w = .ok (.tuple #[.int .i64 0, .bool false]) w := by kernel_rfl
theorem qTF (v : Value) (w : World) : (Instr.typeAssert (.iface 4 v) 20 61 true).run Tryz.prog w = .ok (.tuple #[.float .f64 0, .bool false]) w := by kernel_rfl
theorem qTB (v : Value) (w : World) : (Instr.typeAssert (.iface 4 v) 20 80 true).run Tryz.prog w = .ok (.tuple #[.pointer none, .bool false]) w := by kernel_rfl
theorem qTS (v : Value) (w : World) : (Instr.typeAssert (.iface 4 v) 20 9 true).run Tryz.prog w = .ok (.tuple #[.string ⟨#[]⟩, .bool false]) w := by kernel_rfl
theorem qTL (v : Value) (w : World) : (Instr.typeAssert (.iface 4 v) 20 62 true).run Tryz.prog w = .ok (.tuple #[.slice none 0 0, .bool false]) w := by kernel_rfl
theorem qTM (v : Value) (w : World) : (Instr.typeAssert (.iface 4 v) 20 65 true).run Tryz.prog w = .ok (.tuple #[.map none, .bool false]) w := by kernel_rfl
theorem qT (v : Value) (w : World) : (Instr.typeAssert (.iface 4 v) 20 4 true).run Tryz.prog w = .ok (.tuple #[v, .bool true]) w := by kernel_rfl
theorem ti_nil  (w : World) : Calls Tryz.prog 78 #[.nilIface] w fun e w' => e = .returned (.int .i64 0) ∧ Below w.heap.size w w' := by
  have fJ := fun w => noNJ w
  have fI := fun w => noNI w
  have fF := fun w => noNF w
  have fB := fun w => noNB w
  have fS := fun w => noNS w
  have fL := fun w => noNL w
  have fM := fun w => noNM w
  have fT := fun w => noNT w
  go_enter Tryz.func78, Tryz.ntmps78
  go_wp2_with fail
  go_ret
  exact ⟨rfl, Below.refl _ _⟩
theorem ti_false  (w : World) : Calls Tryz.prog 78 #[.iface 4 (.bool false)] w fun e w' => e = .returned (.int .i64 1) ∧ Below w.heap.size w w' := by
  have gT := fun w => qT (.bool false) w
  go_enter Tryz.func78, Tryz.ntmps78
  go_wp2_with fail
  go_ret
  exact ⟨rfl, Below.refl _ _⟩
theorem ti_true  (w : World) : Calls Tryz.prog 78 #[.iface 4 (.bool true)] w fun e w' => e = .returned (.int .i64 2) ∧ Below w.heap.size w w' := by
  have gT := fun w => qT (.bool true) w
  go_enter Tryz.func78, Tryz.ntmps78
  go_wp2_with fail
  go_ret
  exact ⟨rfl, Below.refl _ _⟩
theorem ti_int (n : Int) (w : World) : Calls Tryz.prog 78 #[.iface 3 (.int .i64 n)] w fun e w' => e = .returned (.int .i64 3) ∧ Below w.heap.size w w' := by
  have fT := fun w => qIT (.int .i64 n) w
  have fF := fun w => qIF (.int .i64 n) w
  have fB := fun w => qIB (.int .i64 n) w
  have fJ := fun w => qIJ (.int .i64 n) w
  have gI := fun w => qI (.int .i64 n) w
  go_enter Tryz.func78, Tryz.ntmps78
  go_wp2_with fail
  go_ret
  exact ⟨rfl, Below.refl _ _⟩
theorem ti_flt (n : Nat) (w : World) : Calls Tryz.prog 78 #[.iface 61 (.float .f64 n)] w fun e w' => e = .returned (.int .i64 3) ∧ Below w.heap.size w w' := by
  have fT := fun w => qFT (.float .f64 n) w
  have fI := fun w => qFI (.float .f64 n) w
  have fB := fun w => qFB (.float .f64 n) w
  have fJ := fun w => qFJ (.float .f64 n) w
  have gF := fun w => qF (.float .f64 n) w
  go_enter Tryz.func78, Tryz.ntmps78
  go_wp2_with fail
  go_ret
  exact ⟨rfl, Below.refl _ _⟩
theorem ti_str (s : ByteArray) (w : World) : Calls Tryz.prog 78 #[.iface 9 (.string s)] w fun e w' => e = .returned (.int .i64 4) ∧ Below w.heap.size w w' := by
  have fT := fun w => qST (.string s) w
  have fI := fun w => qSI (.string s) w
  have fF := fun w => qSF (.string s) w
  have fB := fun w => qSB (.string s) w
  have fJ := fun w => qSJ (.string s) w
  have gS := fun w => qS (.string s) w
  go_enter Tryz.func78, Tryz.ntmps78
  go_wp2_with fail
  go_ret
  exact ⟨rfl, Below.refl _ _⟩
theorem ti_list (A : Option Addr) (n : Nat) (w : World) : Calls Tryz.prog 78 #[.iface 62 (.slice A n n)] w fun e w' => e = .returned (.int .i64 5) ∧ Below w.heap.size w w' := by
  have fT := fun w => qLT (.slice A n n) w
  have fI := fun w => qLI (.slice A n n) w
  have fF := fun w => qLF (.slice A n n) w
  have fB := fun w => qLB (.slice A n n) w
  have fJ := fun w => qLJ (.slice A n n) w
  have fS := fun w => qLS (.slice A n n) w
  have gL := fun w => qL (.slice A n n) w
  go_enter Tryz.func78, Tryz.ntmps78
  go_wp2_with fail
  go_ret
  exact ⟨rfl, Below.refl _ _⟩
theorem ti_map (b : Option Nat) (w : World) : Calls Tryz.prog 78 #[.iface 65 (.map b)] w fun e w' => e = .returned (.int .i64 6) ∧ Below w.heap.size w w' := by
  have fT := fun w => qMT (.map b) w
  have fI := fun w => qMI (.map b) w
  have fF := fun w => qMF (.map b) w
  have fB := fun w => qMB (.map b) w
  have fJ := fun w => qMJ (.map b) w
  have fS := fun w => qMS (.map b) w
  have fL := fun w => qML (.map b) w
  have gM := fun w => qM (.map b) w
  go_enter Tryz.func78, Tryz.ntmps78
  go_wp2_with fail
  go_ret
  exact ⟨rfl, Below.refl _ _⟩
theorem nan_int (m : Int) (w : World) : Calls Tryz.prog 124 #[.int .i64 m] w fun e w' => e = .returned (.bool false) ∧ w = w' := by
  have h1 : (m != m) = false := by simp
  go_enter Tryz.func124, Tryz.ntmps124
  go_wp2_with fail
  go_ret
  exact ⟨rfl, rfl⟩
theorem cmp_ints (m n : Int) (w : World) : Calls Tryz.prog 69 #[.int .i64 m, .int .i64 n] w fun e w' => e = .returned (.int .i64 (m - n).sign) ∧ Below w.heap.size w w' := by
  rcases Int.lt_trichotomy m n with h | h | h
  · rw [Int.sign_eq_neg_one_of_neg (by omega)]
    have h1 : decide (m < n) = true := decide_eq_true h
    clear h
    go_enter Tryz.func69, Tryz.ntmps69
    go_wp2_with fail
    refine (nan_int _ _).mono ?_
    rintro e w1 ⟨rfl, rfl⟩
    go_wp2_with fail
    refine (nan_int _ _).mono ?_
    rintro e w1 ⟨rfl, rfl⟩
    go_wp2_with fail
    go_ret
    exact ⟨rfl, Below.refl _ _⟩
  · subst h
    rw [Int.sub_self]
    go_enter Tryz.func69, Tryz.ntmps69
    go_wp2_with fail
    refine (nan_int _ _).mono ?_
    rintro e w1 ⟨rfl, rfl⟩
    go_wp2_with fail
    refine (nan_int _ _).mono ?_
    rintro e w1 ⟨rfl, rfl⟩
    go_wp2_with fail
    go_ret
    exact ⟨rfl, Below.refl _ _⟩
  · rw [Int.sign_eq_one_of_pos (by omega)]
    have h1 : decide (m < n) = false := decide_eq_false (by omega)
    have h2 : decide (n < m) = true := decide_eq_true h
    clear h
    go_enter Tryz.func69, Tryz.ntmps69
    go_wp2_with fail
    refine (nan_int _ _).mono ?_
    rintro e w1 ⟨rfl, rfl⟩
    go_wp2_with fail
    refine (nan_int _ _).mono ?_
    rintro e w1 ⟨rfl, rfl⟩
    go_wp2_with fail
    go_ret
    exact ⟨rfl, Below.refl _ _⟩
end Go.Proofs.YtdcgjfiknknjfaaGreatDoor.NumA
