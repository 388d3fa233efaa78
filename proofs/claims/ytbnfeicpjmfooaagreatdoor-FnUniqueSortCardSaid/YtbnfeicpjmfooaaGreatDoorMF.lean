/-
Parts of the proof, one behind the other: CmpA, CmpB, CmpC.
-/
import Derived.Test.YtbnfeicpjmfooaaGreatDoorME
import Derived.Test.YtbnfeicpjmfooaaGreatDoorMD
/-
gojq.Compare at two values of different kinds.
-/
set_option linter.unusedSimpArgs false
set_option linter.unusedVariables false
namespace Go.Proofs.YtbnfeicpjmfooaaGreatDoor.NumA
open Go.RowKit Go.Lib Go.Proofs.YtbnfeicpjmfooaaGreatDoor.ValA Go.Proofs.YtbnfeicpjmfooaaGreatDoor.FloH Go.Proofs.YtbnfeicpjmfooaaGreatDoorW.PrintWords Go.Proofs.YtbnfeicpjmfooaaGreatDoorW.PrintLast Go.Proofs.YtbnfeicpjmfooaaGreatDoorW.PrintMore Go.Proofs.YtbnfeicpjmfooaaGreatDoor.PzzFits1
theorem qIJ (v : Value) (w : World) : (Instr.typeAssert (.iface 3 v) 20 153 true).run Tryz.prog w = .ok (.tuple #[.string ⟨#[]⟩, .bool false]) w := by kernel_rfl
theorem qI (v : Value) (w : World) : (Instr.typeAssert (.iface 3 v) 20 3 true).run Tryz.prog w = .ok (.tuple #[v, .bool true]) w := by kernel_rfl
theorem qIF (v : Value) (w : World) : (Instr.typeAssert (.iface 3 v) 20 85 true).run Tryz.prog w = .ok (.tuple #[.float .f64 0, .bool false]) w := by kernel_rfl
theorem qIB (v : Value) (w : World) : (Instr.typeAssert (.iface 3 v) 20 120 true).run Tryz.prog w = .ok (.tuple #[.pointer none, .bool false]) w := by kernel_rfl
theorem qIS (v : Value) (w : World) : (Instr.typeAssert (.iface 3 v) 20 9 true).run Tryz.prog w = .ok (.tuple #[.string ⟨#[]⟩, .bool false]) w := by kernel_rfl
theorem qIL (v : Value) (w : World) : (Instr.typeAssert (.iface 3 v) 20 81 true).run Tryz.prog w = .ok (.tuple #[.slice none 0 0, .bool false]) w := by kernel_rfl
theorem qIM (v : Value) (w : World) : (Instr.typeAssert (.iface 3 v) 20 90 true).run Tryz.prog w = .ok (.tuple #[.map none, .bool false]) w := by kernel_rfl
theorem qIT (v : Value) (w : World) : (Instr.typeAssert (.iface 3 v) 20 4 true).run Tryz.prog w = .ok (.tuple #[.bool false, .bool false]) w := by kernel_rfl
theorem qFJ (v : Value) (w : World) : (Instr.typeAssert (.iface 85 v) 20 153 true).run Tryz.prog w = .ok (.tuple #[.string ⟨#[]⟩, .bool false]) w := by kernel_rfl
theorem qFI (v : Value) (w : World) : (Instr.typeAssert (.iface 85 v) 20 3 true).run Tryz.prog w = .ok (.tuple #[.int .i64 0, .bool false]) w := by kernel_rfl
theorem qF (v : Value) (w : World) : (Instr.typeAssert (.iface 85 v) 20 85 true).run Tryz.prog w = .ok (.tuple #[v, .bool true]) w := by kernel_rfl
theorem qFB (v : Value) (w : World) : (Instr.typeAssert (.iface 85 v) 20 120 true).run Tryz.prog w = .ok (.tuple #[.pointer none, .bool false]) w := by kernel_rfl
theorem qFS (v : Value) (w : World) : (Instr.typeAssert (.iface 85 v) 20 9 true).run Tryz.prog w = .ok (.tuple #[.string ⟨#[]⟩, .bool false]) w := by kernel_rfl
theorem qFL (v : Value) (w : World) : (Instr.typeAssert (.iface 85 v) 20 81 true).run Tryz.prog w = .ok (.tuple #[.slice none 0 0, .bool false]) w := by kernel_rfl
theorem qFM (v : Value) (w : World) : (Instr.typeAssert (.iface 85 v) 20 90 true).run Tryz.prog w = .ok (.tuple #[.map none, .bool false]) w := by kernel_rfl
theorem qFT (v : Value) (w : World) : (Instr.typeAssert (.iface 85 v) 20 4 true).run Tryz.prog w = .ok (.tuple #[.bool false, .bool false]) w := by kernel_rfl
theorem qSJ (v : Value) (w : World) : (Instr.typeAssert (.iface 9 v) 20 153 true).run Tryz.prog w = .ok (.tuple #[.string ⟨#[]⟩, .bool false]) w := by kernel_rfl
theorem qSI (v : Value) (w : World) : (Instr.typeAssert (.iface 9 v) 20 3 true).run Tryz.prog w = .ok (.tuple #[.int .i64 0, .bool false]) w := by kernel_rfl
theorem qSF (v : Value) (w : World) : (Instr.typeAssert (.iface 9 v) 20 85 true).run Tryz.prog w = .ok (.tuple #[.float .f64 0, .bool false]) w := by kernel_rfl
theorem qSB (v : Value) (w : World) : (Instr.typeAssert (.iface 9 v) 20 120 true).run Tryz.prog w = .ok (.tuple #[.pointer none, .bool false]) w := by kernel_rfl
theorem qS (v : Value) (w : World) : (Instr.typeAssert (.iface 9 v) 20 9 true).run Tryz.prog w = .ok (.tuple #[v, .bool true]) w := by kernel_rfl
theorem qSL (v : Value) (w : World) : (Instr.typeAssert (.iface 9 v) 20 81 true).run Tryz.prog w = .ok (.tuple #[.slice none 0 0, .bool false]) w := by kernel_rfl
theorem qSM (v : Value) (w : World) : (Instr.typeAssert (.iface 9 v) 20 90 true).run Tryz.prog w = .ok (.tuple #[.map none, .bool false]) w := by kernel_rfl
theorem qST (v : Value) (w : World) : (Instr.typeAssert (.iface 9 v) 20 4 true).run Tryz.prog w = .ok (.tuple #[.bool false, .bool false]) w := by kernel_rfl
theorem qLJ (v : Value) (w : World) : (Instr.typeAssert (.iface 81 v) 20 153 true).run Tryz.prog w = .ok (.tuple #[.string ⟨#[]⟩, .bool false]) w := by kernel_rfl
theorem qLI (v : Value) (w : World) : (Instr.typeAssert (.iface 81 v) 20 3 true).run Tryz.prog w = .ok (.tuple #[.int .i64 0, .bool false]) w := by kernel_rfl
theorem qLF (v : Value) (w : World) : (Instr.typeAssert (.iface 81 v) 20 85 true).run Tryz.prog w = .ok (.tuple #[.float .f64 0, .bool false]) w := by kernel_rfl
theorem qLB (v : Value) (w : World) : (Instr.typeAssert (.iface 81 v) 20 120 true).run Tryz.prog w = .ok (.tuple #[.pointer none, .bool false]) w := by kernel_rfl
theorem qLS (v : Value) (w : World) : (Instr.typeAssert (.iface 81 v) 20 9 true).run Tryz.prog w = .ok (.tuple #[.string ⟨#[]⟩, .bool false]) w := by kernel_rfl
theorem qL (v : Value) (w : World) : (Instr.typeAssert (.iface 81 v) 20 81 true).run Tryz.prog w = .ok (.tuple #[v, .bool true]) w := by kernel_rfl
theorem qLM (v : Value) (w : World) : (Instr.typeAssert (.iface 81 v) 20 90 true).run Tryz.prog w = .ok (.tuple #[.map none, .bool false]) w := by kernel_rfl
theorem qLT (v : Value) (w : World) : (Instr.typeAssert (.iface 81 v) 20 4 true).run Tryz.prog w = .ok (.tuple #[.bool false, .bool false]) w := by kernel_rfl
theorem qMJ (v : Value) (w : World) : (Instr.typeAssert (.iface 90 v) 20 153 true).run Tryz.prog w = .ok (.tuple #[.string ⟨#[]⟩, .bool false]) w := by kernel_rfl
theorem qMI (v : Value) (w : World) : (Instr.typeAssert (.iface 90 v) 20 3 true).run Tryz.prog w = .ok (.tuple #[.int .i64 0, .bool false]) w := by kernel_rfl
theorem qMF (v : Value) (w : World) : (Instr.typeAssert (.iface 90 v) 20 85 true).run Tryz.prog w = .ok (.tuple #[.float .f64 0, .bool false]) w := by kernel_rfl
theorem qMB (v : Value) (w : World) : (Instr.typeAssert (.iface 90 v) 20 120 true).run Tryz.prog w = .ok (.tuple #[.pointer none, .bool false]) w := by kernel_rfl
theorem qMS (v : Value) (w : World) : (Instr.typeAssert (.iface 90 v) 20 9 true).run Tryz.prog w = .ok (.tuple #[.string ⟨#[]⟩, .bool false]) w := by kernel_rfl
theorem qML (v : Value) (w : World) : (Instr.typeAssert (.iface 90 v) 20 81 true).run Tryz.prog w = .ok (.tuple #[.slice none 0 0, .bool false]) w := by kernel_rfl
theorem qM (v : Value) (w : World) : (Instr.typeAssert (.iface 90 v) 20 90 true).run Tryz.prog w = .ok (.tuple #[v, .bool true]) w := by kernel_rfl
theorem qMT (v : Value) (w : World) : (Instr.typeAssert (.iface 90 v) 20 4 true).run Tryz.prog w = .ok (.tuple #[.bool false, .bool false]) w := by kernel_rfl
theorem qTJ (v : Value) (w : World) : (Instr.typeAssert (.iface 4 v) 20 153 true).run Tryz.prog w = .ok (.tuple #[.string ⟨#[]⟩, .bool false]) w := by kernel_rfl
theorem qTI (v : Value) (w : World) : (Instr.typeAssert (.iface 4 v) 20 3 true).run Tryz.prog w = .ok (.tuple #[.int .i64 0, .bool false]) w := by kernel_rfl
theorem qTF (v : Value) (w : World) : (Instr.typeAssert (.iface 4 v) 20 85 true).run Tryz.prog w = .ok (.tuple #[.float .f64 0, .bool false]) w := by kernel_rfl
theorem qTB (v : Value) (w : World) : (Instr.typeAssert (.iface 4 v) 20 120 true).run Tryz.prog w = .ok (.tuple #[.pointer none, .bool false]) w := by kernel_rfl
theorem qTS (v : Value) (w : World) : (Instr.typeAssert (.iface 4 v) 20 9 true).run Tryz.prog w = .ok (.tuple #[.string ⟨#[]⟩, .bool false]) w := by kernel_rfl
theorem qTL (v : Value) (w : World) : (Instr.typeAssert (.iface 4 v) 20 81 true).run Tryz.prog w = .ok (.tuple #[.slice none 0 0, .bool false]) w := by kernel_rfl
theorem qTM (v : Value) (w : World) : (Instr.typeAssert (.iface 4 v) 20 90 true).run Tryz.prog w = .ok (.tuple #[.map none, .bool false]) w := by kernel_rfl
theorem qT (v : Value) (w : World) : (Instr.typeAssert (.iface 4 v) 20 4 true).run Tryz.prog w = .ok (.tuple #[v, .bool true]) w := by kernel_rfl
theorem ti_nil  (w : World) : Calls Tryz.prog 202 #[.nilIface] w fun e w' => e = .returned (.int .i64 0) ∧ Below w.heap.size w w' := by
  have fJ := fun w => noNJ w
  have fI := fun w => noNI w
  have fF := fun w => noNF w
  have fB := fun w => noNB w
  have fS := fun w => noNS w
  have fL := fun w => noNL w
  have fM := fun w => noNM w
  have fT := fun w => noNT w
  go_enter Tryz.func202, Tryz.ntmps202
  go_wp2_with fail
  go_ret
  exact ⟨rfl, Below.refl _ _⟩
theorem ti_false  (w : World) : Calls Tryz.prog 202 #[.iface 4 (.bool false)] w fun e w' => e = .returned (.int .i64 1) ∧ Below w.heap.size w w' := by
  have gT := fun w => qT (.bool false) w
  go_enter Tryz.func202, Tryz.ntmps202
  go_wp2_with fail
  go_ret
  exact ⟨rfl, Below.refl _ _⟩
theorem ti_true  (w : World) : Calls Tryz.prog 202 #[.iface 4 (.bool true)] w fun e w' => e = .returned (.int .i64 2) ∧ Below w.heap.size w w' := by
  have gT := fun w => qT (.bool true) w
  go_enter Tryz.func202, Tryz.ntmps202
  go_wp2_with fail
  go_ret
  exact ⟨rfl, Below.refl _ _⟩
theorem ti_int (n : Int) (w : World) : Calls Tryz.prog 202 #[.iface 3 (.int .i64 n)] w fun e w' => e = .returned (.int .i64 3) ∧ Below w.heap.size w w' := by
  have fT := fun w => qIT (.int .i64 n) w
  have fF := fun w => qIF (.int .i64 n) w
  have fB := fun w => qIB (.int .i64 n) w
  have fJ := fun w => qIJ (.int .i64 n) w
  have gI := fun w => qI (.int .i64 n) w
  go_enter Tryz.func202, Tryz.ntmps202
  go_wp2_with fail
  go_ret
  exact ⟨rfl, Below.refl _ _⟩
theorem ti_flt (n : Nat) (w : World) : Calls Tryz.prog 202 #[.iface 85 (.float .f64 n)] w fun e w' => e = .returned (.int .i64 3) ∧ Below w.heap.size w w' := by
  have fT := fun w => qFT (.float .f64 n) w
  have fI := fun w => qFI (.float .f64 n) w
  have fB := fun w => qFB (.float .f64 n) w
  have fJ := fun w => qFJ (.float .f64 n) w
  have gF := fun w => qF (.float .f64 n) w
  go_enter Tryz.func202, Tryz.ntmps202
  go_wp2_with fail
  go_ret
  exact ⟨rfl, Below.refl _ _⟩
theorem ti_str (s : ByteArray) (w : World) : Calls Tryz.prog 202 #[.iface 9 (.string s)] w fun e w' => e = .returned (.int .i64 4) ∧ Below w.heap.size w w' := by
  have fT := fun w => qST (.string s) w
  have fI := fun w => qSI (.string s) w
  have fF := fun w => qSF (.string s) w
  have fB := fun w => qSB (.string s) w
  have fJ := fun w => qSJ (.string s) w
  have gS := fun w => qS (.string s) w
  go_enter Tryz.func202, Tryz.ntmps202
  go_wp2_with fail
  go_ret
  exact ⟨rfl, Below.refl _ _⟩
theorem ti_list (A : Option Addr) (n : Nat) (w : World) : Calls Tryz.prog 202 #[.iface 81 (.slice A n n)] w fun e w' => e = .returned (.int .i64 5) ∧ Below w.heap.size w w' := by
  have fT := fun w => qLT (.slice A n n) w
  have fI := fun w => qLI (.slice A n n) w
  have fF := fun w => qLF (.slice A n n) w
  have fB := fun w => qLB (.slice A n n) w
  have fJ := fun w => qLJ (.slice A n n) w
  have fS := fun w => qLS (.slice A n n) w
  have gL := fun w => qL (.slice A n n) w
  go_enter Tryz.func202, Tryz.ntmps202
  go_wp2_with fail
  go_ret
  exact ⟨rfl, Below.refl _ _⟩
theorem ti_map (b : Option Nat) (w : World) : Calls Tryz.prog 202 #[.iface 90 (.map b)] w fun e w' => e = .returned (.int .i64 6) ∧ Below w.heap.size w w' := by
  have fT := fun w => qMT (.map b) w
  have fI := fun w => qMI (.map b) w
  have fF := fun w => qMF (.map b) w
  have fB := fun w => qMB (.map b) w
  have fJ := fun w => qMJ (.map b) w
  have fS := fun w => qMS (.map b) w
  have fL := fun w => qML (.map b) w
  have gM := fun w => qM (.map b) w
  go_enter Tryz.func202, Tryz.ntmps202
  go_wp2_with fail
  go_ret
  exact ⟨rfl, Below.refl _ _⟩
theorem nan_int (m : Int) (w : World) : Calls Tryz.prog 230 #[.int .i64 m] w fun e w' => e = .returned (.bool false) ∧ w = w' := by
  have h1 : (m != m) = false := by simp
  go_enter Tryz.func230, Tryz.ntmps230
  go_wp2_with fail
  go_ret
  exact ⟨rfl, rfl⟩
theorem cmp_ints (m n : Int) (w : World) : Calls Tryz.prog 194 #[.int .i64 m, .int .i64 n] w fun e w' => e = .returned (.int .i64 (m - n).sign) ∧ Below w.heap.size w w' := by
  rcases Int.lt_trichotomy m n with h | h | h
  · rw [Int.sign_eq_neg_one_of_neg (by omega)]
    have h1 : decide (m < n) = true := decide_eq_true h
    clear h
    go_enter Tryz.func194, Tryz.ntmps194
    go_wp2_with fail
    refine (nan_int _ _).mono ?_
    rintro e w1 ⟨rfl, rfl⟩
    go_wp2_with fail
    refine (nan_int _ _).mono ?_
    rintro e w1 ⟨rfl, rfl⟩
    go_wp2_with fail
    go_ret
    exact ⟨rfl, Below.refl _ _⟩
  · subst h
    rw [Int.sub_self]
    go_enter Tryz.func194, Tryz.ntmps194
    go_wp2_with fail
    refine (nan_int _ _).mono ?_
    rintro e w1 ⟨rfl, rfl⟩
    go_wp2_with fail
    refine (nan_int _ _).mono ?_
    rintro e w1 ⟨rfl, rfl⟩
    go_wp2_with fail
    go_ret
    exact ⟨rfl, Below.refl _ _⟩
  · rw [Int.sign_eq_one_of_pos (by omega)]
    have h1 : decide (m < n) = false := decide_eq_false (by omega)
    have h2 : decide (n < m) = true := decide_eq_true h
    clear h
    go_enter Tryz.func194, Tryz.ntmps194
    go_wp2_with fail
    refine (nan_int _ _).mono ?_
    rintro e w1 ⟨rfl, rfl⟩
    go_wp2_with fail
    refine (nan_int _ _).mono ?_
    rintro e w1 ⟨rfl, rfl⟩
    go_wp2_with fail
    go_ret
    exact ⟨rfl, Below.refl _ _⟩
end Go.Proofs.YtbnfeicpjmfooaaGreatDoor.NumA
/-
gojq.Compare and impl.Compare at two values of different kinds.
-/
set_option linter.unusedSimpArgs false
set_option linter.unusedVariables false
namespace Go.Proofs.YtbnfeicpjmfooaaGreatDoor.NumA
open Go.RowKit Go.Lib Go.Proofs.YtbnfeicpjmfooaaGreatDoor.ValA Go.Proofs.YtbnfeicpjmfooaaGreatDoor.FloH Go.Proofs.YtbnfeicpjmfooaaGreatDoorW.PrintWords Go.Proofs.YtbnfeicpjmfooaaGreatDoorW.PrintLast Go.Proofs.YtbnfeicpjmfooaaGreatDoorW.PrintMore Go.Proofs.YtbnfeicpjmfooaaGreatDoor.PzzFits1
/-- g is no json.Number. -/
def NoJ (g : Value) : Prop := ∀ w, (Instr.typeAssert g 20 153 true).run Tryz.prog w = .ok (.tuple #[.string ⟨#[]⟩, .bool false]) w
/-- g is no int. -/
def NoI (g : Value) : Prop := ∀ w, (Instr.typeAssert g 20 3 true).run Tryz.prog w = .ok (.tuple #[.int .i64 0, .bool false]) w
/-- g is no float64. -/
def NoF (g : Value) : Prop := ∀ w, (Instr.typeAssert g 20 85 true).run Tryz.prog w = .ok (.tuple #[.float .f64 0, .bool false]) w
/-- g is no *big.Int. -/
def NoB (g : Value) : Prop := ∀ w, (Instr.typeAssert g 20 120 true).run Tryz.prog w = .ok (.tuple #[.pointer none, .bool false]) w
/-- g is no string. -/
def NoS (g : Value) : Prop := ∀ w, (Instr.typeAssert g 20 9 true).run Tryz.prog w = .ok (.tuple #[.string ⟨#[]⟩, .bool false]) w
/-- g is no []interface {}. -/
def NoL (g : Value) : Prop := ∀ w, (Instr.typeAssert g 20 81 true).run Tryz.prog w = .ok (.tuple #[.slice none 0 0, .bool false]) w
/-- g is no map[string]interface {}. -/
def NoM (g : Value) : Prop := ∀ w, (Instr.typeAssert g 20 90 true).run Tryz.prog w = .ok (.tuple #[.map none, .bool false]) w
/-- g is no bool. -/
def NoT (g : Value) : Prop := ∀ w, (Instr.typeAssert g 20 4 true).run Tryz.prog w = .ok (.tuple #[.bool false, .bool false]) w
/-- The Go value of a value of kind k. -/
inductive Cl : Int → Value → Prop
  | nil : Cl 0 .nilIface
  | no : Cl 1 (.iface 4 (.bool false))
  | yes : Cl 2 (.iface 4 (.bool true))
  | int (n : Int) : Cl 3 (.iface 3 (.int .i64 n))
  | flt (n : Nat) : Cl 3 (.iface 85 (.float .f64 n))
  | str (s : ByteArray) : Cl 4 (.iface 9 (.string s))
  | list (A : Option Addr) (n : Nat) : Cl 5 (.iface 81 (.slice A n n))
  | map (b : Option Nat) : Cl 6 (.iface 90 (.map b))
theorem G.cl {n : Nat} {w : World} {x : V} {g : Value} (h : G n w x g) (h0 : 0 ≤ x.f0) : Cl x.f0 g := by
  cases h with
  | flat x hk =>
    have hc : x.f0 = 0 ∨ x.f0 = 1 ∨ x.f0 = 2 ∨ x.f0 = 3 ∨ x.f0 = 4 := by omega
    rcases hc with c | c | c | c | c <;> rw [c]
    · exact .nil
    · exact .no
    · exact .yes
    · show Cl 3 (gv x.f1)
      unfold gv
      split
      · exact .int _
      · exact .flt _
    · exact .str _
  | list x hk b l hb hl hw he => rw [hk]; exact .list _ _
  | map x hk b es c hb hl hw hst hkey he => rw [hk]; exact .map _
theorem Cl.ti {k : Int} {g : Value} (h : Cl k g) (w : World) : Calls Tryz.prog 202 #[g] w fun e w' => e = .returned (.int .i64 k) ∧ Below w.heap.size w w' := by
  cases h with
  | nil => exact ti_nil w
  | no => exact ti_false w
  | yes => exact ti_true w
  | int n => exact ti_int n w
  | flt n => exact ti_flt n w
  | str s => exact ti_str s w
  | list A n => exact ti_list A n w
  | map b => exact ti_map b w
theorem Cl.noJ {k : Int} {g : Value} (h : Cl k g) : NoJ g := by
  intro w
  cases h with
  | nil => exact noNJ w
  | no => exact qTJ _ w
  | yes => exact qTJ _ w
  | int n => exact qIJ _ w
  | flt n => exact qFJ _ w
  | str s => exact qSJ _ w
  | list A n => exact qLJ _ w
  | map b => exact qMJ _ w
theorem Cl.noI {k : Int} {g : Value} (h : Cl k g) (hk : k ≠ 3) : NoI g := by
  intro w
  cases h with
  | nil => exact noNI w
  | no => exact qTI _ w
  | yes => exact qTI _ w
  | int n => exact absurd rfl hk
  | flt n => exact absurd rfl hk
  | str s => exact qSI _ w
  | list A n => exact qLI _ w
  | map b => exact qMI _ w
theorem Cl.noF {k : Int} {g : Value} (h : Cl k g) (hk : k ≠ 3) : NoF g := by
  intro w
  cases h with
  | nil => exact noNF w
  | no => exact qTF _ w
  | yes => exact qTF _ w
  | int n => exact absurd rfl hk
  | flt n => exact absurd rfl hk
  | str s => exact qSF _ w
  | list A n => exact qLF _ w
  | map b => exact qMF _ w
theorem Cl.noB {k : Int} {g : Value} (h : Cl k g) : NoB g := by
  intro w
  cases h with
  | nil => exact noNB w
  | no => exact qTB _ w
  | yes => exact qTB _ w
  | int n => exact qIB _ w
  | flt n => exact qFB _ w
  | str s => exact qSB _ w
  | list A n => exact qLB _ w
  | map b => exact qMB _ w
theorem Cl.noS {k : Int} {g : Value} (h : Cl k g) (hk : k ≠ 4) : NoS g := by
  intro w
  cases h with
  | nil => exact noNS w
  | no => exact qTS _ w
  | yes => exact qTS _ w
  | int n => exact qIS _ w
  | flt n => exact qFS _ w
  | str s => exact absurd rfl hk
  | list A n => exact qLS _ w
  | map b => exact qMS _ w
theorem Cl.noL {k : Int} {g : Value} (h : Cl k g) (hk : k ≠ 5) : NoL g := by
  intro w
  cases h with
  | nil => exact noNL w
  | no => exact qTL _ w
  | yes => exact qTL _ w
  | int n => exact qIL _ w
  | flt n => exact qFL _ w
  | str s => exact qSL _ w
  | list A n => exact absurd rfl hk
  | map b => exact qML _ w
theorem Cl.noM {k : Int} {g : Value} (h : Cl k g) (hk : k ≠ 6) : NoM g := by
  intro w
  cases h with
  | nil => exact noNM w
  | no => exact qTM _ w
  | yes => exact qTM _ w
  | int n => exact qIM _ w
  | flt n => exact qFM _ w
  | str s => exact qSM _ w
  | list A n => exact qLM _ w
  | map b => exact absurd rfl hk
theorem fallback (l r : Value) (a b : Int) (hl : Cl a l) (hr : Cl b r) (w : World) : Calls Tryz.prog 201 #[l, r] w fun e w' => e = .returned (.int .i64 (a - b).sign) ∧ Below w.heap.size w w' := by
  have HL := Lib.hid hl.ti
  have HR := Lib.hid hr.ti
  have HC := Lib.hid (cmp_ints a b)
  clear hl hr
  go_enter Tryz.func201, Tryz.ntmps201
  go_wp2_with fail
  refine (HL.out _).mono ?_
  rintro e w1 ⟨rfl, hb⟩
  have H1 := Lib.hid hb; clear hb
  go_wp2_with fail
  refine (HR.out _).mono ?_
  rintro e w2 ⟨rfl, hb⟩
  have H2 := Lib.hid (H1.out.trans (hb.mono H1.out.size)); clear hb
  go_wp2_with fail
  refine (HC.out _).mono ?_
  rintro e w3 ⟨rfl, hb⟩
  have H3 := Lib.hid (H2.out.trans (hb.mono H2.out.size)); clear hb
  go_wp2_with fail
  go_ret
  exact ⟨rfl, H3.out⟩
set_option maxRecDepth 100000 in
set_option maxHeartbeats 4000000 in
theorem bo_nil (z : Int)  (g : Value) (hJ : NoJ g) (HC : ∀ w, Calls Tryz.prog 201 #[.nilIface, g] w fun e w' => e = .returned (.int .i64 z) ∧ Below w.heap.size w w') (w : World) :
    Calls Tryz.prog 193 #[.nilIface, g, Value.func (Fn.func 194) #[] #[], Value.func (Fn.func 195) #[] #[], Value.func (Fn.func 147) #[] #[], Value.func (Fn.func 197) #[] #[], Value.func (Fn.func 198) #[] #[], Value.func (Fn.func 199) #[] #[], Value.func (Fn.func 201) #[] #[]] w fun e w' => e = .returned (.int .i64 z) ∧ Below w.heap.size w w' := by
  have H := Lib.hid HC
  clear HC
  unfold NoJ at hJ
  have fJ := fun w => noNJ w
  have fI := fun w => noNI w
  have fF := fun w => noNF w
  have fB := fun w => noNB w
  have fS := fun w => noNS w
  have fL := fun w => noNL w
  have fM := fun w => noNM w
  go_enter Tryz.func193, Tryz.ntmps193
  go_wp2_with fail
  refine (H.out _).mono ?_
  rintro e w1 ⟨rfl, hb⟩
  have HB := Lib.hid hb; clear hb
  go_wp2_with fail
  go_ret
  exact ⟨rfl, HB.out⟩
set_option maxRecDepth 100000 in
set_option maxHeartbeats 4000000 in
theorem bo_bool (z : Int) (b : Bool) (g : Value) (hJ : NoJ g) (HC : ∀ w, Calls Tryz.prog 201 #[.iface 4 (.bool b), g] w fun e w' => e = .returned (.int .i64 z) ∧ Below w.heap.size w w') (w : World) :
    Calls Tryz.prog 193 #[.iface 4 (.bool b), g, Value.func (Fn.func 194) #[] #[], Value.func (Fn.func 195) #[] #[], Value.func (Fn.func 147) #[] #[], Value.func (Fn.func 197) #[] #[], Value.func (Fn.func 198) #[] #[], Value.func (Fn.func 199) #[] #[], Value.func (Fn.func 201) #[] #[]] w fun e w' => e = .returned (.int .i64 z) ∧ Below w.heap.size w w' := by
  have H := Lib.hid HC
  clear HC
  unfold NoJ at hJ
  have fJ := fun w => qTJ (.bool b) w
  have fI := fun w => qTI (.bool b) w
  have fF := fun w => qTF (.bool b) w
  have fB := fun w => qTB (.bool b) w
  have fS := fun w => qTS (.bool b) w
  have fL := fun w => qTL (.bool b) w
  have fM := fun w => qTM (.bool b) w
  go_enter Tryz.func193, Tryz.ntmps193
  go_wp2_with fail
  refine (H.out _).mono ?_
  rintro e w1 ⟨rfl, hb⟩
  have HB := Lib.hid hb; clear hb
  go_wp2_with fail
  go_ret
  exact ⟨rfl, HB.out⟩
set_option maxRecDepth 100000 in
set_option maxHeartbeats 4000000 in
theorem bo_int (z : Int) (n : Int) (g : Value) (hJ : NoJ g) (hI : NoI g) (hF : NoF g) (hB : NoB g) (HC : ∀ w, Calls Tryz.prog 201 #[.iface 3 (.int .i64 n), g] w fun e w' => e = .returned (.int .i64 z) ∧ Below w.heap.size w w') (w : World) :
    Calls Tryz.prog 193 #[.iface 3 (.int .i64 n), g, Value.func (Fn.func 194) #[] #[], Value.func (Fn.func 195) #[] #[], Value.func (Fn.func 147) #[] #[], Value.func (Fn.func 197) #[] #[], Value.func (Fn.func 198) #[] #[], Value.func (Fn.func 199) #[] #[], Value.func (Fn.func 201) #[] #[]] w fun e w' => e = .returned (.int .i64 z) ∧ Below w.heap.size w w' := by
  have H := Lib.hid HC
  clear HC
  unfold NoJ at hJ
  unfold NoI at hI
  unfold NoF at hF
  unfold NoB at hB
  have fJ := fun w => qIJ (.int .i64 n) w
  have gI := fun w => qI (.int .i64 n) w
  go_enter Tryz.func193, Tryz.ntmps193
  go_wp2_with fail
  refine (H.out _).mono ?_
  rintro e w1 ⟨rfl, hb⟩
  have HB := Lib.hid hb; clear hb
  go_wp2_with fail
  go_ret
  exact ⟨rfl, HB.out⟩
set_option maxRecDepth 100000 in
set_option maxHeartbeats 4000000 in
theorem bo_flt (z : Int) (n : Nat) (g : Value) (hJ : NoJ g) (hI : NoI g) (hF : NoF g) (hB : NoB g) (HC : ∀ w, Calls Tryz.prog 201 #[.iface 85 (.float .f64 n), g] w fun e w' => e = .returned (.int .i64 z) ∧ Below w.heap.size w w') (w : World) :
    Calls Tryz.prog 193 #[.iface 85 (.float .f64 n), g, Value.func (Fn.func 194) #[] #[], Value.func (Fn.func 195) #[] #[], Value.func (Fn.func 147) #[] #[], Value.func (Fn.func 197) #[] #[], Value.func (Fn.func 198) #[] #[], Value.func (Fn.func 199) #[] #[], Value.func (Fn.func 201) #[] #[]] w fun e w' => e = .returned (.int .i64 z) ∧ Below w.heap.size w w' := by
  have H := Lib.hid HC
  clear HC
  unfold NoJ at hJ
  unfold NoI at hI
  unfold NoF at hF
  unfold NoB at hB
  have fJ := fun w => qFJ (.float .f64 n) w
  have fI := fun w => qFI (.float .f64 n) w
  have gF := fun w => qF (.float .f64 n) w
  go_enter Tryz.func193, Tryz.ntmps193
  go_wp2_with fail
  refine (H.out _).mono ?_
  rintro e w1 ⟨rfl, hb⟩
  have HB := Lib.hid hb; clear hb
  go_wp2_with fail
  go_ret
  exact ⟨rfl, HB.out⟩
set_option maxRecDepth 100000 in
set_option maxHeartbeats 4000000 in
theorem bo_str (z : Int) (s : ByteArray) (g : Value) (hJ : NoJ g) (hS : NoS g) (HC : ∀ w, Calls Tryz.prog 201 #[.iface 9 (.string s), g] w fun e w' => e = .returned (.int .i64 z) ∧ Below w.heap.size w w') (w : World) :
    Calls Tryz.prog 193 #[.iface 9 (.string s), g, Value.func (Fn.func 194) #[] #[], Value.func (Fn.func 195) #[] #[], Value.func (Fn.func 147) #[] #[], Value.func (Fn.func 197) #[] #[], Value.func (Fn.func 198) #[] #[], Value.func (Fn.func 199) #[] #[], Value.func (Fn.func 201) #[] #[]] w fun e w' => e = .returned (.int .i64 z) ∧ Below w.heap.size w w' := by
  have H := Lib.hid HC
  clear HC
  unfold NoJ at hJ
  unfold NoS at hS
  have fJ := fun w => qSJ (.string s) w
  have fI := fun w => qSI (.string s) w
  have fF := fun w => qSF (.string s) w
  have fB := fun w => qSB (.string s) w
  have gS := fun w => qS (.string s) w
  go_enter Tryz.func193, Tryz.ntmps193
  go_wp2_with fail
  refine (H.out _).mono ?_
  rintro e w1 ⟨rfl, hb⟩
  have HB := Lib.hid hb; clear hb
  go_wp2_with fail
  go_ret
  exact ⟨rfl, HB.out⟩
set_option maxRecDepth 100000 in
set_option maxHeartbeats 4000000 in
theorem bo_list (z : Int) (A : Option Addr) (n : Nat) (g : Value) (hJ : NoJ g) (hL : NoL g) (HC : ∀ w, Calls Tryz.prog 201 #[.iface 81 (.slice A n n), g] w fun e w' => e = .returned (.int .i64 z) ∧ Below w.heap.size w w') (w : World) :
    Calls Tryz.prog 193 #[.iface 81 (.slice A n n), g, Value.func (Fn.func 194) #[] #[], Value.func (Fn.func 195) #[] #[], Value.func (Fn.func 147) #[] #[], Value.func (Fn.func 197) #[] #[], Value.func (Fn.func 198) #[] #[], Value.func (Fn.func 199) #[] #[], Value.func (Fn.func 201) #[] #[]] w fun e w' => e = .returned (.int .i64 z) ∧ Below w.heap.size w w' := by
  have H := Lib.hid HC
  clear HC
  unfold NoJ at hJ
  unfold NoL at hL
  have fJ := fun w => qLJ (.slice A n n) w
  have fI := fun w => qLI (.slice A n n) w
  have fF := fun w => qLF (.slice A n n) w
  have fB := fun w => qLB (.slice A n n) w
  have fS := fun w => qLS (.slice A n n) w
  have gL := fun w => qL (.slice A n n) w
  go_enter Tryz.func193, Tryz.ntmps193
  go_wp2_with fail
  refine (H.out _).mono ?_
  rintro e w1 ⟨rfl, hb⟩
  have HB := Lib.hid hb; clear hb
  go_wp2_with fail
  go_ret
  exact ⟨rfl, HB.out⟩
set_option maxRecDepth 100000 in
set_option maxHeartbeats 4000000 in
theorem bo_map (z : Int) (b : Option Nat) (g : Value) (hJ : NoJ g) (hM : NoM g) (HC : ∀ w, Calls Tryz.prog 201 #[.iface 90 (.map b), g] w fun e w' => e = .returned (.int .i64 z) ∧ Below w.heap.size w w') (w : World) :
    Calls Tryz.prog 193 #[.iface 90 (.map b), g, Value.func (Fn.func 194) #[] #[], Value.func (Fn.func 195) #[] #[], Value.func (Fn.func 147) #[] #[], Value.func (Fn.func 197) #[] #[], Value.func (Fn.func 198) #[] #[], Value.func (Fn.func 199) #[] #[], Value.func (Fn.func 201) #[] #[]] w fun e w' => e = .returned (.int .i64 z) ∧ Below w.heap.size w w' := by
  have H := Lib.hid HC
  clear HC
  unfold NoJ at hJ
  unfold NoM at hM
  have fJ := fun w => qMJ (.map b) w
  have fI := fun w => qMI (.map b) w
  have fF := fun w => qMF (.map b) w
  have fB := fun w => qMB (.map b) w
  have fS := fun w => qMS (.map b) w
  have fL := fun w => qML (.map b) w
  have gM := fun w => qM (.map b) w
  go_enter Tryz.func193, Tryz.ntmps193
  go_wp2_with fail
  refine (H.out _).mono ?_
  rintro e w1 ⟨rfl, hb⟩
  have HB := Lib.hid hb; clear hb
  go_wp2_with fail
  go_ret
  exact ⟨rfl, HB.out⟩
theorem compare_dif (l r : Value) (a b : Int) (hl : Cl a l) (hr : Cl b r) (hab : a ≠ b) (w : World) : Calls Tryz.prog 163 #[l, r] w fun e w' => e = .returned (.int .i64 (a - b).sign) ∧ Below w.heap.size w w' := by
  have HB : Hid (∀ w, Calls Tryz.prog 193 #[l, r, Value.func (Fn.func 194) #[] #[], Value.func (Fn.func 195) #[] #[], Value.func (Fn.func 147) #[] #[], Value.func (Fn.func 197) #[] #[], Value.func (Fn.func 198) #[] #[], Value.func (Fn.func 199) #[] #[], Value.func (Fn.func 201) #[] #[]] w fun e w' => e = .returned (.int .i64 (a - b).sign) ∧ Below w.heap.size w w') := by
    refine Lib.hid fun w => ?_
    have hf := fun w => fallback l r a b hl hr w
    cases hl with
    | nil => exact bo_nil _ r hr.noJ hf w
    | no => exact bo_bool _ false r hr.noJ hf w
    | yes => exact bo_bool _ true r hr.noJ hf w
    | int n => exact bo_int _ n r hr.noJ (hr.noI (Ne.symm hab)) (hr.noF (Ne.symm hab)) hr.noB hf w
    | flt n => exact bo_flt _ n r hr.noJ (hr.noI (Ne.symm hab)) (hr.noF (Ne.symm hab)) hr.noB hf w
    | str s => exact bo_str _ s r hr.noJ (hr.noS (Ne.symm hab)) hf w
    | list A n => exact bo_list _ A n r hr.noJ (hr.noL (Ne.symm hab)) hf w
    | map b => exact bo_map _ b r hr.noJ (hr.noM (Ne.symm hab)) hf w
  clear hl hr hab
  go_enter Tryz.func163, Tryz.ntmps163
  go_wp2_with fail
  refine (HB.out _).mono ?_
  rintro e w1 ⟨rfl, hb⟩
  have H1 := Lib.hid hb; clear hb
  go_wp2_with fail
  go_ret
  exact ⟨rfl, H1.out⟩
end Go.Proofs.YtbnfeicpjmfooaaGreatDoor.NumA
/-
impl.Compare at two values.
-/
set_option linter.unusedSimpArgs false
set_option linter.unusedVariables false
namespace Go.Proofs.YtbnfeicpjmfooaaGreatDoor.NumA
open Go.RowKit Go.Lib Go.Proofs.YtbnfeicpjmfooaaGreatDoor.ValA Go.Proofs.YtbnfeicpjmfooaaGreatDoor.FloH Go.Proofs.YtbnfeicpjmfooaaGreatDoorW.PrintWords Go.Proofs.YtbnfeicpjmfooaaGreatDoorW.PrintLast Go.Proofs.YtbnfeicpjmfooaaGreatDoorW.PrintMore Go.Proofs.YtbnfeicpjmfooaaGreatDoor.PzzFits1
end Go.Proofs.YtbnfeicpjmfooaaGreatDoor.NumA
