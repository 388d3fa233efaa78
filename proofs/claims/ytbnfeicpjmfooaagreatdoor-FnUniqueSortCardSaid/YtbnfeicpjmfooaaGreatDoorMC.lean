/-
Parts of the proof, one behind the other: FlatA, FlatB.
-/
import Derived.Test.YtbnfeicpjmfooaaGreatDoorMA
import Derived.Test.YtbnfeicpjmfooaaGreatDoorV2
import Derived.Sort.Walk0
/-
Flat values (null, booleans, numbers, strings): what package impl makes of them, what comes back; gojq's contains at two of them.
-/
namespace Go.Proofs.YtbnfeicpjmfooaaGreatDoor.NumA
open Go.RowKit Go.Lib Go.Proofs.YtbnfeicpjmfooaaGreatDoor.ValA Go.Proofs.YtbnfeicpjmfooaaGreatDoor.FloH
theorem toGo_null (h : Int) (r : Rest) (w : World) :
    Calls Tryz.prog 49 #[vl 0 h r] w fun e w' => e = .returned (.tuple #[.nilIface, .bool true]) ∧ Below w.heap.size w w' := by
  obtain ⟨s, a, l, c, a1, l1, c1, a2, l2, c2⟩ := r
  simp only [vl]
  go_enter Tryz.func49, Tryz.ntmps49
  go_wp2_with fail
  go_ret2
  exact ⟨rfl, (Below.refl _ w).alloc (Nat.le_refl _) _⟩
theorem toGo_no (h : Int) (r : Rest) (w : World) :
    Calls Tryz.prog 49 #[vl 1 h r] w fun e w' => e = .returned (.tuple #[.iface 4 (.bool false), .bool true]) ∧ Below w.heap.size w w' := by
  obtain ⟨s, a, l, c, a1, l1, c1, a2, l2, c2⟩ := r
  simp only [vl]
  go_enter Tryz.func49, Tryz.ntmps49
  go_wp2_with fail
  go_ret2
  exact ⟨rfl, (Below.refl _ w).alloc (Nat.le_refl _) _⟩
theorem toGo_yes (h : Int) (r : Rest) (w : World) :
    Calls Tryz.prog 49 #[vl 2 h r] w fun e w' => e = .returned (.tuple #[.iface 4 (.bool true), .bool true]) ∧ Below w.heap.size w w' := by
  obtain ⟨s, a, l, c, a1, l1, c1, a2, l2, c2⟩ := r
  simp only [vl]
  go_enter Tryz.func49, Tryz.ntmps49
  go_wp2_with fail
  go_ret2
  exact ⟨rfl, (Below.refl _ w).alloc (Nat.le_refl _) _⟩
theorem toGo_text (h : Int) (r : Rest) (w : World) :
    Calls Tryz.prog 49 #[vl 4 h r] w fun e w' => e = .returned (.tuple #[.iface 9 (.string r.s), .bool true]) ∧ Below w.heap.size w w' := by
  obtain ⟨s, a, l, c, a1, l1, c1, a2, l2, c2⟩ := r
  simp only [vl]
  go_enter Tryz.func49, Tryz.ntmps49
  go_wp2_with fail
  go_ret2
  exact ⟨rfl, (Below.refl _ w).alloc (Nat.le_refl _) _⟩
theorem noTI (v : Value) (w : World) : (Instr.typeAssert (.iface 4 v) 20 3 true).run Tryz.prog w = .ok (.tuple #[.int .i64 0, .bool false]) w := by kernel_rfl
theorem isT (v : Value) (w : World) : (Instr.typeAssert (.iface 4 v) 20 4 true).run Tryz.prog w = .ok (.tuple #[v, .bool true]) w := by kernel_rfl
theorem noNJ (w : World) : (Instr.typeAssert .nilIface 20 153 true).run Tryz.prog w = .ok (.tuple #[.string ⟨#[]⟩, .bool false]) w := by kernel_rfl
theorem noNI (w : World) : (Instr.typeAssert .nilIface 20 3 true).run Tryz.prog w = .ok (.tuple #[.int .i64 0, .bool false]) w := by kernel_rfl
theorem noNF (w : World) : (Instr.typeAssert .nilIface 20 85 true).run Tryz.prog w = .ok (.tuple #[.float .f64 0, .bool false]) w := by kernel_rfl
theorem noNB (w : World) : (Instr.typeAssert .nilIface 20 120 true).run Tryz.prog w = .ok (.tuple #[.pointer none, .bool false]) w := by kernel_rfl
theorem noNS (w : World) : (Instr.typeAssert .nilIface 20 9 true).run Tryz.prog w = .ok (.tuple #[.string ⟨#[]⟩, .bool false]) w := by kernel_rfl
theorem noNL (w : World) : (Instr.typeAssert .nilIface 20 81 true).run Tryz.prog w = .ok (.tuple #[.slice none 0 0, .bool false]) w := by kernel_rfl
theorem noNM (w : World) : (Instr.typeAssert .nilIface 20 90 true).run Tryz.prog w = .ok (.tuple #[.map none, .bool false]) w := by kernel_rfl
theorem noNT (w : World) : (Instr.typeAssert .nilIface 20 4 true).run Tryz.prog w = .ok (.tuple #[.bool false, .bool false]) w := by kernel_rfl
/-- The kind of a boolean. -/
def kb (b : Bool) : Int := if b then 2 else 1
theorem fromGo_true (w : World) :
    Calls Tryz.prog 88 #[.iface 4 (.bool true)] w fun e w' => e = .returned (.tuple #[vl 2 0 r0, .bool true]) ∧ Below w.heap.size w w' := by
  have a1 := fun w => noTI (.bool true) w
  have a2 := fun w => isT (.bool true) w
  go_enter Tryz.func88, Tryz.ntmps88
  go_wp2_with fail
  refine bodyPost_ret (v := .tuple #[vl 2 0 r0, .bool true]) (by simp [results, Tryz.results88, go_sem, vl, r0]) rfl ⟨rfl, ?_⟩
  exact (Below.refl _ w).alloc (Nat.le_refl _) _
theorem fromGo_false (w : World) :
    Calls Tryz.prog 88 #[.iface 4 (.bool false)] w fun e w' => e = .returned (.tuple #[vl 1 0 r0, .bool true]) ∧ Below w.heap.size w w' := by
  have a1 := fun w => noTI (.bool false) w
  have a2 := fun w => isT (.bool false) w
  go_enter Tryz.func88, Tryz.ntmps88
  go_wp2_with fail
  refine bodyPost_ret (v := .tuple #[vl 1 0 r0, .bool true]) (by simp [results, Tryz.results88, go_sem, vl, r0]) rfl ⟨rfl, ?_⟩
  exact (Below.refl _ w).alloc (Nat.le_refl _) _
/-- A number that package spec lets in. -/
def JN (h : Int) : Prop := (-18014398509481984 ≤ h ∧ h ≤ 18014398509481984) ∧ (h % 2 = 0 ∨ (-9007199254740992 < h ∧ h < 9007199254740992))
theorem JN.he {h : Int} (hj : JN h) : HE h := by
  obtain ⟨⟨a, b⟩, c | ⟨c, d⟩⟩ := hj
  · have e : h = 2 * (h / 2) := by omega
    rw [e]; exact he_even _ (by omega) (by omega)
  · exact he_small h (by omega) (by omega)
theorem toGo_jn (h : Int) (r : Rest) (hj : JN h) (w : World) :
    Calls Tryz.prog 49 #[vl 3 h r] w fun e w' => e = .returned (.tuple #[gv h, .bool true]) ∧ Below w.heap.size w w' := by
  by_cases hs : -9007199254740992 ≤ h ∧ h ≤ 9007199254740992
  · exact toGo_num h r w hs.1 hs.2
  have hm : h % 2 = 0 := by obtain ⟨⟨a, b⟩, c | ⟨c, d⟩⟩ := hj <;> omega
  obtain ⟨⟨h1, h2⟩, _⟩ := hj
  clear hs
  obtain ⟨s, a, l, c, a1, l1, c1, a2, l2, c2⟩ := r
  simp only [vl]
  unfold gv
  rw [if_pos hm]
  obtain ⟨n, hn⟩ : ∃ n, h = 2 * n := ⟨h / 2, by omega⟩
  have q : h.tdiv 2 = n := by rw [hn]; exact Int.mul_tdiv_cancel_left n (by omega)
  have m : (h.tmod 2 == 0) = true := by rw [beq_iff_eq, hn]; exact Int.mul_tmod_right 2 n
  have e : h / 2 = n := by omega
  rw [e]
  have Q := Lib.hid q
  clear q hm hn e
  go_enter Tryz.func49, Tryz.ntmps49
  go_wp2_with fail
  go_ret2
  exact ⟨by rw [← Q.out]; rfl, (Below.refl _ w).alloc (Nat.le_refl _) _⟩
end Go.Proofs.YtbnfeicpjmfooaaGreatDoor.NumA
/-
Contains at two strings; the order of flat values; the law's yes and no.
-/
namespace Go.Proofs.YtbnfeicpjmfooaaGreatDoor.NumA
open Go.RowKit Go.Lib Go.Proofs.YtbnfeicpjmfooaaGreatDoor.ValA Go.Proofs.YtbnfeicpjmfooaaGreatDoor.FloH Go.Proofs.YtbnfeicpjmfooaaGreatDoor.PzzContains Go.Proofs.YtbnfeicpjmfooaaGreatDoorW.PrintWords Go.Proofs.YtbnfeicpjmfooaaGreatDoorW.PrintLast Go.Proofs.YtbnfeicpjmfooaaGreatDoorW.PrintMore
/-- Does a string contain another one. -/
def conB (s t : ByteArray) : Bool := gojq_zzContains.f (s.size + 2) s t == some true
end Go.Proofs.YtbnfeicpjmfooaaGreatDoor.NumA
