-- PRINTED BY print.sh 35421559b90ae4d0a3588c463048766b98c2df88dd9212a6774a882060cdf62d: not written by this session
import Derived.Test.YtbnfeicpjmfooaaGreatDoorProg
import Derived.Below
import Derived.Deep.Draws
import Derived.Deep.AppendLies
import Derived.Maps.AppendAt
import Derived.OwnWalk
import Derived.Laws.BytesArg
import Derived.Laws.MakeOwn
import Derived.Laws.OwnMore
import Derived.Deep.OwnRows
import Derived.Tactics
import Derived.Lib.ConvBytes
import Derived.Laws.Slices
import Derived.WalkKit
import Derived.KernelRfl
import Derived.RowKit3
import Derived.Deep.LoopGhost
import Derived.Deep.QuietTactic
import Derived.BigQuiet
import Derived.WideLaws
import Derived.Deep.DeepCutAuto
import Derived.Deep.CutBlock
import Derived.Deep.RegionHeld3
import Derived.Laws.Rows
import Derived.Lib.AppendStr
import Derived.ArgAppend
import Derived.Laws.IdiomCopy
import Derived.OrdersHeld
import Derived.Laws.BitsLemmas
import Derived.RowKit
import Derived.Test.YtbnfeicpjmfooaaGreatDoorWWords
import Derived.Test.YtbnfeicpjmfooaaGreatDoorWLast
import Derived.Test.YtbnfeicpjmfooaaGreatDoorWTab
import Derived.Test.YtbnfeicpjmfooaaGreatDoorWFour
import Derived.Test.YtbnfeicpjmfooaaGreatDoorWQPut
import Derived.Test.YtbnfeicpjmfooaaGreatDoorWApart
import Derived.Test.YtbnfeicpjmfooaaGreatDoorWArr
import Derived.Test.YtbnfeicpjmfooaaGreatDoorWZeros
import Derived.Test.YtbnfeicpjmfooaaGreatDoorWFoot
import Derived.Test.YtbnfeicpjmfooaaGreatDoorWKept
import Derived.Test.YtbnfeicpjmfooaaGreatDoorWShare
import Derived.Test.YtbnfeicpjmfooaaGreatDoorWN
import Derived.Test.YtbnfeicpjmfooaaGreatDoorWFootNe
import Derived.Test.YtbnfeicpjmfooaaGreatDoorWAt
import Derived.Test.YtbnfeicpjmfooaaGreatDoorWEqStruct
import Derived.Test.YtbnfeicpjmfooaaGreatDoorWRepsOne
import Derived.Test.YtbnfeicpjmfooaaGreatDoorWInv
import Derived.Test.YtbnfeicpjmfooaaGreatDoorWInvWords
import Derived.Test.YtbnfeicpjmfooaaGreatDoorWGuard
import Derived.Test.YtbnfeicpjmfooaaGreatDoorWNEv
import Derived.Test.YtbnfeicpjmfooaaGreatDoorWMore
namespace Go.Proofs.YtbnfeicpjmfooaaGreatDoor.PzzFits1
open Go.RowKit Go.Proofs.YtbnfeicpjmfooaaGreatDoorW.PrintWords Go.Proofs.YtbnfeicpjmfooaaGreatDoorW.PrintLast Go.Proofs.YtbnfeicpjmfooaaGreatDoorW.PrintMore
attribute [local go_sem] max2_int min2_int max_two min_two max_three min_three max_four min_four   -- for this text's walks alone
set_option linter.unusedVariables false
set_option linter.unusedSimpArgs false



def errW : Option Int → Value
  | none => .nilIface
  | some c => .iface 0 (.int .i64 c)
theorem errW_none : errW none = .nilIface := rfl
theorem errW_some (c : Int) : errW (some c) = .iface 0 (.int .i64 c) := rfl

-- the values' own types
def rd_L2 (xs : List (List ByteArray)) (i : Int) : (List ByteArray) := xs.getD i.toNat ([] : List ByteArray)
theorem at_L2 {w : World} {A : Option Addr} {n : Nat} {xs : List (List ByteArray)} (h : Kd.C (Kd.slice 9 Kd.string) w A n xs) (i : Int) (h0 : 0 ≤ i) (h1 : i < n) : ∃ ad A0 c0, A = some ad ∧ w.cell? (ad.add i.toNat) = some (.slice A0 (rd_L2 xs i).length c0) ∧ (rd_L2 xs i).length ≤ c0 ∧ Kd.string.C w A0 (rd_L2 xs i).length (rd_L2 xs i) := by
  obtain ⟨ad, c, e, _, hK, hc0⟩ := Kd.C_get h ([] : List ByteArray) i h0 h1
  have hc : ∀ j u, c[j]? = some u → w.cell? (ad.add (i.toNat * 1 + j)) = some u := hc0
  obtain ⟨A0, c0, rfl, l0, g0⟩ := hK
  exact ⟨ad, A0, c0, e, by have hq := hc 0 _ rfl; rwa [Nat.mul_one, Nat.add_zero] at hq, l0, g0⟩

/-! #### struct type 26, nested in itself -/
structure S26 where
  f0 : Int
  f1 : Int
  f2 : ByteArray
  f3 : (List S26)
  f4 : (List ByteArray)
  f5 : (List S26)
def z26 : S26 := ⟨(0 : Int), (0 : Int), (⟨#[]⟩ : ByteArray), ([] : List S26), ([] : List ByteArray), ([] : List S26)⟩
def F26 (d : Kd S26) : Kd S26 := Kd.iso (Kd.pair (Kd.int .i64) (Kd.pair (Kd.int .i64) (Kd.pair Kd.string (Kd.pair (Kd.slice 26 d) (Kd.pair (Kd.slice 9 Kd.string) (Kd.slice 26 d)))))) (fun x : S26 => (x.f0, x.f1, x.f2, x.f3, x.f4, x.f5))
theorem mono26 : Kd.Mono F26 := Kd.mono_iso _ (Kd.mono_pair (Kd.mono_const _) (Kd.mono_pair (Kd.mono_const _) (Kd.mono_pair (Kd.mono_const _) (Kd.mono_pair (Kd.mono_slice 26 Kd.mono_id) (Kd.mono_pair (Kd.mono_const _) (Kd.mono_slice 26 Kd.mono_id))))))
theorem sub26 : Kd.Sub F26 [9, 26] := Kd.sub_iso _ (Kd.sub_pair (Kd.sub_const _ (by decide)) (Kd.sub_pair (Kd.sub_const _ (by decide)) (Kd.sub_pair (Kd.sub_const _ (by decide)) (Kd.sub_pair (Kd.sub_slice 26 (by decide) Kd.sub_id) (Kd.sub_pair (Kd.sub_const _ (by decide)) (Kd.sub_slice 26 (by decide) Kd.sub_id))))))
theorem sz26 : ∀ n, (Kd.upto F26 6 [9, 26] n).sz = 6 := Kd.upto_sz (fun _ => rfl)
def k26 : Kd S26 := Kd.fix F26 6 [9, 26] sz26 (Kd.upto_E sub26)
theorem k26_open {w : World} {x : S26} {cs : List Value} (h : k26.K w x cs) : ∃ A3 c3 A4 c4 A5 c5, cs = [.int .i64 x.f0, .int .i64 x.f1, .string x.f2, .slice A3 x.f3.length c3, .slice A4 x.f4.length c4, .slice A5 x.f5.length c5] ∧ x.f3.length ≤ c3 ∧ k26.C w A3 x.f3.length x.f3 ∧ x.f4.length ≤ c4 ∧ Kd.string.C w A4 x.f4.length x.f4 ∧ x.f5.length ≤ c5 ∧ k26.C w A5 x.f5.length x.f5 := by
  obtain ⟨n, h⟩ := h
  cases n with
  | zero => exact h.elim
  | succ n =>
    obtain ⟨_, _, rfl, rfl, ⟨_, _, rfl, rfl, ⟨_, _, rfl, rfl, ⟨_, _, rfl, ⟨A3, c3, rfl, l3, g3⟩, ⟨_, _, rfl, ⟨A4, c4, rfl, l4, g4⟩, ⟨A5, c5, rfl, l5, g5⟩⟩⟩⟩⟩⟩ := h
    exact ⟨A3, c3, A4, c4, A5, c5, rfl, l3, Kd.fix_C g3, l4, g4, l5, Kd.fix_C g5⟩
theorem k26_openM {w : World} {base : Nat} {ok : Nat → Prop} {x : S26} {cs : List Value} (h : k26.M w base ok x cs) : ∃ v3 v4 v5, cs = [.int .i64 x.f0, .int .i64 x.f1, .string x.f2, v3, v4, v5] ∧ k26.R 26 w base ok v3 x.f3 ∧ Kd.string.R 9 w base ok v4 x.f4 ∧ k26.R 26 w base ok v5 x.f5 := by
  obtain ⟨n, h⟩ := h
  cases n with
  | zero => exact h.elim
  | succ n =>
    obtain ⟨_, _, rfl, rfl, ⟨_, _, rfl, rfl, ⟨_, _, rfl, rfl, ⟨_, _, rfl, ⟨v3, rfl, g3⟩, ⟨_, _, rfl, ⟨v4, rfl, g4⟩, ⟨v5, rfl, g5⟩⟩⟩⟩⟩⟩ := h
    exact ⟨v3, v4, v5, rfl, Kd.fix_R g3, g4, Kd.fix_R g5⟩
theorem k26_mk (w : World) (x : S26) {A3 : Option Addr} {c3 : Nat} (l3 : x.f3.length ≤ c3) (g3 : k26.C w A3 x.f3.length x.f3) {A4 : Option Addr} {c4 : Nat} (l4 : x.f4.length ≤ c4) (g4 : Kd.string.C w A4 x.f4.length x.f4) {A5 : Option Addr} {c5 : Nat} (l5 : x.f5.length ≤ c5) (g5 : k26.C w A5 x.f5.length x.f5) : k26.K w x [.int .i64 x.f0, .int .i64 x.f1, .string x.f2, .slice A3 x.f3.length c3, .slice A4 x.f4.length c4, .slice A5 x.f5.length c5] := by
  obtain ⟨n3, q3⟩ := Kd.fix_C_back mono26 g3
  obtain ⟨n5, q5⟩ := Kd.fix_C_back mono26 g5
  have r3 := Kd.upto_C_le mono26 sz26 (show n3 ≤ (max n3 n5) by omega) q3
  have r5 := Kd.upto_C_le mono26 sz26 (show n5 ≤ (max n3 n5) by omega) q5
  exact ⟨(max n3 n5) + 1, ⟨[.int .i64 x.f0], [.int .i64 x.f1, .string x.f2, .slice A3 x.f3.length c3, .slice A4 x.f4.length c4, .slice A5 x.f5.length c5], rfl, rfl, ⟨[.int .i64 x.f1], [.string x.f2, .slice A3 x.f3.length c3, .slice A4 x.f4.length c4, .slice A5 x.f5.length c5], rfl, rfl, ⟨[.string x.f2], [.slice A3 x.f3.length c3, .slice A4 x.f4.length c4, .slice A5 x.f5.length c5], rfl, rfl, ⟨[.slice A3 x.f3.length c3], [.slice A4 x.f4.length c4, .slice A5 x.f5.length c5], rfl, ⟨A3, c3, rfl, l3, r3⟩, ⟨[.slice A4 x.f4.length c4], [.slice A5 x.f5.length c5], rfl, ⟨A4, c4, rfl, l4, g4⟩, ⟨A5, c5, rfl, l5, r5⟩⟩⟩⟩⟩⟩⟩
theorem k26_mkM (w : World) (base : Nat) (ok : Nat → Prop) (x : S26) {v3 : Value} (g3 : k26.R 26 w base ok v3 x.f3) {v4 : Value} (g4 : Kd.string.R 9 w base ok v4 x.f4) {v5 : Value} (g5 : k26.R 26 w base ok v5 x.f5) : k26.M w base ok x [.int .i64 x.f0, .int .i64 x.f1, .string x.f2, v3, v4, v5] := by
  obtain ⟨n3, q3⟩ := Kd.fix_R_back mono26 g3
  obtain ⟨n5, q5⟩ := Kd.fix_R_back mono26 g5
  have r3 := Kd.upto_R_le mono26 sz26 (show n3 ≤ (max n3 n5) by omega) q3
  have r5 := Kd.upto_R_le mono26 sz26 (show n5 ≤ (max n3 n5) by omega) q5
  exact ⟨(max n3 n5) + 1, ⟨[.int .i64 x.f0], [.int .i64 x.f1, .string x.f2, v3, v4, v5], rfl, rfl, ⟨[.int .i64 x.f1], [.string x.f2, v3, v4, v5], rfl, rfl, ⟨[.string x.f2], [v3, v4, v5], rfl, rfl, ⟨[v3], [v4, v5], rfl, ⟨v3, rfl, r3⟩, ⟨[v4], [v5], rfl, ⟨v4, rfl, g4⟩, ⟨v5, rfl, r5⟩⟩⟩⟩⟩⟩⟩
def rd_T26 (xs : List S26) (i : Int) : S26 := xs.getD i.toNat z26
theorem at_T26 {w : World} {A : Option Addr} {n : Nat} {xs : List S26} (h : Kd.C k26 w A n xs) (i : Int) (h0 : 0 ≤ i) (h1 : i < n) : ∃ ad A3 c3 A4 c4 A5 c5, A = some ad ∧ w.cell? (ad.add (i.toNat * 6)) = some (.int .i64 (rd_T26 xs i).f0) ∧ w.cell? ⟨(ad.add (i.toNat * 6)).block, (ad.add (i.toNat * 6)).off + 1, none⟩ = some (.int .i64 (rd_T26 xs i).f1) ∧ w.cell? ⟨(ad.add (i.toNat * 6)).block, (ad.add (i.toNat * 6)).off + 2, none⟩ = some (.string (rd_T26 xs i).f2) ∧ w.cell? ⟨(ad.add (i.toNat * 6)).block, (ad.add (i.toNat * 6)).off + 3, none⟩ = some (.slice A3 (rd_T26 xs i).f3.length c3) ∧ w.cell? ⟨(ad.add (i.toNat * 6)).block, (ad.add (i.toNat * 6)).off + 4, none⟩ = some (.slice A4 (rd_T26 xs i).f4.length c4) ∧ w.cell? ⟨(ad.add (i.toNat * 6)).block, (ad.add (i.toNat * 6)).off + 5, none⟩ = some (.slice A5 (rd_T26 xs i).f5.length c5) ∧ (rd_T26 xs i).f3.length ≤ c3 ∧ k26.C w A3 (rd_T26 xs i).f3.length (rd_T26 xs i).f3 ∧ (rd_T26 xs i).f4.length ≤ c4 ∧ Kd.string.C w A4 (rd_T26 xs i).f4.length (rd_T26 xs i).f4 ∧ (rd_T26 xs i).f5.length ≤ c5 ∧ k26.C w A5 (rd_T26 xs i).f5.length (rd_T26 xs i).f5 := by
  obtain ⟨ad, c, e, _, hK, hc0⟩ := Kd.C_get h z26 i h0 h1
  have hc : ∀ j u, c[j]? = some u → w.cell? (ad.add (i.toNat * 6 + j)) = some u := hc0
  obtain ⟨A3, c3, A4, c4, A5, c5, rfl, l3, g3, l4, g4, l5, g5⟩ := k26_open hK
  exact ⟨ad, A3, c3, A4, c4, A5, c5, e, hc 0 _ rfl, by rw [← add_field _ _ 1 (by omega)]; exact hc 1 _ rfl, by rw [← add_field _ _ 2 (by omega)]; exact hc 2 _ rfl, by rw [← add_field _ _ 3 (by omega)]; exact hc 3 _ rfl, by rw [← add_field _ _ 4 (by omega)]; exact hc 4 _ rfl, by rw [← add_field _ _ 5 (by omega)]; exact hc 5 _ rfl, l3, g3, l4, g4, l5, g5⟩

end Go.Proofs.YtbnfeicpjmfooaaGreatDoor.PzzFits1
