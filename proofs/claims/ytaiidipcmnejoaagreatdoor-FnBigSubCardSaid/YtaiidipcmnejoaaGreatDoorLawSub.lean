import Derived.Test.YtaiidipcmnejoaaGreatDoorCmpAll
import Derived.Test.YtaiidipcmnejoaaGreatDoorSubAll
namespace Go.Proofs.YtaiidipcmnejoaaGreatDoor.LawSub
open Go.RowKit Go.Lib Go.Proofs.YtaiidipcmnejoaaGreatDoorW.PrintWords Go.Proofs.YtaiidipcmnejoaaGreatDoorW.PrintLast Go.Proofs.YtaiidipcmnejoaaGreatDoorW.PrintMore
open Go.Proofs.YtaiidipcmnejoaaGreatDoor.Nt Go.Proofs.YtaiidipcmnejoaaGreatDoor.Dec Go.Proofs.YtaiidipcmnejoaaGreatDoor.IntW Go.Proofs.YtaiidipcmnejoaaGreatDoor.NumW Go.Proofs.YtaiidipcmnejoaaGreatDoor.NumV Go.Proofs.YtaiidipcmnejoaaGreatDoor.WholeW Go.Proofs.YtaiidipcmnejoaaGreatDoor.LawW Go.Proofs.YtaiidipcmnejoaaGreatDoor.OpSubW
open Go.Proofs.YtaiidipcmnejoaaGreatDoor.Spec (S S_list S_toList S_size S_of S_ext)
theorem fnBigSub_any (a b : ByteArray) (w : World) (hE : Env w) : Calls Tryz.prog 10 #[.string a, .string b] w fun e w' => e = .returned (.bool true) ∧ Below w.heap.size w w' := by
  by_cases hbig : (2147483647 : Int) < a.size
  · have f1 : decide ((2147483647 : Int) < (a.size : Int)) = true := decide_eq_true hbig
    clear hbig hE
    go_enter Tryz.func10, Tryz.ntmps10
    go_wp2_with fail
    go_ret
    exact ⟨rfl, Below.refl _ _⟩
  by_cases hbig2 : (2147483647 : Int) < b.size
  · have f1 : decide ((2147483647 : Int) < (a.size : Int)) = false := decide_eq_false hbig
    have f2 : decide ((2147483647 : Int) < (b.size : Int)) = true := decide_eq_true hbig2
    clear hbig hbig2 hE
    go_enter Tryz.func10, Tryz.ntmps10
    go_wp2_with fail
    go_ret
    exact ⟨rfl, Below.refl _ _⟩
  have f1 : decide ((2147483647 : Int) < (a.size : Int)) = false := decide_eq_false hbig
  have f2 : decide ((2147483647 : Int) < (b.size : Int)) = false := decide_eq_false hbig2
  have HE := Lib.hid hE
  have HW := Lib.hid (wide_calls a b (by omega) (by omega) w)
  clear hbig hbig2 hE
  go_enter Tryz.func10, Tryz.ntmps10
  go_wp2_with fail
  refine HW.out.mono ?_
  rintro e w1 ⟨r, rfl, hb, hr⟩
  have HB1 := Lib.hid hb; clear hb
  cases r with
  | false =>
    clear hr
    go_wp2_with fail
    go_ret
    exact ⟨rfl, HB1.out⟩
  | true =>
    obtain ⟨m, n, rfl, rfl, hm, hn⟩ := hr rfl
    obtain ⟨s, hs⟩ : ∃ s, s = S (itoa m) := ⟨_, rfl⟩
    obtain ⟨t, ht⟩ : ∃ t, t = S (itoa n) := ⟨_, rfl⟩
    have HA := Lib.hid (fun w hE => bigSub m n s t hs ht (by omega) (by omega) w hE)
    have HX := Lib.hid (fun w => wholeSub_any m n s t hs ht (by omega) (by omega) w)
    rw [← hs, ← ht]
    clear hr hm hn hs ht HW
    go_wp2_with fail
    refine (HA.out w1 (HE.out.below HB1.out)).mono ?_
    rintro e w2 ⟨rfl, hb⟩
    have HB2 := Lib.hid (HB1.out.trans (hb.mono HB1.out.size)); clear hb
    go_wp2_with fail
    refine (HX.out _).mono ?_
    rintro e w3 ⟨rfl, hb⟩
    have HB3 := Lib.hid (HB2.out.trans (hb.mono HB2.out.size)); clear hb
    go_wp2_with fail
    refine (exact_any _ _).mono ?_
    rintro e w4 ⟨rfl, hb⟩
    have HB4 := Lib.hid (HB3.out.trans (hb.mono HB3.out.size)); clear hb
    go_wp2_with fail
    go_ret
    exact ⟨rfl, HB4.out⟩
end Go.Proofs.YtaiidipcmnejoaaGreatDoor.LawSub
