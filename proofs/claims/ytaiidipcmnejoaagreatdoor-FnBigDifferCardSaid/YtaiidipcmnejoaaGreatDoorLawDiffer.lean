import Derived.Test.YtaiidipcmnejoaaGreatDoorCmpAll
import Derived.Test.YtaiidipcmnejoaaGreatDoorSubAll
namespace Go.Proofs.YtaiidipcmnejoaaGreatDoor.LawDiffer
open Go.RowKit Go.Lib Go.Proofs.YtaiidipcmnejoaaGreatDoorW.PrintWords Go.Proofs.YtaiidipcmnejoaaGreatDoorW.PrintLast Go.Proofs.YtaiidipcmnejoaaGreatDoorW.PrintMore
open Go.Proofs.YtaiidipcmnejoaaGreatDoor.Nt Go.Proofs.YtaiidipcmnejoaaGreatDoor.Dec Go.Proofs.YtaiidipcmnejoaaGreatDoor.IntW Go.Proofs.YtaiidipcmnejoaaGreatDoor.NumW Go.Proofs.YtaiidipcmnejoaaGreatDoor.NumV Go.Proofs.YtaiidipcmnejoaaGreatDoor.WholeW Go.Proofs.YtaiidipcmnejoaaGreatDoor.LawW Go.Proofs.YtaiidipcmnejoaaGreatDoor.OpSubW
open Go.Proofs.YtaiidipcmnejoaaGreatDoor.Spec (S S_list S_toList S_size S_of S_ext)
theorem sub_ilen {m n : Int} {k : Nat} (ha : (itoa m).length ≤ k) (hb : (itoa n).length ≤ k) : (itoa (m - n)).length ≤ k + 2 := by
  have la := lt_len m.natAbs (Nat.le_trans (dig_len m) ha)
  have lb := lt_len n.natAbs (Nat.le_trans (dig_len n) hb)
  have h1 : (decDigits (m - n).natAbs).length ≤ k + 1 := len_le (by rw [Nat.pow_succ]; omega) (by omega)
  by_cases h : m - n < 0
  · rw [Dec.itoa_neg _ h, List.length_cons]; omega
  · rw [itoa_pos _ (by omega)]; omega
theorem isWhole_any (n : Int) (hn : (itoa n).length ≤ 80000) (w : World) : Calls Tryz.prog 28 #[.string (S (itoa n))] w fun e w' => e = .returned (.bool true) ∧ Drawn0 w w' := by
  have h := Spec.isWhole_f (itoa n) (by omega) _ (Nat.le_refl _)
  rw [whole_itoa] at h
  exact Pwide.spec_IsWhole.calls _ _ _ w h
def DP (w : World) (g : Nat) (d : ByteArray) (W : World) : Prop := Below w.heap.size w W ∧ Env W ∧ W.heap[g]? = some (.cells #[.string d, .int .i64 0] 25 (0, 0))
theorem DP.below {w : World} {g : Nat} {d : ByteArray} {W W' : World} (h : DP w g d W) (hb : Below W.heap.size W W') : DP w g d W' :=
  ⟨h.1.trans (hb.mono h.1.size), h.2.1.below hb, by rw [hb.block g (IntW.lt_of_heap h.2.2)]; exact h.2.2⟩
theorem DP.drewN {w : World} {g : Nat} {d : ByteArray} {W : World} (h : DP w g d W) (k : Nat) : DP w g d (W.drewN k) := h.below (pw_below_drewN (Below.refl _ _) k)
theorem DP.drew {w : World} {g : Nat} {d : ByteArray} {W : World} (h : DP w g d W) : DP w g d W.drew := h.drewN 1
set_option maxRecDepth 100000 in
set_option maxHeartbeats 8000000 in
theorem fnBigDiffer_any (a b : ByteArray) (w : World) (hE : Env w) : Calls Tryz.prog 11 #[.string a, .string b] w fun e w' => e = .returned (.bool true) ∧ Below w.heap.size w w' := by
  by_cases hbig : (2147483647 : Int) < a.size
  · have f1 : decide ((2147483647 : Int) < (a.size : Int)) = true := decide_eq_true hbig
    clear hbig hE
    go_enter Tryz.func11, Tryz.ntmps11
    go_wp2_with fail
    go_ret
    exact ⟨rfl, Below.refl _ _⟩
  by_cases hbig2 : (2147483647 : Int) < b.size
  · have f1 : decide ((2147483647 : Int) < (a.size : Int)) = false := decide_eq_false hbig
    have f2 : decide ((2147483647 : Int) < (b.size : Int)) = true := decide_eq_true hbig2
    clear hbig hbig2 hE
    go_enter Tryz.func11, Tryz.ntmps11
    go_wp2_with fail
    go_ret
    exact ⟨rfl, Below.refl _ _⟩
  have f1 : decide ((2147483647 : Int) < (a.size : Int)) = false := decide_eq_false hbig
  have f2 : decide ((2147483647 : Int) < (b.size : Int)) = false := decide_eq_false hbig2
  have HE := Lib.hid hE
  have HW := Lib.hid (wide_calls a b (by omega) (by omega) w)
  clear hbig hbig2 hE
  go_enter Tryz.func11, Tryz.ntmps11
  go_wp2_with fail
  refine HW.out.mono ?_
  rintro e w1 ⟨r, rfl, hb, hr⟩
  have HB1 := Lib.hid hb; clear hb
  cases r with
  | false =>
    clear hr
    go_wp2_with fail
    go_ret
    exact ⟨rfl, HB1.out⟩
  | true =>
    obtain ⟨m, n, rfl, rfl, hm, hn⟩ := hr rfl
    obtain ⟨s, hs⟩ : ∃ s, s = S (itoa m) := ⟨_, rfl⟩
    obtain ⟨t, ht⟩ : ∃ t, t = S (itoa n) := ⟨_, rfl⟩
    have hd := sub_ilen hm hn
    have HA := Lib.hid (fun w hE => bigSub m n s t hs ht (by omega) (by omega) w hE)
    have HC := Lib.hid (fun w hE => OpCmpW.bigCompare m n s t hs ht (by omega) (by omega) w hE)
    have HI := Lib.hid (fun w => isWhole_any (m - n) (by omega) w)
    have hi0 : itoa 0 = [48] := by rw [itoa_pos 0 (by omega)]; exact decDigits_zero
    have h00 : (⟨#[48]⟩ : ByteArray) = S (itoa 0) := by rw [hi0]; rfl
    have HX := Lib.hid (fun w => wholeCmp_any (m - n) 0 (S (itoa (m - n))) ⟨#[48]⟩ rfl h00 (by omega) (by rw [hi0]; decide) w)
    have hcc : cmpI m n = cmpI (m - n) 0 := by
      have h1 := cmpI_bounds m n
      have h2 := cmpI_bounds (m - n) 0
      omega
    rw [← hs, ← ht]
    obtain ⟨q, hq⟩ : ∃ q, q = cmpI (m - n) 0 := ⟨_, rfl⟩
    rw [hcc] at HC
    rw [← hq] at HC HX
    obtain ⟨d, hdd⟩ : ∃ d, d = S (itoa (m - n)) := ⟨_, rfl⟩
    rw [← hdd] at HA HI HX
    have hqq : (q == q) = true := beq_self_eq_true q
    clear hr hm hn hs ht HW hd hcc hq hdd
    go_wp2_with fail
    refine (HA.out w1 (HE.out.below HB1.out)).mono ?_
    rintro e w2 ⟨rfl, hb⟩
    have HB2 := Lib.hid (HB1.out.trans (hb.mono HB1.out.size)); clear hb
    go_wp2_with fail
    obtain ⟨W3, hW3⟩ : ∃ W3, W3 = w2.alloc (.cells #[.string d, .int .i64 0] 25) := ⟨_, rfl⟩
    have hn := heap_alloc_new w2 (.cells #[.string d, .int .i64 0] 25)
    have hb3 : Below w2.heap.size w2 W3 := by rw [hW3]; exact (Below.refl _ w2).alloc (Nat.le_refl _) _
    rw [← hW3] at hn ⊢
    have h3 : DP w w2.heap.size d W3 := ⟨HB2.out.trans (hb3.mono HB2.out.size), HE.out.below (HB2.out.trans (hb3.mono HB2.out.size)), hn⟩
    have H3 := Lib.hid h3
    obtain ⟨q0, q1, q2, q3⟩ := two_cells hn
    clear hW3 hn hb3 h3 HA
    have HZ := H3
    clear H3
    go_region_with (first | (go_at_call 28; refine (HI.out _).mono ?_; rintro e w4 ⟨rfl, ⟨nd, rfl⟩⟩) | (go_at_call 24; refine (HC.out _ (by first | exact (DP.drewN HZ.out _).2.1 | exact HZ.out.2.1)).mono ?_; rintro e w5 ⟨rfl, hb⟩; have HZ' : Hid (DP w w2.heap.size d w5) := Lib.hid (by first | exact (DP.drewN HZ.out _).below hb | exact HZ.out.below hb); clear HZ; have HZ := HZ'; clear HZ'; obtain ⟨r0, r1, r2, r3⟩ := two_cells HZ.out.2.2; clear hb) | (go_at_call 18; refine (HX.out _).mono ?_; rintro e w6 ⟨rfl, hb⟩; have HZ' : Hid (DP w w2.heap.size d w6) := Lib.hid (by first | exact (DP.drewN HZ.out _).below hb | exact HZ.out.below hb); clear HZ; have HZ := HZ'; clear HZ'; obtain ⟨r0, r1, r2, r3⟩ := two_cells HZ.out.2.2; clear hb))
    all_goals
      go_wp2_with fail
      go_ret
      exact ⟨rfl, (by first | exact (DP.drewN HZ.out _).1 | exact HZ.out.1)⟩
end Go.Proofs.YtaiidipcmnejoaaGreatDoor.LawDiffer
