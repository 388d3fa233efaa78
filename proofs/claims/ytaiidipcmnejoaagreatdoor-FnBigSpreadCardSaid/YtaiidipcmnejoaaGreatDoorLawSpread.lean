import Derived.Test.YtaiidipcmnejoaaGreatDoorWholeAll
import Derived.Test.YtaiidipcmnejoaaGreatDoorOpAdd
import Derived.Test.YtaiidipcmnejoaaGreatDoorOpMulB
import Derived.Deep.RegionHeld3

/- Three texts that are integers: what wide says of them, and how long sums and products are. -/
set_option linter.unusedVariables false
set_option linter.unusedSimpArgs false
namespace Go.Proofs.YtaiidipcmnejoaaGreatDoor.LawT
open Go.RowKit Go.Lib Go.Proofs.YtaiidipcmnejoaaGreatDoorW.PrintWords Go.Proofs.YtaiidipcmnejoaaGreatDoorW.PrintLast Go.Proofs.YtaiidipcmnejoaaGreatDoorW.PrintMore
open Go.Proofs.YtaiidipcmnejoaaGreatDoor.Nt Go.Proofs.YtaiidipcmnejoaaGreatDoor.Dec Go.Proofs.YtaiidipcmnejoaaGreatDoor.IntW Go.Proofs.YtaiidipcmnejoaaGreatDoor.NumW Go.Proofs.YtaiidipcmnejoaaGreatDoor.NumV Go.Proofs.YtaiidipcmnejoaaGreatDoor.WholeW Go.Proofs.YtaiidipcmnejoaaGreatDoor.LawW
open Go.Proofs.YtaiidipcmnejoaaGreatDoor.Spec (S S_list S_toList S_size S_of S_ext isWhole_f)
theorem ilen_le (n : Int) : (itoa n).length ≤ (decDigits n.natAbs).length + 1 := by
  by_cases h : n < 0
  · rw [Dec.itoa_neg _ h, List.length_cons]; exact Nat.le_refl _
  · rw [itoa_pos _ (by omega)]; omega
theorem add_ilen {m n : Int} {k : Nat} (ha : (itoa m).length ≤ k) (hb : (itoa n).length ≤ k) : (itoa (m + n)).length ≤ k + 2 := by
  have la := lt_len m.natAbs (Nat.le_trans (dig_len m) ha)
  have lb := lt_len n.natAbs (Nat.le_trans (dig_len n) hb)
  have h1 : (decDigits (m + n).natAbs).length ≤ k + 1 := len_le (by rw [Nat.pow_succ]; omega) (by omega)
  have := ilen_le (m + n)
  omega
theorem mul_ilen {m n : Int} {k l : Nat} (ha : (itoa m).length ≤ k) (hb : (itoa n).length ≤ l) (hk : 1 ≤ k) : (itoa (m * n)).length ≤ k + l + 1 := by
  have la := lt_len m.natAbs (Nat.le_trans (dig_len m) ha)
  have lb := lt_len n.natAbs (Nat.le_trans (dig_len n) hb)
  have h1 : (decDigits (m * n).natAbs).length ≤ k + l := len_le (by rw [Int.natAbs_mul, Nat.pow_add]; exact Nat.mul_lt_mul'' la lb) (by omega)
  have := ilen_le (m * n)
  omega
theorem wide_three (a b c : List UInt8) (ha : a.length ≤ 140737488355328) (hb : b.length ≤ 140737488355328) (hc : c.length ≤ 140737488355328) (k : Nat) (hk : a.length + b.length + c.length + 10 ≤ k) :
    Pwide.laws_wide.f k [S a, S b, S c] = some ((decide (a.length ≤ 400) && wholeB a) && (decide (b.length ≤ 400) && wholeB b) && (decide (c.length ≤ 400) && wholeB c)) := by
  unfold Pwide.laws_wide.f
  obtain ⟨k, rfl⟩ : ∃ m, k = m + 4 := ⟨k - 4, by omega⟩
  have e0 : rdOf ByteArray.empty [S a, S b, S c] 0 = S a := rfl
  have e1 : rdOf ByteArray.empty [S a, S b, S c] 1 = S b := rfl
  have e4 : rdOf ByteArray.empty [S a, S b, S c] 2 = S c := rfl
  have e5 : wrap64 (2 + 1) = 3 := w64 _ (by omega) (by omega)
  have e2 : wrap64 (1 + 1) = 2 := w64 _ (by omega) (by omega)
  have e3 : wrap64 (0 + 1) = 1 := w64 _ (by omega) (by omega)
  rw [Pwide.laws_wide.l0, if_pos (by simp), if_pos (by decide), if_pos (by simp), e0, S_size]
  by_cases h1 : (a.length : Int) > 400
  · rw [if_pos h1, decide_eq_false (by omega)]; rfl
  rw [if_neg h1, decide_eq_true (by omega : a.length ≤ 400), isWhole_f a ha _ (by omega), Option.bind_some]
  cases hwa : wholeB a with
  | false => rfl
  | true =>
    rw [if_pos rfl, e3, Pwide.laws_wide.l0, if_pos (by simp), if_pos (by decide), if_pos (by simp), e1, S_size]
    by_cases h2 : (b.length : Int) > 400
    · rw [if_pos h2, decide_eq_false (by omega)]; rfl
    rw [if_neg h2, decide_eq_true (by omega : b.length ≤ 400), isWhole_f b hb _ (by omega), Option.bind_some]
    cases hwb : wholeB b with
    | false => rfl
    | true =>
      rw [if_pos rfl, e2, Pwide.laws_wide.l0, if_pos (by simp), if_pos (by decide), if_pos (by simp), e4, S_size]
      by_cases h3 : (c.length : Int) > 400
      · rw [if_pos h3, decide_eq_false (by omega)]; rfl
      rw [if_neg h3, decide_eq_true (by omega : c.length ≤ 400), isWhole_f c hc _ (by omega), Option.bind_some]
      cases hwc : wholeB c with
      | false => rfl
      | true => rw [if_pos rfl, e5, Pwide.laws_wide.l0, if_neg (by simp)]; rfl
theorem three_cells {w : World} {g : Nat} {c0 c1 c2 : Value} {t : TypeId} (h : w.heap[g]? = some (.cells #[c0, c1, c2] t (0, 0))) :
    w.cell? ⟨g, 0, none⟩ = some c0 ∧ w.cell? ⟨g, 1, none⟩ = some c1 ∧ w.cell? ⟨g, 2, none⟩ = some c2 := by
  simp [World.cell?, h]
theorem C_three (a b c : ByteArray) (w : World) : Kd.C Kd.string (w.alloc (.cells #[.string a, .string b, .string c] 9)) (some ⟨w.heap.size, 0, none⟩) [a, b, c].length [a, b, c] := by
  obtain ⟨h0, h1, h2⟩ := three_cells (heap_alloc_new w (.cells #[.string a, .string b, .string c] 9))
  refine ⟨rfl, (show (3 : Nat) ≤ 9223372036854775807 by decide), fun _ => ⟨_, rfl, ?_⟩⟩
  intro j p hj
  match j, hj with
  | 0, hj =>
    obtain rfl : a = p := Option.some.inj hj
    refine ⟨[.string a], rfl, rfl, fun i u hi => ?_⟩
    match i, hi with
    | 0, hi => obtain rfl : .string a = u := Option.some.inj hi; exact h0
    | i + 1, hi => simp at hi
  | 1, hj =>
    obtain rfl : b = p := Option.some.inj hj
    refine ⟨[.string b], rfl, rfl, fun i u hi => ?_⟩
    match i, hi with
    | 0, hi => obtain rfl : .string b = u := Option.some.inj hi; exact h1
    | i + 1, hi => simp at hi
  | 2, hj =>
    obtain rfl : c = p := Option.some.inj hj
    refine ⟨[.string c], rfl, rfl, fun i u hi => ?_⟩
    match i, hi with
    | 0, hi => obtain rfl : .string c = u := Option.some.inj hi; exact h2
    | i + 1, hi => simp at hi
  | j + 3, hj => simp at hj
theorem wide3_calls (a b c : ByteArray) (ha : a.size ≤ 2147483647) (hb : b.size ≤ 2147483647) (hc : c.size ≤ 2147483647) (w : World) :
    Calls Tryz.prog 14 #[.slice (some ⟨w.heap.size, 0, none⟩) 3 3] (w.alloc (.cells #[.string a, .string b, .string c] 9)) fun e w' => ∃ r, e = .returned (.bool r) ∧ Below w.heap.size w w' ∧ (r = true → ∃ m n l : Int, a = S (itoa m) ∧ b = S (itoa n) ∧ c = S (itoa l) ∧ (itoa m).length ≤ 400 ∧ (itoa n).length ≤ 400 ∧ (itoa l).length ≤ 400) := by
  have ea : S a.data.toList = a := S_of a
  have eb : S b.data.toList = b := S_of b
  have ec : S c.data.toList = c := S_of c
  have la : a.data.toList.length = a.size := rfl
  have lb : b.data.toList.length = b.size := rfl
  have lc : c.data.toList.length = c.size := rfl
  have h := wide_three a.data.toList b.data.toList c.data.toList (by omega) (by omega) (by omega) _ (Nat.le_refl _)
  rw [ea, eb, ec] at h
  refine (Pwide.laws_wide.calls _ (some ⟨w.heap.size, 0, none⟩) 3 [a, b, c] _ _ (C_three a b c w) (Nat.le_refl _) h).mono ?_
  rintro e w' ⟨rfl, hd⟩
  have hA := (Below.refl w.heap.size w).alloc (Nat.le_refl _) (.cells #[.string a, .string b, .string c] 9)
  refine ⟨_, rfl, hA.trans (hd.below.mono hA.size), ?_⟩
  intro hr
  simp only [Bool.and_eq_true, decide_eq_true_eq] at hr
  obtain ⟨⟨⟨h1, h2⟩, h3, h4⟩, h5, h6⟩ := hr
  obtain ⟨m, hm⟩ := itoa_whole _ h2
  obtain ⟨n, hn⟩ := itoa_whole _ h4
  obtain ⟨l, hl⟩ := itoa_whole _ h6
  exact ⟨m, n, l, by rw [← hm, ea], by rw [← hn, eb], by rw [← hl, ec], by rw [← hm]; exact h1, by rw [← hn]; exact h3, by rw [← hl]; exact h5⟩
end Go.Proofs.YtaiidipcmnejoaaGreatDoor.LawT

set_option linter.unusedVariables false
set_option linter.unusedSimpArgs false
namespace Go.Proofs.YtaiidipcmnejoaaGreatDoor.LawSpread
open Go.RowKit Go.Lib Go.Proofs.YtaiidipcmnejoaaGreatDoorW.PrintWords Go.Proofs.YtaiidipcmnejoaaGreatDoorW.PrintLast Go.Proofs.YtaiidipcmnejoaaGreatDoorW.PrintMore
open Go.Proofs.YtaiidipcmnejoaaGreatDoor.Nt Go.Proofs.YtaiidipcmnejoaaGreatDoor.Dec Go.Proofs.YtaiidipcmnejoaaGreatDoor.IntW Go.Proofs.YtaiidipcmnejoaaGreatDoor.NumW Go.Proofs.YtaiidipcmnejoaaGreatDoor.NumV Go.Proofs.YtaiidipcmnejoaaGreatDoor.WholeW Go.Proofs.YtaiidipcmnejoaaGreatDoor.LawW Go.Proofs.YtaiidipcmnejoaaGreatDoor.LawT
open Go.Proofs.YtaiidipcmnejoaaGreatDoor.Spec (S S_list S_toList S_size S_of S_ext)
/-- What stands in memory: below as it was, the tables, and some answers. -/
def SP (w : World) (l : List (Nat × ByteArray)) (W : World) : Prop := Below w.heap.size w W ∧ Env W ∧ ∀ p ∈ l, W.heap[p.1]? = some (.cells #[.string p.2, .int .i64 0] 25 (0, 0))
theorem SP.below {w : World} {l : List (Nat × ByteArray)} {W W' : World} (h : SP w l W) (hb : Below W.heap.size W W') : SP w l W' :=
  ⟨h.1.trans (hb.mono h.1.size), h.2.1.below hb, fun p hp => by rw [hb.block p.1 (IntW.lt_of_heap (h.2.2 p hp))]; exact h.2.2 p hp⟩
theorem itoa_ne (n : Int) : itoa n ≠ [] := by
  by_cases h : n < 0
  · rw [Dec.itoa_neg _ h]; simp
  · rw [itoa_pos _ (by omega)]; exact decDigits_ne_nil _
theorem SP.drewN {w : World} {l : List (Nat × ByteArray)} {W : World} (h : SP w l W) (k : Nat) : SP w l (W.drewN k) := h.below (pw_below_drewN (Below.refl _ _) k)
theorem alloc_sz (W : World) (o : Obj) : (W.alloc o).heap.size = W.heap.size + 1 := Array.size_push ..
theorem SP.alloc {w : World} {l : List (Nat × ByteArray)} {W : World} (h : SP w l W) (d : ByteArray) : SP w ((W.heap.size, d) :: l) (W.alloc (.cells #[.string d, .int .i64 0] 25)) := by
  have hb : Below W.heap.size W (W.alloc (.cells #[.string d, .int .i64 0] 25)) := (Below.refl _ W).alloc (Nat.le_refl _) _
  have h2 := h.below hb
  refine ⟨h2.1, h2.2.1, fun p hp => ?_⟩
  rcases List.mem_cons.1 hp with rfl | hp
  · exact heap_alloc_new W _
  · exact h2.2.2 p hp
theorem SP.all {w : World} {k9 r g : Nat} {u q p t s : ByteArray} {W : World} (h : SP w [(k9, u), (r + 1, q), (r, p), (g + 1, t), (g, s)] W) : W.cell? ⟨g, 0, none⟩ = some (.string s) ∧ W.cell? ⟨g, 1, none⟩ = some (.int .i64 0) ∧ W.cell? ⟨g + 1, 0, none⟩ = some (.string t) ∧ W.cell? ⟨r, 0, none⟩ = some (.string p) ∧ W.cell? ⟨r + 1, 0, none⟩ = some (.string q) ∧ W.cell? ⟨k9, 0, none⟩ = some (.string u) ∧ W.cell? ⟨k9, 1, none⟩ = some (.int .i64 0) ∧ SP w [(k9, u), (r + 1, q), (r, p), (g + 1, t), (g, s)] W := by
  obtain ⟨a0, a1, _, _⟩ := two_cells (h.2.2 (g, s) (by simp))
  obtain ⟨b0, _⟩ := two_cells (h.2.2 (g + 1, t) (by simp))
  obtain ⟨c0, _⟩ := two_cells (h.2.2 (r, p) (by simp))
  obtain ⟨d0, _⟩ := two_cells (h.2.2 (r + 1, q) (by simp))
  obtain ⟨e0, e1, _, _⟩ := two_cells (h.2.2 (k9, u) (by simp))
  exact ⟨a0, a1, b0, c0, d0, e0, e1, h⟩
theorem field_text (v : ByteArray) (W : World) : Sem.run Tryz.prog (Instr.field 25 (Value.agg #[.string v, .int .i64 0]) 0) W = Result.ok (.string v) W := by
  first
  | kernel_rfl
  | (unfold Instr.field; simp [go_sem, run_underlying Tryz.underlying25])
theorem SP.env {w : World} {l : List (Nat × ByteArray)} {W : World} (h : SP w l W) : Env W := h.2.1
theorem SP.drew {w : World} {l : List (Nat × ByteArray)} {W : World} (h : SP w l W) : SP w l W.drew := h.drewN 1
set_option maxRecDepth 100000 in
set_option maxHeartbeats 8000000 in
theorem fnBigSpread_any (a b c : ByteArray) (w : World) (hE : Env w) : Calls Tryz.prog 7 #[.string a, .string b, .string c] w fun e w' => e = .returned (.bool true) ∧ Below w.heap.size w w' := by
  by_cases hbig : (2147483647 : Int) < a.size
  · have f1 : decide ((2147483647 : Int) < (a.size : Int)) = true := decide_eq_true hbig
    clear hbig hE
    go_enter Tryz.func7, Tryz.ntmps7
    go_wp2_with fail
    go_ret
    exact ⟨rfl, Below.refl _ _⟩
  by_cases hbig2 : (2147483647 : Int) < b.size
  · have f1 : decide ((2147483647 : Int) < (a.size : Int)) = false := decide_eq_false hbig
    have f2 : decide ((2147483647 : Int) < (b.size : Int)) = true := decide_eq_true hbig2
    clear hbig hbig2 hE
    go_enter Tryz.func7, Tryz.ntmps7
    go_wp2_with fail
    go_ret
    exact ⟨rfl, Below.refl _ _⟩
  by_cases hbig3 : (2147483647 : Int) < c.size
  · have f1 : decide ((2147483647 : Int) < (a.size : Int)) = false := decide_eq_false hbig
    have f2 : decide ((2147483647 : Int) < (b.size : Int)) = false := decide_eq_false hbig2
    have f3 : decide ((2147483647 : Int) < (c.size : Int)) = true := decide_eq_true hbig3
    clear hbig hbig2 hbig3 hE
    go_enter Tryz.func7, Tryz.ntmps7
    go_wp2_with fail
    go_ret
    exact ⟨rfl, Below.refl _ _⟩
  have f1 : decide ((2147483647 : Int) < (a.size : Int)) = false := decide_eq_false hbig
  have f2 : decide ((2147483647 : Int) < (b.size : Int)) = false := decide_eq_false hbig2
  have f3 : decide ((2147483647 : Int) < (c.size : Int)) = false := decide_eq_false hbig3
  have HE := Lib.hid hE
  have HW := Lib.hid (wide3_calls a b c (by omega) (by omega) (by omega) w)
  clear hbig hbig2 hbig3 hE
  go_enter Tryz.func7, Tryz.ntmps7
  go_wp2_with fail
  refine HW.out.mono ?_
  rintro e w1 ⟨r, rfl, hb, hr⟩
  have HB1 := Lib.hid hb; clear hb
  cases r with
  | false =>
    clear hr
    go_wp2_with fail
    go_ret
    exact ⟨rfl, HB1.out⟩
  | true =>
    obtain ⟨m, n, l, rfl, rfl, rfl, hm, hn, hl⟩ := hr rfl
    obtain ⟨x, hx⟩ : ∃ s, s = S (itoa m) := ⟨_, rfl⟩
    obtain ⟨y, hy⟩ : ∃ s, s = S (itoa n) := ⟨_, rfl⟩
    obtain ⟨z, hz⟩ : ∃ s, s = S (itoa l) := ⟨_, rfl⟩
    obtain ⟨s, hs⟩ : ∃ s, s = S (itoa (m + n)) := ⟨_, rfl⟩
    obtain ⟨t, ht⟩ : ∃ s, s = S (itoa (n + l)) := ⟨_, rfl⟩
    obtain ⟨p, hp⟩ : ∃ s, s = S (itoa (m * n)) := ⟨_, rfl⟩
    obtain ⟨q, hq⟩ : ∃ s, s = S (itoa (m * l)) := ⟨_, rfl⟩
    obtain ⟨u, hu⟩ : ∃ s, s = S (itoa (m * (n + l))) := ⟨_, rfl⟩
    obtain ⟨v, hv⟩ : ∃ s, s = S (itoa (m + n + l)) := ⟨_, rfl⟩
    have lmn := add_ilen hm hn
    have lnl := add_ilen hn hl
    have pmn := mul_ilen hm hn (by omega)
    have pml := mul_ilen hm hl (by omega)
    have H1 := Lib.hid (fun w hE => bigAdd m n x y hx hy (by omega) (by omega) w hE)
    have H2 := Lib.hid (fun w hE => bigAdd n l y z hy hz (by omega) (by omega) w hE)
    have H3 := Lib.hid (fun w hE => OpMulW.bigMul m n x y hx hy (by omega) (by omega) w hE)
    have H4 := Lib.hid (fun w hE => OpMulW.bigMul m l x z hx hz (by omega) (by omega) w hE)
    have H5 := Lib.hid (fun w hE => OpMulW.bigMul m (n + l) x t hx ht (by omega) (by omega) w hE)
    have H6 := Lib.hid (fun w hE => bigAdd n m y x hy hx (by omega) (by omega) w hE)
    have H7 := Lib.hid (fun w hE => bigAdd (m + n) l s z hs hz (by omega) (by omega) w hE)
    have H8 := Lib.hid (fun w hE => bigAdd m (n + l) x t hx ht (by omega) (by omega) w hE)
    have H9 := Lib.hid (fun w hE => OpMulW.bigMul n m y x hy hx (by omega) (by omega) w hE)
    have H0 := Lib.hid (fun w hE => bigAdd (m * n) (m * l) p q hp hq (by omega) (by omega) w hE)
    rw [← hs] at H1
    rw [← ht] at H2
    rw [← hp] at H3
    rw [← hq] at H4
    rw [← hu] at H5
    rw [Int.add_comm n m, ← hs] at H6
    rw [← hv] at H7
    rw [← Int.add_assoc, ← hv] at H8
    rw [Int.mul_comm n m, ← hp] at H9
    rw [← Int.mul_add, ← hu] at H0
    have hne : (s.toList == []) = false := by rw [hs, S_toList]; exact beq_eq_false_iff_ne.mpr (itoa_ne (m + n))
    have hne2 : (s.toList != []) = true := by rw [bne, hne]; rfl
    rw [← hx, ← hy, ← hz]
    clear hr hm hn hl hx hy hz hs ht hp hq hu hv HW lmn lnl pmn pml
    have HZ : Hid (SP w [] w1) := Lib.hid ⟨HB1.out, HE.out.below HB1.out, fun _ h => by cases h⟩
    clear HB1 HE
    go_wp2_with fail
    refine (H1.out w1 HZ.out.2.1).mono ?_
    rintro e w2 ⟨rfl, hb⟩
    have HZ2 := Lib.hid (HZ.out.below hb); clear hb HZ
    go_wp2_with fail
    refine (H2.out w2 HZ2.out.2.1).mono ?_
    rintro e w3 ⟨rfl, hb⟩
    have HZ3 := Lib.hid (HZ2.out.below hb); clear hb HZ2
    go_wp2_with fail
    obtain ⟨W4, hW4⟩ : ∃ W4, W4 = ((w3.alloc (.cells #[.string s, .int .i64 0] 25)).alloc (.cells #[.string t, .int .i64 0] 25)) := ⟨_, rfl⟩
    have HZ4 : Hid (SP w [(w3.heap.size + 1, t), (w3.heap.size, s)] W4) := Lib.hid (by
      have h := (HZ3.out.alloc s).alloc t
      rw [alloc_sz, ← hW4] at h
      exact h)
    obtain ⟨g, hg⟩ : ∃ g, g = w3.heap.size := ⟨_, rfl⟩
    rw [← hW4]
    rw [← hg] at HZ4 ⊢
    clear HZ3 hW4 hg H1 H2
    refine (H3.out W4 HZ4.out.2.1).mono ?_
    rintro e w5 ⟨rfl, hb⟩
    have HZ5 := Lib.hid (HZ4.out.below hb); clear hb HZ4
    go_wp2_with fail
    refine (H4.out w5 HZ5.out.2.1).mono ?_
    rintro e w6 ⟨rfl, hb⟩
    have HZ6 := Lib.hid (HZ5.out.below hb); clear hb HZ5
    obtain ⟨W7, hW7⟩ : ∃ W7, W7 = ((w6.alloc (.cells #[.string p, .int .i64 0] 25)).alloc (.cells #[.string q, .int .i64 0] 25)) := ⟨_, rfl⟩
    have HZ7 : Hid (SP w [(w6.heap.size + 1, q), (w6.heap.size, p), (g + 1, t), (g, s)] W7) := Lib.hid (by
      have h := (HZ6.out.alloc p).alloc q
      rw [alloc_sz, ← hW7] at h
      exact h)
    obtain ⟨k0, _⟩ := two_cells (HZ7.out.2.2 (g + 1, t) (by simp))
    rw [hW7] at k0
    go_wp2_with fail
    rw [← hW7]
    clear hW7 HZ6 k0 H3 H4
    refine (H5.out W7 HZ7.out.2.1).mono ?_
    rintro e w8 ⟨rfl, hb⟩
    have HZ8 := Lib.hid (HZ7.out.below hb); clear hb HZ7
    obtain ⟨r, hr⟩ : ∃ r, r = w6.heap.size := ⟨_, rfl⟩
    rw [← hr] at HZ8 ⊢
    clear hr
    go_wp2_with fail
    obtain ⟨W9, hW9⟩ : ∃ W9, W9 = w8.alloc (.cells #[.string u, .int .i64 0] 25) := ⟨_, rfl⟩
    have HZ9 : Hid (SP w [(w8.heap.size, u), (r + 1, q), (r, p), (g + 1, t), (g, s)] W9) := Lib.hid (by
      have h := HZ8.out.alloc u
      rw [← hW9] at h
      exact h)
    obtain ⟨k9, hk9⟩ : ∃ k, k = w8.heap.size := ⟨_, rfl⟩
    rw [← hW9]
    rw [← hk9] at HZ9 ⊢
    clear hW9 hk9 HZ8 H5
    have HZ := HZ9
    clear HZ9
    obtain ⟨d0, d1, d2, d3, d4, d5, d6, _⟩ := SP.all HZ.out
    have hfv := field_text v
    go_region_held3 (fun w' => w'.cell? ⟨g, 0, none⟩ = some (.string s) ∧ w'.cell? ⟨g, 1, none⟩ = some (.int .i64 0) ∧ w'.cell? ⟨g + 1, 0, none⟩ = some (.string t) ∧ w'.cell? ⟨r, 0, none⟩ = some (.string p) ∧ w'.cell? ⟨r + 1, 0, none⟩ = some (.string q) ∧ w'.cell? ⟨k9, 0, none⟩ = some (.string u) ∧ w'.cell? ⟨k9, 1, none⟩ = some (.int .i64 0) ∧ SP w [(k9, u), (r + 1, q), (r, p), (g + 1, t), (g, s)] w')
      (first | with_reducible exact SP.all HZ.out | with_reducible exact SP.all (SP.drew HZ.out) | with_reducible exact SP.all (SP.drewN HZ.out _))
      (first | (go_at_call_of 16 (Value.string y); refine (H6.out _ (by first | with_reducible exact SP.env HZ.out | with_reducible exact SP.env (SP.drew HZ.out) | with_reducible exact SP.env (SP.drewN HZ.out _))).mono ?_; rintro e wn ⟨rfl, hb⟩; have HZ' : Hid (SP w [(k9, u), (r + 1, q), (r, p), (g + 1, t), (g, s)] wn) := Lib.hid (by first | with_reducible exact SP.below HZ.out hb | with_reducible exact SP.below (SP.drew HZ.out) hb | with_reducible exact SP.below (SP.drewN HZ.out _) hb); clear HZ; have HZ := HZ'; clear HZ' hb) | (go_at_call_of 16 (Value.string s); refine (H7.out _ (by first | with_reducible exact SP.env HZ.out | with_reducible exact SP.env (SP.drew HZ.out) | with_reducible exact SP.env (SP.drewN HZ.out _))).mono ?_; rintro e wn ⟨rfl, hb⟩; have HZ' : Hid (SP w [(k9, u), (r + 1, q), (r, p), (g + 1, t), (g, s)] wn) := Lib.hid (by first | with_reducible exact SP.below HZ.out hb | with_reducible exact SP.below (SP.drew HZ.out) hb | with_reducible exact SP.below (SP.drewN HZ.out _) hb); clear HZ; have HZ := HZ'; clear HZ' hb) | (go_at_call_of 16 (Value.string x); refine (H8.out _ (by first | with_reducible exact SP.env HZ.out | with_reducible exact SP.env (SP.drew HZ.out) | with_reducible exact SP.env (SP.drewN HZ.out _))).mono ?_; rintro e wn ⟨rfl, hb⟩; have HZ' : Hid (SP w [(k9, u), (r + 1, q), (r, p), (g + 1, t), (g, s)] wn) := Lib.hid (by first | with_reducible exact SP.below HZ.out hb | with_reducible exact SP.below (SP.drew HZ.out) hb | with_reducible exact SP.below (SP.drewN HZ.out _) hb); clear HZ; have HZ := HZ'; clear HZ' hb) | (go_at_call_of 16 (Value.string p); refine (H0.out _ (by first | with_reducible exact SP.env HZ.out | with_reducible exact SP.env (SP.drew HZ.out) | with_reducible exact SP.env (SP.drewN HZ.out _))).mono ?_; rintro e wn ⟨rfl, hb⟩; have HZ' : Hid (SP w [(k9, u), (r + 1, q), (r, p), (g + 1, t), (g, s)] wn) := Lib.hid (by first | with_reducible exact SP.below HZ.out hb | with_reducible exact SP.below (SP.drew HZ.out) hb | with_reducible exact SP.below (SP.drewN HZ.out _) hb); clear HZ; have HZ := HZ'; clear HZ' hb) | (go_at_call 21; refine (H9.out _ (by first | with_reducible exact SP.env HZ.out | with_reducible exact SP.env (SP.drew HZ.out) | with_reducible exact SP.env (SP.drewN HZ.out _))).mono ?_; rintro e wn ⟨rfl, hb⟩; have HZ' : Hid (SP w [(k9, u), (r + 1, q), (r, p), (g + 1, t), (g, s)] wn) := Lib.hid (by first | with_reducible exact SP.below HZ.out hb | with_reducible exact SP.below (SP.drew HZ.out) hb | with_reducible exact SP.below (SP.drewN HZ.out _) hb); clear HZ; have HZ := HZ'; clear HZ' hb) | (go_at_call 15; refine (exact_any _ _).mono ?_; rintro e wn ⟨rfl, hb⟩; have HZ' : Hid (SP w [(k9, u), (r + 1, q), (r, p), (g + 1, t), (g, s)] wn) := Lib.hid (by first | with_reducible exact SP.below HZ.out hb | with_reducible exact SP.below (SP.drew HZ.out) hb | with_reducible exact SP.below (SP.drewN HZ.out _) hb); clear HZ; have HZ := HZ'; clear HZ' hb))
    all_goals
      go_wp2_with fail
      go_ret
      exact ⟨rfl, (by first | exact HZ.out.1 | exact (SP.drew HZ.out).1 | exact (SP.drewN HZ.out _).1)⟩
end Go.Proofs.YtaiidipcmnejoaaGreatDoor.LawSpread
