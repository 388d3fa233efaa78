/-
The order and sameness of flat values; the laws' yes and no.
-/
import Derived.Test.YtdcgjfiknknjfaaGreatDoorFlatB
import Derived.Test.YtdcgjfiknknjfaaGreatDoorLawM
set_option linter.unusedSimpArgs false
set_option linter.unusedVariables false
namespace Go.Proofs.YtdcgjfiknknjfaaGreatDoor.NumA
open Go.RowKit Go.Lib Go.Proofs.YtdcgjfiknknjfaaGreatDoor.ValA Go.Proofs.YtdcgjfiknknjfaaGreatDoor.FloH Go.Proofs.YtdcgjfiknknjfaaGreatDoorW.PrintWords Go.Proofs.YtdcgjfiknknjfaaGreatDoorW.PrintLast Go.Proofs.YtdcgjfiknknjfaaGreatDoorW.PrintMore
theorem bless_irrefl : ∀ l : List UInt8, Op.bytesLess l l = false
  | [] => rfl
  | a :: l => by
    have := bless_irrefl l
    simp [Op.bytesLess, this]
/-- The order of two strings. -/
def tx (s t : ByteArray) : Int := if s.toList = t.toList then 0 else if Op.bytesLess s.toList t.toList = true then -1 else 1
theorem tx_zero (s t : ByteArray) : (tx s t == 0) = decide (s = t) := by
  have e : s = t ↔ s.toList = t.toList := ⟨fun h => by rw [h], fun h => by
    rw [Lib.toList_data, Lib.toList_data] at h
    exact Go.WideShapes.bytes_inj h⟩
  rw [Bool.eq_iff_iff, beq_iff_eq, decide_eq_true_eq, e]
  unfold tx
  by_cases c : s.toList = t.toList
  · simp [c]
  · rw [if_neg c]
    by_cases d : Op.bytesLess s.toList t.toList = true
    · rw [if_pos d]; simp [c]
    · rw [if_neg d]; simp [c]
theorem texts_any (s t : ByteArray) (w : World) : Calls Tryz.prog 51 #[.string s, .string t] w fun e w' => e = .returned (.int .i64 (tx s t)) ∧ w = w' := by
  unfold tx
  by_cases c : s.toList = t.toList
  · rw [if_pos c]
    have h1 : Op.bytesLess s.toList t.toList = false := by rw [c]; exact bless_irrefl _
    have h2 : (!(Op.bytesLess s.toList t.toList || s.toList == t.toList)) = false := by rw [c]; simp
    have h3 : (!(s.toList == t.toList)) = false := by rw [c]; simp
    clear c
    go_enter Tryz.func51, Tryz.ntmps51
    go_wp2_with fail
    go_ret
    exact ⟨rfl, rfl⟩
  · rw [if_neg c]
    by_cases d : Op.bytesLess s.toList t.toList = true
    · rw [if_pos d]
      clear c
      go_enter Tryz.func51, Tryz.ntmps51
      go_wp2_with fail
      go_ret
      exact ⟨rfl, rfl⟩
    · rw [if_neg d]
      have h1 : Op.bytesLess s.toList t.toList = false := by simpa using d
      have h2 : (!(Op.bytesLess s.toList t.toList || s.toList == t.toList)) = true := by rw [h1]; simp [c]
      have h3 : (!(s.toList == t.toList)) = true := by simp [c]
      clear c d
      go_enter Tryz.func51, Tryz.ntmps51
      go_wp2_with fail
      go_ret
      exact ⟨rfl, rfl⟩
theorem cmp_k0 (h k : Int) (r r' : Rest) (w : World) :
    Calls Tryz.prog 30 #[vl 0 h r, vl 0 k r'] w fun e w' => e = .returned (.int .i64 0) ∧ Below w.heap.size w w' := by
  obtain ⟨s, a, l, c, a1, l1, c1, a2, l2, c2⟩ := r
  obtain ⟨s', a', l', c', a1', l1', c1', a2', l2', c2'⟩ := r'
  simp only [vl]
  go_enter Tryz.func30, Tryz.ntmps30
  go_wp2_with fail
  go_ret
  exact ⟨rfl, ((Below.refl _ w).alloc (Nat.le_refl _) _).alloc (by simp) _⟩
theorem cmp_k1 (h k : Int) (r r' : Rest) (w : World) :
    Calls Tryz.prog 30 #[vl 1 h r, vl 1 k r'] w fun e w' => e = .returned (.int .i64 0) ∧ Below w.heap.size w w' := by
  obtain ⟨s, a, l, c, a1, l1, c1, a2, l2, c2⟩ := r
  obtain ⟨s', a', l', c', a1', l1', c1', a2', l2', c2'⟩ := r'
  simp only [vl]
  go_enter Tryz.func30, Tryz.ntmps30
  go_wp2_with fail
  go_ret
  exact ⟨rfl, ((Below.refl _ w).alloc (Nat.le_refl _) _).alloc (by simp) _⟩
theorem cmp_k2 (h k : Int) (r r' : Rest) (w : World) :
    Calls Tryz.prog 30 #[vl 2 h r, vl 2 k r'] w fun e w' => e = .returned (.int .i64 0) ∧ Below w.heap.size w w' := by
  obtain ⟨s, a, l, c, a1, l1, c1, a2, l2, c2⟩ := r
  obtain ⟨s', a', l', c', a1', l1', c1', a2', l2', c2'⟩ := r'
  simp only [vl]
  go_enter Tryz.func30, Tryz.ntmps30
  go_wp2_with fail
  go_ret
  exact ⟨rfl, ((Below.refl _ w).alloc (Nat.le_refl _) _).alloc (by simp) _⟩
theorem cmp_12 (h k : Int) (r r' : Rest) (w : World) :
    Calls Tryz.prog 30 #[vl 1 h r, vl 2 k r'] w fun e w' => e = .returned (.int .i64 (-1)) ∧ Below w.heap.size w w' := by
  obtain ⟨s, a, l, c, a1, l1, c1, a2, l2, c2⟩ := r
  obtain ⟨s', a', l', c', a1', l1', c1', a2', l2', c2'⟩ := r'
  simp only [vl]
  go_enter Tryz.func30, Tryz.ntmps30
  go_wp2_with fail
  refine (sign_any _ _).mono ?_
  rintro e w1 ⟨rfl, rfl⟩
  go_wp2_with fail
  go_ret
  exact ⟨rfl, ((Below.refl _ w).alloc (Nat.le_refl _) _).alloc (by simp) _⟩
theorem cmp_21 (h k : Int) (r r' : Rest) (w : World) :
    Calls Tryz.prog 30 #[vl 2 h r, vl 1 k r'] w fun e w' => e = .returned (.int .i64 1) ∧ Below w.heap.size w w' := by
  obtain ⟨s, a, l, c, a1, l1, c1, a2, l2, c2⟩ := r
  obtain ⟨s', a', l', c', a1', l1', c1', a2', l2', c2'⟩ := r'
  simp only [vl]
  go_enter Tryz.func30, Tryz.ntmps30
  go_wp2_with fail
  refine (sign_any _ _).mono ?_
  rintro e w1 ⟨rfl, rfl⟩
  go_wp2_with fail
  go_ret
  exact ⟨rfl, ((Below.refl _ w).alloc (Nat.le_refl _) _).alloc (by simp) _⟩
theorem cmp_k4 (h k : Int) (r r' : Rest) (w : World) :
    Calls Tryz.prog 30 #[vl 4 h r, vl 4 k r'] w fun e w' => e = .returned (.int .i64 (tx r.s r'.s)) ∧ Below w.heap.size w w' := by
  obtain ⟨s, a, l, c, a1, l1, c1, a2, l2, c2⟩ := r
  obtain ⟨s', a', l', c', a1', l1', c1', a2', l2', c2'⟩ := r'
  simp only [vl]
  go_enter Tryz.func30, Tryz.ntmps30
  go_wp2_with fail
  refine (texts_any _ _ _).mono ?_
  rintro e w1 ⟨rfl, rfl⟩
  go_wp2_with fail
  go_ret
  exact ⟨rfl, ((Below.refl _ w).alloc (Nat.le_refl _) _).alloc (by simp) _⟩
theorem same_of (kx ky h k : Int) (r r' : Rest) (c0 : Int) (HC : ∀ w, Calls Tryz.prog 30 #[vl kx h r, vl ky k r'] w fun e w' => e = .returned (.int .i64 c0) ∧ Below w.heap.size w w') (w : World) :
    Calls Tryz.prog 27 #[vl kx h r, vl ky k r'] w fun e w' => e = .returned (.bool (c0 == 0)) ∧ Below w.heap.size w w' := by
  replace HC := Lib.hid HC
  obtain ⟨s, a, l, c, a1, l1, c1, a2, l2, c2⟩ := r
  obtain ⟨s', a', l', c', a1', l1', c1', a2', l2', c2'⟩ := r'
  simp only [vl] at HC ⊢
  go_enter Tryz.func27, Tryz.ntmps27
  go_wp2_with fail
  refine (HC.out _).mono ?_
  rintro e w1 ⟨rfl, hb⟩
  have HB := Lib.hid (Below.trans (((Below.refl _ w).alloc (Nat.le_refl _) (.cells #[.int .i64 kx, .int .i64 h, .string s, .slice a l c, .slice a1 l1 c1, .slice a2 l2 c2] 26)).alloc (by simp) (.cells #[.int .i64 ky, .int .i64 k, .string s', .slice a' l' c', .slice a1' l1' c1', .slice a2' l2' c2'] 26)) (hb.mono (by simp; omega)))
  clear hb
  go_wp2_with fail
  go_ret
  exact ⟨rfl, HB.out⟩
theorem told_of (kx ky h k : Int) (r r' : Rest) (t0 : Bool) (HC : ∀ w, Calls Tryz.prog 27 #[vl kx h r, vl ky k r'] w fun e w' => e = .returned (.bool t0) ∧ Below w.heap.size w w') (w : World) :
    Calls Tryz.prog 44 #[rv kx h 0 r, vl ky k r', .int .i64 0] w fun e w' => e = .returned (.bool t0) ∧ Below w.heap.size w w' := by
  replace HC := Lib.hid HC
  obtain ⟨s, a, l, c, a1, l1, c1, a2, l2, c2⟩ := r
  obtain ⟨s', a', l', c', a1', l1', c1', a2', l2', c2'⟩ := r'
  simp only [vl, rv] at HC ⊢
  go_enter Tryz.func44, Tryz.ntmps44
  go_wp2_with fail
  refine (HC.out _).mono ?_
  rintro e w1 ⟨rfl, hb⟩
  have HB := Lib.hid (Below.trans (((Below.refl _ w).alloc (Nat.le_refl _) (.cells #[.int .i64 kx, .int .i64 h, .string s, .slice a l c, .slice a1 l1 c1, .slice a2 l2 c2, .int .i64 0] 30)).alloc (by simp) (.cells #[.int .i64 ky, .int .i64 k, .string s', .slice a' l' c', .slice a1' l1' c1', .slice a2' l2' c2'] 26)) (hb.mono (by simp; omega)))
  clear hb
  go_wp2_with fail
  go_ret
  exact ⟨rfl, HB.out⟩
theorem given_of (kx ky h k : Int) (r r' : Rest) (t0 : Bool) (HC : ∀ w, Calls Tryz.prog 27 #[vl kx h r, vl ky k r'] w fun e w' => e = .returned (.bool t0) ∧ Below w.heap.size w w') (w : World) :
    Calls Tryz.prog 18 #[rv kx h 0 r, vl ky k r'] w fun e w' => e = .returned (.bool t0) ∧ Below w.heap.size w w' := by
  replace HC := Lib.hid (fun w => told_of kx ky h k r r' t0 HC w)
  obtain ⟨s, a, l, c, a1, l1, c1, a2, l2, c2⟩ := r
  obtain ⟨s', a', l', c', a1', l1', c1', a2', l2', c2'⟩ := r'
  simp only [vl, rv] at HC ⊢
  go_enter Tryz.func18, Tryz.ntmps18
  go_wp2_with fail
  refine (HC.out _).mono ?_
  rintro e w1 ⟨rfl, hb⟩
  have HB := Lib.hid (Below.trans (((Below.refl _ w).alloc (Nat.le_refl _) (.cells #[.int .i64 kx, .int .i64 h, .string s, .slice a l c, .slice a1 l1 c1, .slice a2 l2 c2, .int .i64 0] 30)).alloc (by simp) (.cells #[.int .i64 ky, .int .i64 k, .string s', .slice a' l' c', .slice a1' l1' c1', .slice a2' l2' c2'] 26)) (hb.mono (by simp; omega)))
  clear hb
  go_wp2_with fail
  go_ret
  exact ⟨rfl, HB.out⟩
theorem spec_true (w : World) : Calls Tryz.prog 48 #[.bool true] w fun e w' => e = .returned (vl 2 0 r0) ∧ Below w.heap.size w w' := by
  simp only [vl, r0]
  go_enter Tryz.func48, Tryz.ntmps48
  go_wp2_with fail
  refine bodyPost_ret (v := .agg #[.int .i64 2, .int .i64 0, .string ⟨#[]⟩, .slice none 0 0, .slice none 0 0, .slice none 0 0]) (by simp [results, Tryz.results48, go_sem]) rfl ⟨rfl, ?_⟩
  exact (Below.refl _ w).alloc (Nat.le_refl _) _
theorem spec_false (w : World) : Calls Tryz.prog 48 #[.bool false] w fun e w' => e = .returned (vl 1 0 r0) ∧ Below w.heap.size w w' := by
  simp only [vl, r0]
  go_enter Tryz.func48, Tryz.ntmps48
  go_wp2_with fail
  refine bodyPost_ret (v := .agg #[.int .i64 1, .int .i64 0, .string ⟨#[]⟩, .slice none 0 0, .slice none 0 0, .slice none 0 0]) (by simp [results, Tryz.results48, go_sem]) rfl ⟨rfl, ?_⟩
  exact (Below.refl _ w).alloc (Nat.le_refl _) _
set_option maxHeartbeats 4000000 in
set_option maxRecDepth 100000 in
theorem yes_of (kx : Int) (y : Bool) (HG : ∀ w, Calls Tryz.prog 18 #[rv kx 0 0 r0, vl 2 0 r0] w fun e w' => e = .returned (.bool y) ∧ Below w.heap.size w w') (w : World) : Calls Tryz.prog 25 #[rv kx 0 0 r0] w fun e w' => e = .returned (.bool y) ∧ Below w.heap.size w w' := by
  have HB := Lib.hid spec_true
  replace HG := Lib.hid HG
  simp only [vl, rv, r0] at HB HG ⊢
  go_enter Tryz.func25, Tryz.ntmps25
  go_wp2_with fail
  have HZ : Hid (SPL w [(w.heap.size, #[.int .i64 kx, .int .i64 0, .string ⟨#[]⟩, .slice none 0 0, .slice none 0 0, .slice none 0 0, .int .i64 0], 30)] (w.alloc (.cells #[.int .i64 kx, .int .i64 0, .string ⟨#[]⟩, .slice none 0 0, .slice none 0 0, .slice none 0 0, .int .i64 0] 30))) := Lib.hid (SPL.box w _ _)
  refine start_ (n := 4) (S := fun w' => w'.cell? ⟨w.heap.size, 0, none⟩ = some (.int .i64 kx) ∧ w'.cell? ⟨w.heap.size, 1, none⟩ = some (.int .i64 0) ∧ w'.cell? ⟨w.heap.size, 2, none⟩ = some (.string ⟨#[]⟩) ∧ w'.cell? ⟨w.heap.size, 3, none⟩ = some (.slice none 0 0) ∧ w'.cell? ⟨w.heap.size, 4, none⟩ = some (.slice none 0 0) ∧ w'.cell? ⟨w.heap.size, 5, none⟩ = some (.slice none 0 0) ∧ w'.cell? ⟨w.heap.size, 6, none⟩ = some (.int .i64 0) ∧ SPL w [(w.heap.size, #[.int .i64 kx, .int .i64 0, .string ⟨#[]⟩, .slice none 0 0, .slice none 0 0, .slice none 0 0, .int .i64 0], 30)] w') (ds := []) #[false, false, false, false] (by kernel_rfl) rfl rfl ⟨((sev_cells ((SPL.drew HZ.out).get 0 rfl)).1), ((sev_cells ((SPL.drew HZ.out).get 0 rfl)).2.1), ((sev_cells ((SPL.drew HZ.out).get 0 rfl)).2.2.1), ((sev_cells ((SPL.drew HZ.out).get 0 rfl)).2.2.2.1), ((sev_cells ((SPL.drew HZ.out).get 0 rfl)).2.2.2.2.1), ((sev_cells ((SPL.drew HZ.out).get 0 rfl)).2.2.2.2.2.1), ((sev_cells ((SPL.drew HZ.out).get 0 rfl)).2.2.2.2.2.2.1), (SPL.drew HZ.out)⟩ (fun hHeld => ?_)
  refine take_ (i := 0) (N := some 3) (v := ?_) (a' := ?_) #[true, false, false, false] rfl rfl (by kernel_rfl) (fun _ _ _ h => h) (Or.inl ⟨by rfl, ?_⟩) hHeld ?_ ?_
  rotate_left
  · rintro w' ⟨s0, s1, s2, s3, s4, s5, s6, s7⟩
    go_simp
    with_reducible rfl
  rotate_left
  · simp only [Act.put, List.setIfInBounds_toArray, List.set_cons_zero, List.set_cons_succ, i64_w, i32_w]
    rfl
  refine one_ (i := 1) (N := some 4) #[true, true, false, false] rfl rfl (by kernel_rfl) (by decide) (fun K hK => ?_)
  refine goes_ Tryz.func48 (by kernel_rfl) rfl #[.bool true] (by rfl) rfl rfl (by simp only [List.map_toArray, List.map_cons, List.map_nil]; rfl) ?_
  with_reducible refine ((HB.out _)).mono ?_
  rintro e w3 ⟨rfl, hb⟩
  refine ⟨_, rfl, ?_⟩
  have hz := SPL.below (hHeld.2.2.2.2.2.2.2) hb
  refine hK.out _ _ ⟨((sev_cells (hz.get 0 rfl)).1), ((sev_cells (hz.get 0 rfl)).2.1), ((sev_cells (hz.get 0 rfl)).2.2.1), ((sev_cells (hz.get 0 rfl)).2.2.2.1), ((sev_cells (hz.get 0 rfl)).2.2.2.2.1), ((sev_cells (hz.get 0 rfl)).2.2.2.2.2.1), ((sev_cells (hz.get 0 rfl)).2.2.2.2.2.2.1), hz⟩ (fun hHeld => ?_)
  clear hK K
  refine norm_ (a' := ?_) ?_ ?_
  rotate_left
  · show Act.put _ (some 4) _ = _
    simp only [Act.put, List.setIfInBounds_toArray, List.set_cons_zero, List.set_cons_succ, i64_w, i32_w]
    rfl
  refine one_ (i := 2) (N := some 5) #[true, true, true, false] rfl rfl (by kernel_rfl) (by decide) (fun K hK => ?_)
  refine goes_ Tryz.func18 (by kernel_rfl) rfl #[.agg #[.int .i64 kx, .int .i64 0, .string ⟨#[]⟩, .slice none 0 0, .slice none 0 0, .slice none 0 0, .int .i64 0], .agg #[.int .i64 2, .int .i64 0, .string ⟨#[]⟩, .slice none 0 0, .slice none 0 0, .slice none 0 0]] (by rfl) rfl rfl (by simp only [List.map_toArray, List.map_cons, List.map_nil]; rfl) ?_
  with_reducible refine ((HG.out _)).mono ?_
  rintro e w3 ⟨rfl, hb⟩
  refine ⟨_, rfl, ?_⟩
  have hz := SPL.below (hHeld.2.2.2.2.2.2.2) hb
  refine hK.out _ _ ⟨((sev_cells (hz.get 0 rfl)).1), ((sev_cells (hz.get 0 rfl)).2.1), ((sev_cells (hz.get 0 rfl)).2.2.1), ((sev_cells (hz.get 0 rfl)).2.2.2.1), ((sev_cells (hz.get 0 rfl)).2.2.2.2.1), ((sev_cells (hz.get 0 rfl)).2.2.2.2.2.1), ((sev_cells (hz.get 0 rfl)).2.2.2.2.2.2.1), hz⟩ (fun hHeld => ?_)
  clear hK K
  refine norm_ (a' := ?_) ?_ ?_
  rotate_left
  · show Act.put _ (some 5) _ = _
    simp only [Act.put, List.setIfInBounds_toArray, List.set_cons_zero, List.set_cons_succ, i64_w, i32_w]
    rfl
  refine pure_ (i := 3) (N := some 2) (v := ?_) (a' := ?_) #[true, true, true, true] rfl rfl (by kernel_rfl) (fun _ _ _ h => h) (Or.inl ⟨by rfl, ?_⟩) ?_ ?_
  rotate_left
  · intro w'
    go_simp
    with_reducible rfl
  rotate_left
  · simp only [Act.put, List.setIfInBounds_toArray, List.set_cons_zero, List.set_cons_succ, i64_w, i32_w]
    rfl
  refine done_ (by kernel_rfl) ?_
  go_wp2_with fail
  go_ret
  exact ⟨rfl, hz.1⟩
set_option maxHeartbeats 4000000 in
set_option maxRecDepth 100000 in
theorem no_of (kx : Int) (y : Bool) (HG : ∀ w, Calls Tryz.prog 18 #[rv kx 0 0 r0, vl 1 0 r0] w fun e w' => e = .returned (.bool y) ∧ Below w.heap.size w w') (w : World) : Calls Tryz.prog 26 #[rv kx 0 0 r0] w fun e w' => e = .returned (.bool y) ∧ Below w.heap.size w w' := by
  have HB := Lib.hid spec_false
  replace HG := Lib.hid HG
  simp only [vl, rv, r0] at HB HG ⊢
  go_enter Tryz.func26, Tryz.ntmps26
  go_wp2_with fail
  have HZ : Hid (SPL w [(w.heap.size, #[.int .i64 kx, .int .i64 0, .string ⟨#[]⟩, .slice none 0 0, .slice none 0 0, .slice none 0 0, .int .i64 0], 30)] (w.alloc (.cells #[.int .i64 kx, .int .i64 0, .string ⟨#[]⟩, .slice none 0 0, .slice none 0 0, .slice none 0 0, .int .i64 0] 30))) := Lib.hid (SPL.box w _ _)
  refine start_ (n := 4) (S := fun w' => w'.cell? ⟨w.heap.size, 0, none⟩ = some (.int .i64 kx) ∧ w'.cell? ⟨w.heap.size, 1, none⟩ = some (.int .i64 0) ∧ w'.cell? ⟨w.heap.size, 2, none⟩ = some (.string ⟨#[]⟩) ∧ w'.cell? ⟨w.heap.size, 3, none⟩ = some (.slice none 0 0) ∧ w'.cell? ⟨w.heap.size, 4, none⟩ = some (.slice none 0 0) ∧ w'.cell? ⟨w.heap.size, 5, none⟩ = some (.slice none 0 0) ∧ w'.cell? ⟨w.heap.size, 6, none⟩ = some (.int .i64 0) ∧ SPL w [(w.heap.size, #[.int .i64 kx, .int .i64 0, .string ⟨#[]⟩, .slice none 0 0, .slice none 0 0, .slice none 0 0, .int .i64 0], 30)] w') (ds := []) #[false, false, false, false] (by kernel_rfl) rfl rfl ⟨((sev_cells ((SPL.drew HZ.out).get 0 rfl)).1), ((sev_cells ((SPL.drew HZ.out).get 0 rfl)).2.1), ((sev_cells ((SPL.drew HZ.out).get 0 rfl)).2.2.1), ((sev_cells ((SPL.drew HZ.out).get 0 rfl)).2.2.2.1), ((sev_cells ((SPL.drew HZ.out).get 0 rfl)).2.2.2.2.1), ((sev_cells ((SPL.drew HZ.out).get 0 rfl)).2.2.2.2.2.1), ((sev_cells ((SPL.drew HZ.out).get 0 rfl)).2.2.2.2.2.2.1), (SPL.drew HZ.out)⟩ (fun hHeld => ?_)
  refine take_ (i := 0) (N := some 3) (v := ?_) (a' := ?_) #[true, false, false, false] rfl rfl (by kernel_rfl) (fun _ _ _ h => h) (Or.inl ⟨by rfl, ?_⟩) hHeld ?_ ?_
  rotate_left
  · rintro w' ⟨s0, s1, s2, s3, s4, s5, s6, s7⟩
    go_simp
    with_reducible rfl
  rotate_left
  · simp only [Act.put, List.setIfInBounds_toArray, List.set_cons_zero, List.set_cons_succ, i64_w, i32_w]
    rfl
  refine one_ (i := 1) (N := some 4) #[true, true, false, false] rfl rfl (by kernel_rfl) (by decide) (fun K hK => ?_)
  refine goes_ Tryz.func48 (by kernel_rfl) rfl #[.bool false] (by rfl) rfl rfl (by simp only [List.map_toArray, List.map_cons, List.map_nil]; rfl) ?_
  with_reducible refine ((HB.out _)).mono ?_
  rintro e w3 ⟨rfl, hb⟩
  refine ⟨_, rfl, ?_⟩
  have hz := SPL.below (hHeld.2.2.2.2.2.2.2) hb
  refine hK.out _ _ ⟨((sev_cells (hz.get 0 rfl)).1), ((sev_cells (hz.get 0 rfl)).2.1), ((sev_cells (hz.get 0 rfl)).2.2.1), ((sev_cells (hz.get 0 rfl)).2.2.2.1), ((sev_cells (hz.get 0 rfl)).2.2.2.2.1), ((sev_cells (hz.get 0 rfl)).2.2.2.2.2.1), ((sev_cells (hz.get 0 rfl)).2.2.2.2.2.2.1), hz⟩ (fun hHeld => ?_)
  clear hK K
  refine norm_ (a' := ?_) ?_ ?_
  rotate_left
  · show Act.put _ (some 4) _ = _
    simp only [Act.put, List.setIfInBounds_toArray, List.set_cons_zero, List.set_cons_succ, i64_w, i32_w]
    rfl
  refine one_ (i := 2) (N := some 5) #[true, true, true, false] rfl rfl (by kernel_rfl) (by decide) (fun K hK => ?_)
  refine goes_ Tryz.func18 (by kernel_rfl) rfl #[.agg #[.int .i64 kx, .int .i64 0, .string ⟨#[]⟩, .slice none 0 0, .slice none 0 0, .slice none 0 0, .int .i64 0], .agg #[.int .i64 1, .int .i64 0, .string ⟨#[]⟩, .slice none 0 0, .slice none 0 0, .slice none 0 0]] (by rfl) rfl rfl (by simp only [List.map_toArray, List.map_cons, List.map_nil]; rfl) ?_
  with_reducible refine ((HG.out _)).mono ?_
  rintro e w3 ⟨rfl, hb⟩
  refine ⟨_, rfl, ?_⟩
  have hz := SPL.below (hHeld.2.2.2.2.2.2.2) hb
  refine hK.out _ _ ⟨((sev_cells (hz.get 0 rfl)).1), ((sev_cells (hz.get 0 rfl)).2.1), ((sev_cells (hz.get 0 rfl)).2.2.1), ((sev_cells (hz.get 0 rfl)).2.2.2.1), ((sev_cells (hz.get 0 rfl)).2.2.2.2.1), ((sev_cells (hz.get 0 rfl)).2.2.2.2.2.1), ((sev_cells (hz.get 0 rfl)).2.2.2.2.2.2.1), hz⟩ (fun hHeld => ?_)
  clear hK K
  refine norm_ (a' := ?_) ?_ ?_
  rotate_left
  · show Act.put _ (some 5) _ = _
    simp only [Act.put, List.setIfInBounds_toArray, List.set_cons_zero, List.set_cons_succ, i64_w, i32_w]
    rfl
  refine pure_ (i := 3) (N := some 2) (v := ?_) (a' := ?_) #[true, true, true, true] rfl rfl (by kernel_rfl) (fun _ _ _ h => h) (Or.inl ⟨by rfl, ?_⟩) ?_ ?_
  rotate_left
  · intro w'
    go_simp
    with_reducible rfl
  rotate_left
  · simp only [Act.put, List.setIfInBounds_toArray, List.set_cons_zero, List.set_cons_succ, i64_w, i32_w]
    rfl
  refine done_ (by kernel_rfl) ?_
  go_wp2_with fail
  go_ret
  exact ⟨rfl, hz.1⟩
theorem yes_bool (b : Bool) (w : World) : Calls Tryz.prog 25 #[rv (kb b) 0 0 r0] w fun e w' => e = .returned (.bool b) ∧ Below w.heap.size w w' := by
  cases b with
  | true => exact yes_of 2 true (given_of 2 2 0 0 r0 r0 true (same_of 2 2 0 0 r0 r0 0 (cmp_k2 0 0 r0 r0))) w
  | false => exact yes_of 1 false (given_of 1 2 0 0 r0 r0 false (same_of 1 2 0 0 r0 r0 (-1) (cmp_12 0 0 r0 r0))) w
theorem no_bool (b : Bool) (w : World) : Calls Tryz.prog 26 #[rv (kb b) 0 0 r0] w fun e w' => e = .returned (.bool (!b)) ∧ Below w.heap.size w w' := by
  cases b with
  | true => exact no_of 2 false (given_of 2 1 0 0 r0 r0 false (same_of 2 1 0 0 r0 r0 1 (cmp_21 0 0 r0 r0))) w
  | false => exact no_of 1 true (given_of 1 1 0 0 r0 r0 true (same_of 1 1 0 0 r0 r0 0 (cmp_k1 0 0 r0 r0))) w
end Go.Proofs.YtdcgjfiknknjfaaGreatDoor.NumA
