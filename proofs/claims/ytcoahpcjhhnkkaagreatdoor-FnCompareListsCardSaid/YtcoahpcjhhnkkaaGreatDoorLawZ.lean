/-
FnCompareLists: arrays are compared element by element; the shorter one comes first.
-/
import Derived.Test.YtcoahpcjhhnkkaaGreatDoorML
import Derived.Test.YtcoahpcjhhnkkaaGreatDoorCmpH
set_option linter.unusedSimpArgs false
set_option linter.unusedVariables false
namespace Go.Proofs.YtcoahpcjhhnkkaaGreatDoor.ValA
open Go.RowKit Go.Lib Go.Proofs.YtcoahpcjhhnkkaaGreatDoorW.PrintWords Go.Proofs.YtcoahpcjhhnkkaaGreatDoorW.PrintLast Go.Proofs.YtcoahpcjhhnkkaaGreatDoorW.PrintMore Go.Proofs.YtcoahpcjhhnkkaaGreatDoor.PzzFits1 Go.Proofs.YtcoahpcjhhnkkaaGreatDoor.NumA
attribute [local go_sem] run_val
theorem spn_nil (w : World) : SPN w [] w := ⟨SPL.nil w, List.nodup_nil, fun p hp => by cases hp⟩
theorem spec_array (A : Option Addr) (n c : Nat) (w : World) : Calls Tryz.prog 13 #[.slice A n c] w fun e w' => e = .returned (.agg #[.int .i64 5, .int .i64 0, .string ⟨#[]⟩, .slice A n c, .slice none 0 0, .slice none 0 0]) ∧ Below w.heap.size w w' := by
  go_enter Tryz.func13, Tryz.ntmps13
  go_wp2_with fail
  refine bodyPost_ret (v := .agg #[.int .i64 5, .int .i64 0, .string ⟨#[]⟩, .slice A n c, .slice none 0 0, .slice none 0 0]) (by simp [results, Tryz.results13, go_sem]) rfl ⟨rfl, ?_⟩
  exact (Below.refl _ w).alloc (Nat.le_refl _) _
theorem SPO.rowL {w w1 : World} {L : List (Nat × Array Value × TypeId)} {A : Option Addr} {c : Nat} {l : List V} {x : V} (h : SPO w L (.slice A (l.length + 1) c) (l ++ [x]) w1) : k26.K w1 (lV (l ++ [x])) [.int .i64 5, .int .i64 0, .string ⟨#[]⟩, .slice A (l.length + 1) c, .slice none 0 0, .slice none 0 0] := by
  obtain ⟨A', c', e, hle, hK⟩ := h.row1
  simp only [Value.slice.injEq, true_and] at e
  obtain ⟨rfl, rfl⟩ := e
  exact hK
set_option maxRecDepth 100000 in
set_option maxHeartbeats 20000000 in
theorem fnCompareLists_any (w0 : World) (hE : Env w0) (PL : Option Addr) (l : List V) (cL : Nat) (hlc : l.length ≤ cL) (hC : Kd.C k26 w0 PL l.length l) (hz : ∀ y ∈ l, Sz y) (xa : V) (hza : Sz xa) (Ka Ha : Int) (sa : ByteArray) (A3a A4a A5a : Option Addr) (n3a c3a n4a c4a n5a c5a : Nat) (hKa : k26.K w0 xa [.int .i64 Ka, .int .i64 Ha, .string sa, .slice A3a n3a c3a, .slice A4a n4a c4a, .slice A5a n5a c5a]) (xb : V) (hzb : Sz xb) (Kb Hb : Int) (sb : ByteArray) (A3b A4b A5b : Option Addr) (n3b c3b n4b c4b n5b c5b : Nat) (hKb : k26.K w0 xb [.int .i64 Kb, .int .i64 Hb, .string sb, .slice A3b n3b c3b, .slice A4b n4b c4b, .slice A5b n5b c5b]) :
    Calls Tryz.prog 3 #[.slice PL l.length cL, .agg #[.int .i64 Ka, .int .i64 Ha, .string sa, .slice A3a n3a c3a, .slice A4a n4a c4a, .slice A5a n5a c5a], .agg #[.int .i64 Kb, .int .i64 Hb, .string sb, .slice A3b n3b c3b, .slice A4b n4b c4b, .slice A5b n5b c5b]] w0 fun e w' => e = .returned (.bool true) ∧ Below w0.heap.size w0 w' := by
  obtain ⟨w, hw⟩ : ∃ w, w = w0 := ⟨_, rfl⟩
  have HFa := Lib.hid (fun w1 hb => fits1_any w0 xa Ka Ha sa A3a A4a A5a n3a c3a n4a c4a n5a c5a hKa w1 hb)
  have HFb := Lib.hid (fun w1 hb => fits1_any w0 xb Kb Hb sb A3b A4b A5b n3b c3b n4b c4b n5b c5b hKb w1 hb)
  have HTa := Lib.hid (fun h => toGo_any w0 _ xa (Nat.lt_succ_self _) hza h _ hKa)
  have HTb := Lib.hid (fun h => toGo_any w0 _ xb (Nat.lt_succ_self _) hzb h _ hKb)
  have HPab := Lib.hid (fun h h' => compare_any _ xa (Nat.lt_succ_self _) h hza xb h' hzb)
  have HEN := Lib.hid hE
  have HZL := Lib.hid hz
  have HZA := Lib.hid hza
  have HZB := Lib.hid hzb
  have HKa := Lib.hid hKa
  have HKb := Lib.hid hKb
  have HLC := Lib.hid hlc
  have HCL : Hid (∀ w1, Below w0.heap.size w0 w1 → ReadsRow (k26.K w0) 6 w1 PL l.length l) := Lib.hid (fun w1 hb => ReadsRow.imp_ hC hb (fun _ _ h => h))
  have HAR := Lib.hid (fun A n c w => spec_array A n c w)
  clear hE hz hza hKa hzb hKb hC hlc
  subst hw
  by_cases c0 : (l.length : Int) > 2147483647
  · have d0 : decide ((l.length : Int) > 2147483647) = true := decide_eq_true c0
    clear c0
    go_enter Tryz.func3, Tryz.ntmps3
    go_wp2_with fail
    go_ret
    exact ⟨rfl, ((Below.refl _ w).alloc (Nat.le_refl _) _).alloc (by rw [World.size_alloc]; omega) _⟩
  have d0 : decide ((l.length : Int) > 2147483647) = false := decide_eq_false c0
  have HLN : Hid (l.length ≤ 2147483647) := Lib.hid (by omega)
  clear c0
  go_enter Tryz.func3, Tryz.ntmps3
  go_wp2_with fail
  obtain ⟨A, hA⟩ : ∃ A, A = w.heap.size := ⟨_, rfl⟩
  obtain ⟨B, hB⟩ : ∃ B, B = w.heap.size + 1 := ⟨_, rfl⟩
  obtain ⟨W0, hW0⟩ : ∃ W0, W0 = (w.alloc (.cells #[.int .i64 Ka, .int .i64 Ha, .string sa, .slice A3a n3a c3a, .slice A4a n4a c4a, .slice A5a n5a c5a] 26)).alloc (.cells #[.int .i64 Kb, .int .i64 Hb, .string sb, .slice A3b n3b c3b, .slice A4b n4b c4b, .slice A5b n5b c5b] 26) := ⟨_, rfl⟩
  have h0 : SPN w [(A, cz Ka Ha sa A3a n3a c3a A4a n4a c4a A5a n5a c5a, 26), (B, cz Kb Hb sb A3b n3b c3b A4b n4b c4b A5b n5b c5b, 26)] W0 := by
    have h := ((spn_nil w).more #[.int .i64 Ka, .int .i64 Ha, .string sa, .slice A3a n3a c3a, .slice A4a n4a c4a, .slice A5a n5a c5a] 26).more #[.int .i64 Kb, .int .i64 Hb, .string sb, .slice A3b n3b c3b, .slice A4b n4b c4b, .slice A5b n5b c5b] 26
    rw [World.size_alloc] at h
    rw [hA, hB, hW0]
    exact h
  rw [← hW0]
  try rw [← hB]
  try rw [← hA]
  have H0 := Lib.hid h0
  clear h0 hW0 hA hB
  have y := six_cells (H0.out.1.get 0 rfl)
  go_wp2_with fail
  refine (HFa.out W0 H0.out.1.1).mono ?_
  rintro e w1 ⟨r, rfl, hr, hb⟩
  have H1 := Lib.hid (H0.out.below hb)
  clear hb H0 y HFa
  cases r with
  | false =>
    go_wp2_with fail
    go_ret
    exact ⟨rfl, H1.out.1.1⟩
  | true =>
  have SZa := Lib.hid (hr (by trivial))
  clear hr
  have y := six_cells (H1.out.1.get 1 rfl)
  go_wp2_with fail
  refine (HFb.out w1 H1.out.1.1).mono ?_
  rintro e w2 ⟨r, rfl, hr, hb⟩
  have H2 := Lib.hid (H1.out.below hb)
  clear hb H1 y HFb
  cases r with
  | false =>
    go_wp2_with fail
    go_ret
    exact ⟨rfl, H2.out.1.1⟩
  | true =>
  have SZb := Lib.hid (hr (by trivial))
  clear hr
  have y := six_cells (H2.out.1.get 0 rfl)
  try go_wp2_with fail
  clear y
  have HSp : ∀ w', SPN w [(A, cz Ka Ha sa A3a n3a c3a A4a n4a c4a A5a n5a c5a, 26), (B, cz Kb Hb sb A3b n3b c3b A4b n4b c4b A5b n5b c5b, 26)] w' → w'.cell? ⟨A, 0, none⟩ = some (.int .i64 Ka) ∧ w'.cell? ⟨A, 1, none⟩ = some (.int .i64 Ha) ∧ w'.cell? ⟨A, 2, none⟩ = some (.string sa) ∧ w'.cell? ⟨A, 3, none⟩ = some (.slice A3a n3a c3a) ∧ w'.cell? ⟨A, 4, none⟩ = some (.slice A4a n4a c4a) ∧ w'.cell? ⟨A, 5, none⟩ = some (.slice A5a n5a c5a) ∧ w'.cell? ⟨B, 0, none⟩ = some (.int .i64 Kb) ∧ w'.cell? ⟨B, 1, none⟩ = some (.int .i64 Hb) ∧ w'.cell? ⟨B, 2, none⟩ = some (.string sb) ∧ w'.cell? ⟨B, 3, none⟩ = some (.slice A3b n3b c3b) ∧ w'.cell? ⟨B, 4, none⟩ = some (.slice A4b n4b c4b) ∧ w'.cell? ⟨B, 5, none⟩ = some (.slice A5b n5b c5b) ∧ SPN w [(A, cz Ka Ha sa A3a n3a c3a A4a n4a c4a A5a n5a c5a, 26), (B, cz Kb Hb sb A3b n3b c3b A4b n4b c4b A5b n5b c5b, 26)] w' := fun w' h => ⟨((six_cells ((h.1).get 0 rfl)).1), ((six_cells ((h.1).get 0 rfl)).2.1), ((six_cells ((h.1).get 0 rfl)).2.2.1), ((six_cells ((h.1).get 0 rfl)).2.2.2.1), ((six_cells ((h.1).get 0 rfl)).2.2.2.2.1), ((six_cells ((h.1).get 0 rfl)).2.2.2.2.2.1), ((six_cells ((h.1).get 1 rfl)).1), ((six_cells ((h.1).get 1 rfl)).2.1), ((six_cells ((h.1).get 1 rfl)).2.2.1), ((six_cells ((h.1).get 1 rfl)).2.2.2.1), ((six_cells ((h.1).get 1 rfl)).2.2.2.2.1), ((six_cells ((h.1).get 1 rfl)).2.2.2.2.2.1), h⟩
  refine start_ (n := 13) (S := fun w' => w'.cell? ⟨A, 0, none⟩ = some (.int .i64 Ka) ∧ w'.cell? ⟨A, 1, none⟩ = some (.int .i64 Ha) ∧ w'.cell? ⟨A, 2, none⟩ = some (.string sa) ∧ w'.cell? ⟨A, 3, none⟩ = some (.slice A3a n3a c3a) ∧ w'.cell? ⟨A, 4, none⟩ = some (.slice A4a n4a c4a) ∧ w'.cell? ⟨A, 5, none⟩ = some (.slice A5a n5a c5a) ∧ w'.cell? ⟨B, 0, none⟩ = some (.int .i64 Kb) ∧ w'.cell? ⟨B, 1, none⟩ = some (.int .i64 Hb) ∧ w'.cell? ⟨B, 2, none⟩ = some (.string sb) ∧ w'.cell? ⟨B, 3, none⟩ = some (.slice A3b n3b c3b) ∧ w'.cell? ⟨B, 4, none⟩ = some (.slice A4b n4b c4b) ∧ w'.cell? ⟨B, 5, none⟩ = some (.slice A5b n5b c5b) ∧ SPN w [(A, cz Ka Ha sa A3a n3a c3a A4a n4a c4a A5a n5a c5a, 26), (B, cz Kb Hb sb A3b n3b c3b A4b n4b c4b A5b n5b c5b, 26)] w') (ds := []) #[false, false, false, false, false, false, false, false, false, false, false, false, false] (by kernel_rfl) rfl rfl (HSp _ (SPN.drew H2.out)) (fun hHeld => ?_)
  refine pure_ (i := 0) (N := some 23) (v := ?_) (a' := ?_) #[true, false, false, false, false, false, false, false, false, false, false, false, false] rfl rfl (by kernel_rfl) (fun _ _ _ h => h) (Or.inl ⟨by rfl, ?_⟩) ?_ ?_
  rotate_left
  ·intro w'
   go_simp
   with_reducible rfl
  rotate_left
  ·simp only [Act.put, List.setIfInBounds_toArray, List.set_cons_zero, List.set_cons_succ, i64_w, i32_w]
   rfl
  refine pure_ (i := 3) (N := some 26) (v := ?_) (a' := ?_) #[true, false, false, true, false, false, false, false, false, false, false, false, false] rfl rfl (by kernel_rfl) (fun _ _ _ h => h) (Or.inl ⟨by rfl, ?_⟩) ?_ ?_
  rotate_left
  ·intro w'
   go_simp
   with_reducible rfl
  rotate_left
  ·simp only [Act.put, List.setIfInBounds_toArray, List.set_cons_zero, List.set_cons_succ, i64_w, i32_w]
   rfl
  refine take_ (i := 5) (N := some 28) (v := ?_) (a' := ?_) #[true, false, false, true, false, true, false, false, false, false, false, false, false] rfl rfl (by kernel_rfl) (fun _ _ _ h => h) (Or.inl ⟨by rfl, ?_⟩) hHeld ?_ ?_
  rotate_left
  ·rintro w' ⟨s0, s1, s2, s3, s4, s5, s6, s7, s8, s9, s10, s11, s12⟩
   go_simp
   with_reducible rfl
  rotate_left
  ·simp only [Act.put, List.setIfInBounds_toArray, List.set_cons_zero, List.set_cons_succ, i64_w, i32_w]
   rfl
  refine join_ (σ := Nat × Option Addr × Nat × Option Addr × Nat × Nat × Nat × Nat × Unit) 2 #[true, true, true, true, true, true, true, true, true, true, true, false, false] (fun s => [(24, .agg #[.int .i64 5, .int .i64 0, .string ⟨#[]⟩, .slice PL l.length cL, .slice none 0 0, .slice none 0 0]), (25, .slice (some ⟨s.1, 0, none⟩) 0 0), (27, .slice s.2.1 l.length s.2.2.1), (29, .slice (some ⟨s.2.2.2.2.2.1, 0, none⟩) 1 1), (30, .slice s.2.2.2.1 (l.length + 1) s.2.2.2.2.1), (31, .agg #[.int .i64 5, .int .i64 0, .string ⟨#[]⟩, .slice s.2.2.2.1 (l.length + 1) s.2.2.2.2.1, .slice none 0 0, .slice none 0 0]), (7, .pointer (some ⟨s.2.2.2.2.2.2.1, 0, none⟩)), (8, .pointer (some ⟨s.2.2.2.2.2.2.2.1, 0, none⟩))]) (fun s w' => SPO w [(A, cz Ka Ha sa A3a n3a c3a A4a n4a c4a A5a n5a c5a, 26), (B, cz Kb Hb sb A3b n3b c3b A4b n4b c4b A5b n5b c5b, 26), (s.2.2.2.2.2.1, cz Ka Ha sa A3a n3a c3a A4a n4a c4a A5a n5a c5a, 26), (s.2.2.2.2.2.2.1, zq, 26), (s.2.2.2.2.2.2.2.1, zq, 26)] (.slice s.2.2.2.1 (l.length + 1) s.2.2.2.2.1) (l ++ [xa]) w') ?_ ?_
  rotate_left
  ·intro hJ1_2_4_6_7_8_9_10
   refine join_ (σ := Nat × Option Addr × Nat × Option Addr × Nat × Nat × Nat × Unit) 3 #[true, true, true, true, true, true, true, true, true, true, false, false, false] (fun s => [(24, .agg #[.int .i64 5, .int .i64 0, .string ⟨#[]⟩, .slice PL l.length cL, .slice none 0 0, .slice none 0 0]), (25, .slice (some ⟨s.1, 0, none⟩) 0 0), (27, .slice s.2.1 l.length s.2.2.1), (29, .slice (some ⟨s.2.2.2.2.2.1, 0, none⟩) 1 1), (30, .slice s.2.2.2.1 (l.length + 1) s.2.2.2.2.1), (31, .agg #[.int .i64 5, .int .i64 0, .string ⟨#[]⟩, .slice s.2.2.2.1 (l.length + 1) s.2.2.2.2.1, .slice none 0 0, .slice none 0 0]), (7, .pointer (some ⟨s.2.2.2.2.2.2.1, 0, none⟩))]) (fun s w' => SPO w [(A, cz Ka Ha sa A3a n3a c3a A4a n4a c4a A5a n5a c5a, 26), (B, cz Kb Hb sb A3b n3b c3b A4b n4b c4b A5b n5b c5b, 26), (s.2.2.2.2.2.1, cz Ka Ha sa A3a n3a c3a A4a n4a c4a A5a n5a c5a, 26), (s.2.2.2.2.2.2.1, zq, 26)] (.slice s.2.2.2.1 (l.length + 1) s.2.2.2.2.1) (l ++ [xa]) w') ?_ ?_
   rotate_left
   ·intro hJ1_2_4_6_7_8_9
    refine join_ (σ := Nat × Option Addr × Nat × Option Addr × Nat × Nat × Nat × Unit) 3 #[true, true, true, true, true, true, true, true, true, false, true, false, false] (fun s => [(24, .agg #[.int .i64 5, .int .i64 0, .string ⟨#[]⟩, .slice PL l.length cL, .slice none 0 0, .slice none 0 0]), (25, .slice (some ⟨s.1, 0, none⟩) 0 0), (27, .slice s.2.1 l.length s.2.2.1), (29, .slice (some ⟨s.2.2.2.2.2.1, 0, none⟩) 1 1), (30, .slice s.2.2.2.1 (l.length + 1) s.2.2.2.2.1), (31, .agg #[.int .i64 5, .int .i64 0, .string ⟨#[]⟩, .slice s.2.2.2.1 (l.length + 1) s.2.2.2.2.1, .slice none 0 0, .slice none 0 0]), (8, .pointer (some ⟨s.2.2.2.2.2.2.1, 0, none⟩))]) (fun s w' => SPO w [(A, cz Ka Ha sa A3a n3a c3a A4a n4a c4a A5a n5a c5a, 26), (B, cz Kb Hb sb A3b n3b c3b A4b n4b c4b A5b n5b c5b, 26), (s.2.2.2.2.2.1, cz Ka Ha sa A3a n3a c3a A4a n4a c4a A5a n5a c5a, 26), (s.2.2.2.2.2.2.1, zq, 26)] (.slice s.2.2.2.1 (l.length + 1) s.2.2.2.2.1) (l ++ [xa]) w') ?_ ?_
    rotate_left
    ·intro hJ1_2_4_6_7_8_10
     refine join_ (σ := Nat × Option Addr × Nat × Option Addr × Nat × Nat × Nat × Nat × Unit) 3 #[true, true, true, true, true, true, true, true, false, true, true, false, false] (fun s => [(24, .agg #[.int .i64 5, .int .i64 0, .string ⟨#[]⟩, .slice PL l.length cL, .slice none 0 0, .slice none 0 0]), (25, .slice (some ⟨s.1, 0, none⟩) 0 0), (27, .slice s.2.1 l.length s.2.2.1), (29, .slice (some ⟨s.2.2.2.2.2.1, 0, none⟩) 1 1), (30, .slice s.2.2.2.1 (l.length + 1) s.2.2.2.2.1), (7, .pointer (some ⟨s.2.2.2.2.2.2.1, 0, none⟩)), (8, .pointer (some ⟨s.2.2.2.2.2.2.2.1, 0, none⟩))]) (fun s w' => SPO w [(A, cz Ka Ha sa A3a n3a c3a A4a n4a c4a A5a n5a c5a, 26), (B, cz Kb Hb sb A3b n3b c3b A4b n4b c4b A5b n5b c5b, 26), (s.2.2.2.2.2.1, cz Ka Ha sa A3a n3a c3a A4a n4a c4a A5a n5a c5a, 26), (s.2.2.2.2.2.2.1, zq, 26), (s.2.2.2.2.2.2.2.1, zq, 26)] (.slice s.2.2.2.1 (l.length + 1) s.2.2.2.2.1) (l ++ [xa]) w') ?_ ?_
     rotate_left
     ·intro hJ1_2_4_6_7_9_10
      refine join_ (σ := Nat × Option Addr × Nat × Option Addr × Nat × Nat × Unit) 4 #[true, true, true, true, true, true, true, true, true, false, false, false, false] (fun s => [(24, .agg #[.int .i64 5, .int .i64 0, .string ⟨#[]⟩, .slice PL l.length cL, .slice none 0 0, .slice none 0 0]), (25, .slice (some ⟨s.1, 0, none⟩) 0 0), (27, .slice s.2.1 l.length s.2.2.1), (29, .slice (some ⟨s.2.2.2.2.2.1, 0, none⟩) 1 1), (30, .slice s.2.2.2.1 (l.length + 1) s.2.2.2.2.1), (31, .agg #[.int .i64 5, .int .i64 0, .string ⟨#[]⟩, .slice s.2.2.2.1 (l.length + 1) s.2.2.2.2.1, .slice none 0 0, .slice none 0 0])]) (fun s w' => SPO w [(A, cz Ka Ha sa A3a n3a c3a A4a n4a c4a A5a n5a c5a, 26), (B, cz Kb Hb sb A3b n3b c3b A4b n4b c4b A5b n5b c5b, 26), (s.2.2.2.2.2.1, cz Ka Ha sa A3a n3a c3a A4a n4a c4a A5a n5a c5a, 26)] (.slice s.2.2.2.1 (l.length + 1) s.2.2.2.2.1) (l ++ [xa]) w') ?_ ?_
      rotate_left
      ·intro hJ1_2_4_6_7_8
       refine join_ (σ := Nat × Option Addr × Nat × Option Addr × Nat × Nat × Nat × Unit) 4 #[true, true, true, true, true, true, true, true, false, true, false, false, false] (fun s => [(24, .agg #[.int .i64 5, .int .i64 0, .string ⟨#[]⟩, .slice PL l.length cL, .slice none 0 0, .slice none 0 0]), (25, .slice (some ⟨s.1, 0, none⟩) 0 0), (27, .slice s.2.1 l.length s.2.2.1), (29, .slice (some ⟨s.2.2.2.2.2.1, 0, none⟩) 1 1), (30, .slice s.2.2.2.1 (l.length + 1) s.2.2.2.2.1), (7, .pointer (some ⟨s.2.2.2.2.2.2.1, 0, none⟩))]) (fun s w' => SPO w [(A, cz Ka Ha sa A3a n3a c3a A4a n4a c4a A5a n5a c5a, 26), (B, cz Kb Hb sb A3b n3b c3b A4b n4b c4b A5b n5b c5b, 26), (s.2.2.2.2.2.1, cz Ka Ha sa A3a n3a c3a A4a n4a c4a A5a n5a c5a, 26), (s.2.2.2.2.2.2.1, zq, 26)] (.slice s.2.2.2.1 (l.length + 1) s.2.2.2.2.1) (l ++ [xa]) w') ?_ ?_
       rotate_left
       ·intro hJ1_2_4_6_7_9
        refine join_ (σ := Nat × Option Addr × Nat × Option Addr × Nat × Nat × Nat × Unit) 4 #[true, true, true, true, true, true, true, true, false, false, true, false, false] (fun s => [(24, .agg #[.int .i64 5, .int .i64 0, .string ⟨#[]⟩, .slice PL l.length cL, .slice none 0 0, .slice none 0 0]), (25, .slice (some ⟨s.1, 0, none⟩) 0 0), (27, .slice s.2.1 l.length s.2.2.1), (29, .slice (some ⟨s.2.2.2.2.2.1, 0, none⟩) 1 1), (30, .slice s.2.2.2.1 (l.length + 1) s.2.2.2.2.1), (8, .pointer (some ⟨s.2.2.2.2.2.2.1, 0, none⟩))]) (fun s w' => SPO w [(A, cz Ka Ha sa A3a n3a c3a A4a n4a c4a A5a n5a c5a, 26), (B, cz Kb Hb sb A3b n3b c3b A4b n4b c4b A5b n5b c5b, 26), (s.2.2.2.2.2.1, cz Ka Ha sa A3a n3a c3a A4a n4a c4a A5a n5a c5a, 26), (s.2.2.2.2.2.2.1, zq, 26)] (.slice s.2.2.2.1 (l.length + 1) s.2.2.2.2.1) (l ++ [xa]) w') ?_ ?_
        rotate_left
        ·intro hJ1_2_4_6_7_10
         refine join_ (σ := Nat × Option Addr × Nat × Nat × Nat × Nat × Unit) 4 #[true, true, true, true, true, true, true, false, false, true, true, false, false] (fun s => [(24, .agg #[.int .i64 5, .int .i64 0, .string ⟨#[]⟩, .slice PL l.length cL, .slice none 0 0, .slice none 0 0]), (25, .slice (some ⟨s.1, 0, none⟩) 0 0), (27, .slice s.2.1 l.length s.2.2.1), (29, .slice (some ⟨s.2.2.2.1, 0, none⟩) 1 1), (7, .pointer (some ⟨s.2.2.2.2.1, 0, none⟩)), (8, .pointer (some ⟨s.2.2.2.2.2.1, 0, none⟩))]) (fun s w' => SPO w [(A, cz Ka Ha sa A3a n3a c3a A4a n4a c4a A5a n5a c5a, 26), (B, cz Kb Hb sb A3b n3b c3b A4b n4b c4b A5b n5b c5b, 26), (s.2.2.2.1, cz Ka Ha sa A3a n3a c3a A4a n4a c4a A5a n5a c5a, 26), (s.2.2.2.2.1, zq, 26), (s.2.2.2.2.2.1, zq, 26)] (.slice s.2.1 l.length s.2.2.1) l w') ?_ ?_
         rotate_left
         ·intro hJ1_2_4_6_9_10
          refine join_ (σ := Nat × Option Addr × Nat × Option Addr × Nat × Nat × Unit) 5 #[true, true, true, true, true, true, true, true, false, false, false, false, false] (fun s => [(24, .agg #[.int .i64 5, .int .i64 0, .string ⟨#[]⟩, .slice PL l.length cL, .slice none 0 0, .slice none 0 0]), (25, .slice (some ⟨s.1, 0, none⟩) 0 0), (27, .slice s.2.1 l.length s.2.2.1), (29, .slice (some ⟨s.2.2.2.2.2.1, 0, none⟩) 1 1), (30, .slice s.2.2.2.1 (l.length + 1) s.2.2.2.2.1)]) (fun s w' => SPO w [(A, cz Ka Ha sa A3a n3a c3a A4a n4a c4a A5a n5a c5a, 26), (B, cz Kb Hb sb A3b n3b c3b A4b n4b c4b A5b n5b c5b, 26), (s.2.2.2.2.2.1, cz Ka Ha sa A3a n3a c3a A4a n4a c4a A5a n5a c5a, 26)] (.slice s.2.2.2.1 (l.length + 1) s.2.2.2.2.1) (l ++ [xa]) w') ?_ ?_
          rotate_left
          ·intro hJ1_2_4_6_7
           refine join_ (σ := Nat × Option Addr × Nat × Nat × Nat × Unit) 5 #[true, true, true, true, true, true, true, false, false, true, false, false, false] (fun s => [(24, .agg #[.int .i64 5, .int .i64 0, .string ⟨#[]⟩, .slice PL l.length cL, .slice none 0 0, .slice none 0 0]), (25, .slice (some ⟨s.1, 0, none⟩) 0 0), (27, .slice s.2.1 l.length s.2.2.1), (29, .slice (some ⟨s.2.2.2.1, 0, none⟩) 1 1), (7, .pointer (some ⟨s.2.2.2.2.1, 0, none⟩))]) (fun s w' => SPO w [(A, cz Ka Ha sa A3a n3a c3a A4a n4a c4a A5a n5a c5a, 26), (B, cz Kb Hb sb A3b n3b c3b A4b n4b c4b A5b n5b c5b, 26), (s.2.2.2.1, cz Ka Ha sa A3a n3a c3a A4a n4a c4a A5a n5a c5a, 26), (s.2.2.2.2.1, zq, 26)] (.slice s.2.1 l.length s.2.2.1) l w') ?_ ?_
           rotate_left
           ·intro hJ1_2_4_6_9
            refine join_ (σ := Nat × Option Addr × Nat × Nat × Nat × Unit) 5 #[true, true, true, true, true, true, true, false, false, false, true, false, false] (fun s => [(24, .agg #[.int .i64 5, .int .i64 0, .string ⟨#[]⟩, .slice PL l.length cL, .slice none 0 0, .slice none 0 0]), (25, .slice (some ⟨s.1, 0, none⟩) 0 0), (27, .slice s.2.1 l.length s.2.2.1), (29, .slice (some ⟨s.2.2.2.1, 0, none⟩) 1 1), (8, .pointer (some ⟨s.2.2.2.2.1, 0, none⟩))]) (fun s w' => SPO w [(A, cz Ka Ha sa A3a n3a c3a A4a n4a c4a A5a n5a c5a, 26), (B, cz Kb Hb sb A3b n3b c3b A4b n4b c4b A5b n5b c5b, 26), (s.2.2.2.1, cz Ka Ha sa A3a n3a c3a A4a n4a c4a A5a n5a c5a, 26), (s.2.2.2.2.1, zq, 26)] (.slice s.2.1 l.length s.2.2.1) l w') ?_ ?_
            rotate_left
            ·intro hJ1_2_4_6_10
             refine join_ (σ := Nat × Option Addr × Nat × Nat × Nat × Unit) 5 #[true, true, true, true, true, true, false, false, false, true, true, false, false] (fun s => [(24, .agg #[.int .i64 5, .int .i64 0, .string ⟨#[]⟩, .slice PL l.length cL, .slice none 0 0, .slice none 0 0]), (25, .slice (some ⟨s.1, 0, none⟩) 0 0), (27, .slice s.2.1 l.length s.2.2.1), (7, .pointer (some ⟨s.2.2.2.1, 0, none⟩)), (8, .pointer (some ⟨s.2.2.2.2.1, 0, none⟩))]) (fun s w' => SPO w [(A, cz Ka Ha sa A3a n3a c3a A4a n4a c4a A5a n5a c5a, 26), (B, cz Kb Hb sb A3b n3b c3b A4b n4b c4b A5b n5b c5b, 26), (s.2.2.2.1, zq, 26), (s.2.2.2.2.1, zq, 26)] (.slice s.2.1 l.length s.2.2.1) l w') ?_ ?_
             rotate_left
             ·intro hJ1_2_4_9_10
              refine join_ (σ := Nat × Nat × Nat × Nat × Unit) 5 #[true, true, true, true, false, true, true, false, false, true, true, false, false] (fun s => [(24, .agg #[.int .i64 5, .int .i64 0, .string ⟨#[]⟩, .slice PL l.length cL, .slice none 0 0, .slice none 0 0]), (25, .slice (some ⟨s.1, 0, none⟩) 0 0), (29, .slice (some ⟨s.2.1, 0, none⟩) 1 1), (7, .pointer (some ⟨s.2.2.1, 0, none⟩)), (8, .pointer (some ⟨s.2.2.2.1, 0, none⟩))]) (fun s w' => SPO w [(A, cz Ka Ha sa A3a n3a c3a A4a n4a c4a A5a n5a c5a, 26), (B, cz Kb Hb sb A3b n3b c3b A4b n4b c4b A5b n5b c5b, 26), (s.2.1, cz Ka Ha sa A3a n3a c3a A4a n4a c4a A5a n5a c5a, 26), (s.2.2.1, zq, 26), (s.2.2.2.1, zq, 26)] (.slice (some ⟨s.1, 0, none⟩) 0 0) [] w') ?_ ?_
              rotate_left
              ·intro hJ1_2_6_9_10
               refine join_ (σ := Nat × Option Addr × Nat × Nat × Unit) 6 #[true, true, true, true, true, true, true, false, false, false, false, false, false] (fun s => [(24, .agg #[.int .i64 5, .int .i64 0, .string ⟨#[]⟩, .slice PL l.length cL, .slice none 0 0, .slice none 0 0]), (25, .slice (some ⟨s.1, 0, none⟩) 0 0), (27, .slice s.2.1 l.length s.2.2.1), (29, .slice (some ⟨s.2.2.2.1, 0, none⟩) 1 1)]) (fun s w' => SPO w [(A, cz Ka Ha sa A3a n3a c3a A4a n4a c4a A5a n5a c5a, 26), (B, cz Kb Hb sb A3b n3b c3b A4b n4b c4b A5b n5b c5b, 26), (s.2.2.2.1, cz Ka Ha sa A3a n3a c3a A4a n4a c4a A5a n5a c5a, 26)] (.slice s.2.1 l.length s.2.2.1) l w') ?_ ?_
               rotate_left
               ·intro hJ1_2_4_6
                refine join_ (σ := Nat × Option Addr × Nat × Nat × Unit) 6 #[true, true, true, true, true, true, false, false, false, true, false, false, false] (fun s => [(24, .agg #[.int .i64 5, .int .i64 0, .string ⟨#[]⟩, .slice PL l.length cL, .slice none 0 0, .slice none 0 0]), (25, .slice (some ⟨s.1, 0, none⟩) 0 0), (27, .slice s.2.1 l.length s.2.2.1), (7, .pointer (some ⟨s.2.2.2.1, 0, none⟩))]) (fun s w' => SPO w [(A, cz Ka Ha sa A3a n3a c3a A4a n4a c4a A5a n5a c5a, 26), (B, cz Kb Hb sb A3b n3b c3b A4b n4b c4b A5b n5b c5b, 26), (s.2.2.2.1, zq, 26)] (.slice s.2.1 l.length s.2.2.1) l w') ?_ ?_
                rotate_left
                ·intro hJ1_2_4_9
                 refine join_ (σ := Nat × Option Addr × Nat × Nat × Unit) 6 #[true, true, true, true, true, true, false, false, false, false, true, false, false] (fun s => [(24, .agg #[.int .i64 5, .int .i64 0, .string ⟨#[]⟩, .slice PL l.length cL, .slice none 0 0, .slice none 0 0]), (25, .slice (some ⟨s.1, 0, none⟩) 0 0), (27, .slice s.2.1 l.length s.2.2.1), (8, .pointer (some ⟨s.2.2.2.1, 0, none⟩))]) (fun s w' => SPO w [(A, cz Ka Ha sa A3a n3a c3a A4a n4a c4a A5a n5a c5a, 26), (B, cz Kb Hb sb A3b n3b c3b A4b n4b c4b A5b n5b c5b, 26), (s.2.2.2.1, zq, 26)] (.slice s.2.1 l.length s.2.2.1) l w') ?_ ?_
                 rotate_left
                 ·intro hJ1_2_4_10
                  refine join_ (σ := Nat × Nat × Nat × Unit) 6 #[true, true, true, true, false, true, true, false, false, true, false, false, false] (fun s => [(24, .agg #[.int .i64 5, .int .i64 0, .string ⟨#[]⟩, .slice PL l.length cL, .slice none 0 0, .slice none 0 0]), (25, .slice (some ⟨s.1, 0, none⟩) 0 0), (29, .slice (some ⟨s.2.1, 0, none⟩) 1 1), (7, .pointer (some ⟨s.2.2.1, 0, none⟩))]) (fun s w' => SPO w [(A, cz Ka Ha sa A3a n3a c3a A4a n4a c4a A5a n5a c5a, 26), (B, cz Kb Hb sb A3b n3b c3b A4b n4b c4b A5b n5b c5b, 26), (s.2.1, cz Ka Ha sa A3a n3a c3a A4a n4a c4a A5a n5a c5a, 26), (s.2.2.1, zq, 26)] (.slice (some ⟨s.1, 0, none⟩) 0 0) [] w') ?_ ?_
                  rotate_left
                  ·intro hJ1_2_6_9
                   refine join_ (σ := Nat × Nat × Nat × Unit) 6 #[true, true, true, true, false, true, true, false, false, false, true, false, false] (fun s => [(24, .agg #[.int .i64 5, .int .i64 0, .string ⟨#[]⟩, .slice PL l.length cL, .slice none 0 0, .slice none 0 0]), (25, .slice (some ⟨s.1, 0, none⟩) 0 0), (29, .slice (some ⟨s.2.1, 0, none⟩) 1 1), (8, .pointer (some ⟨s.2.2.1, 0, none⟩))]) (fun s w' => SPO w [(A, cz Ka Ha sa A3a n3a c3a A4a n4a c4a A5a n5a c5a, 26), (B, cz Kb Hb sb A3b n3b c3b A4b n4b c4b A5b n5b c5b, 26), (s.2.1, cz Ka Ha sa A3a n3a c3a A4a n4a c4a A5a n5a c5a, 26), (s.2.2.1, zq, 26)] (.slice (some ⟨s.1, 0, none⟩) 0 0) [] w') ?_ ?_
                   rotate_left
                   ·intro hJ1_2_6_10
                    refine join_ (σ := Nat × Nat × Nat × Unit) 6 #[true, true, true, true, false, true, false, false, false, true, true, false, false] (fun s => [(24, .agg #[.int .i64 5, .int .i64 0, .string ⟨#[]⟩, .slice PL l.length cL, .slice none 0 0, .slice none 0 0]), (25, .slice (some ⟨s.1, 0, none⟩) 0 0), (7, .pointer (some ⟨s.2.1, 0, none⟩)), (8, .pointer (some ⟨s.2.2.1, 0, none⟩))]) (fun s w' => SPO w [(A, cz Ka Ha sa A3a n3a c3a A4a n4a c4a A5a n5a c5a, 26), (B, cz Kb Hb sb A3b n3b c3b A4b n4b c4b A5b n5b c5b, 26), (s.2.1, zq, 26), (s.2.2.1, zq, 26)] (.slice (some ⟨s.1, 0, none⟩) 0 0) [] w') ?_ ?_
                    rotate_left
                    ·intro hJ1_2_9_10
                     refine join_ (σ := Nat × Nat × Nat × Unit) 6 #[true, true, false, true, false, true, true, false, false, true, true, false, false] (fun s => [(24, .agg #[.int .i64 5, .int .i64 0, .string ⟨#[]⟩, .slice PL l.length cL, .slice none 0 0, .slice none 0 0]), (29, .slice (some ⟨s.1, 0, none⟩) 1 1), (7, .pointer (some ⟨s.2.1, 0, none⟩)), (8, .pointer (some ⟨s.2.2.1, 0, none⟩))]) (fun s w' => SPO w [(A, cz Ka Ha sa A3a n3a c3a A4a n4a c4a A5a n5a c5a, 26), (B, cz Kb Hb sb A3b n3b c3b A4b n4b c4b A5b n5b c5b, 26), (s.1, cz Ka Ha sa A3a n3a c3a A4a n4a c4a A5a n5a c5a, 26), (s.2.1, zq, 26), (s.2.2.1, zq, 26)] (.slice none 0 0) [] w') ?_ ?_
                     rotate_left
                     ·intro hJ1_6_9_10
                      refine join_ (σ := Nat × Nat × Nat × Nat × Unit) 6 #[true, false, true, true, false, true, true, false, false, true, true, false, false] (fun s => [(25, .slice (some ⟨s.1, 0, none⟩) 0 0), (29, .slice (some ⟨s.2.1, 0, none⟩) 1 1), (7, .pointer (some ⟨s.2.2.1, 0, none⟩)), (8, .pointer (some ⟨s.2.2.2.1, 0, none⟩))]) (fun s w' => SPO w [(A, cz Ka Ha sa A3a n3a c3a A4a n4a c4a A5a n5a c5a, 26), (B, cz Kb Hb sb A3b n3b c3b A4b n4b c4b A5b n5b c5b, 26), (s.2.1, cz Ka Ha sa A3a n3a c3a A4a n4a c4a A5a n5a c5a, 26), (s.2.2.1, zq, 26), (s.2.2.2.1, zq, 26)] (.slice (some ⟨s.1, 0, none⟩) 0 0) [] w') ?_ ?_
                      rotate_left
                      ·intro hJ2_6_9_10
                       refine join_ (σ := Nat × Option Addr × Nat × Unit) 7 #[true, true, true, true, true, true, false, false, false, false, false, false, false] (fun s => [(24, .agg #[.int .i64 5, .int .i64 0, .string ⟨#[]⟩, .slice PL l.length cL, .slice none 0 0, .slice none 0 0]), (25, .slice (some ⟨s.1, 0, none⟩) 0 0), (27, .slice s.2.1 l.length s.2.2.1)]) (fun s w' => SPO w [(A, cz Ka Ha sa A3a n3a c3a A4a n4a c4a A5a n5a c5a, 26), (B, cz Kb Hb sb A3b n3b c3b A4b n4b c4b A5b n5b c5b, 26)] (.slice s.2.1 l.length s.2.2.1) l w') ?_ ?_
                       rotate_left
                       ·intro hJ1_2_4
                        refine join_ (σ := Nat × Nat × Unit) 7 #[true, true, true, true, false, true, true, false, false, false, false, false, false] (fun s => [(24, .agg #[.int .i64 5, .int .i64 0, .string ⟨#[]⟩, .slice PL l.length cL, .slice none 0 0, .slice none 0 0]), (25, .slice (some ⟨s.1, 0, none⟩) 0 0), (29, .slice (some ⟨s.2.1, 0, none⟩) 1 1)]) (fun s w' => SPO w [(A, cz Ka Ha sa A3a n3a c3a A4a n4a c4a A5a n5a c5a, 26), (B, cz Kb Hb sb A3b n3b c3b A4b n4b c4b A5b n5b c5b, 26), (s.2.1, cz Ka Ha sa A3a n3a c3a A4a n4a c4a A5a n5a c5a, 26)] (.slice (some ⟨s.1, 0, none⟩) 0 0) [] w') ?_ ?_
                        rotate_left
                        ·intro hJ1_2_6
                         refine join_ (σ := Nat × Nat × Unit) 7 #[true, true, true, true, false, true, false, false, false, true, false, false, false] (fun s => [(24, .agg #[.int .i64 5, .int .i64 0, .string ⟨#[]⟩, .slice PL l.length cL, .slice none 0 0, .slice none 0 0]), (25, .slice (some ⟨s.1, 0, none⟩) 0 0), (7, .pointer (some ⟨s.2.1, 0, none⟩))]) (fun s w' => SPO w [(A, cz Ka Ha sa A3a n3a c3a A4a n4a c4a A5a n5a c5a, 26), (B, cz Kb Hb sb A3b n3b c3b A4b n4b c4b A5b n5b c5b, 26), (s.2.1, zq, 26)] (.slice (some ⟨s.1, 0, none⟩) 0 0) [] w') ?_ ?_
                         rotate_left
                         ·intro hJ1_2_9
                          refine join_ (σ := Nat × Nat × Unit) 7 #[true, true, true, true, false, true, false, false, false, false, true, false, false] (fun s => [(24, .agg #[.int .i64 5, .int .i64 0, .string ⟨#[]⟩, .slice PL l.length cL, .slice none 0 0, .slice none 0 0]), (25, .slice (some ⟨s.1, 0, none⟩) 0 0), (8, .pointer (some ⟨s.2.1, 0, none⟩))]) (fun s w' => SPO w [(A, cz Ka Ha sa A3a n3a c3a A4a n4a c4a A5a n5a c5a, 26), (B, cz Kb Hb sb A3b n3b c3b A4b n4b c4b A5b n5b c5b, 26), (s.2.1, zq, 26)] (.slice (some ⟨s.1, 0, none⟩) 0 0) [] w') ?_ ?_
                          rotate_left
                          ·intro hJ1_2_10
                           refine join_ (σ := Nat × Nat × Unit) 7 #[true, true, false, true, false, true, true, false, false, true, false, false, false] (fun s => [(24, .agg #[.int .i64 5, .int .i64 0, .string ⟨#[]⟩, .slice PL l.length cL, .slice none 0 0, .slice none 0 0]), (29, .slice (some ⟨s.1, 0, none⟩) 1 1), (7, .pointer (some ⟨s.2.1, 0, none⟩))]) (fun s w' => SPO w [(A, cz Ka Ha sa A3a n3a c3a A4a n4a c4a A5a n5a c5a, 26), (B, cz Kb Hb sb A3b n3b c3b A4b n4b c4b A5b n5b c5b, 26), (s.1, cz Ka Ha sa A3a n3a c3a A4a n4a c4a A5a n5a c5a, 26), (s.2.1, zq, 26)] (.slice none 0 0) [] w') ?_ ?_
                           rotate_left
                           ·intro hJ1_6_9
                            refine join_ (σ := Nat × Nat × Unit) 7 #[true, true, false, true, false, true, true, false, false, false, true, false, false] (fun s => [(24, .agg #[.int .i64 5, .int .i64 0, .string ⟨#[]⟩, .slice PL l.length cL, .slice none 0 0, .slice none 0 0]), (29, .slice (some ⟨s.1, 0, none⟩) 1 1), (8, .pointer (some ⟨s.2.1, 0, none⟩))]) (fun s w' => SPO w [(A, cz Ka Ha sa A3a n3a c3a A4a n4a c4a A5a n5a c5a, 26), (B, cz Kb Hb sb A3b n3b c3b A4b n4b c4b A5b n5b c5b, 26), (s.1, cz Ka Ha sa A3a n3a c3a A4a n4a c4a A5a n5a c5a, 26), (s.2.1, zq, 26)] (.slice none 0 0) [] w') ?_ ?_
                            rotate_left
                            ·intro hJ1_6_10
                             refine join_ (σ := Nat × Nat × Unit) 7 #[true, true, false, true, false, true, false, false, false, true, true, false, false] (fun s => [(24, .agg #[.int .i64 5, .int .i64 0, .string ⟨#[]⟩, .slice PL l.length cL, .slice none 0 0, .slice none 0 0]), (7, .pointer (some ⟨s.1, 0, none⟩)), (8, .pointer (some ⟨s.2.1, 0, none⟩))]) (fun s w' => SPO w [(A, cz Ka Ha sa A3a n3a c3a A4a n4a c4a A5a n5a c5a, 26), (B, cz Kb Hb sb A3b n3b c3b A4b n4b c4b A5b n5b c5b, 26), (s.1, zq, 26), (s.2.1, zq, 26)] (.slice none 0 0) [] w') ?_ ?_
                             rotate_left
                             ·intro hJ1_9_10
                              refine join_ (σ := Nat × Nat × Nat × Unit) 7 #[true, false, true, true, false, true, true, false, false, true, false, false, false] (fun s => [(25, .slice (some ⟨s.1, 0, none⟩) 0 0), (29, .slice (some ⟨s.2.1, 0, none⟩) 1 1), (7, .pointer (some ⟨s.2.2.1, 0, none⟩))]) (fun s w' => SPO w [(A, cz Ka Ha sa A3a n3a c3a A4a n4a c4a A5a n5a c5a, 26), (B, cz Kb Hb sb A3b n3b c3b A4b n4b c4b A5b n5b c5b, 26), (s.2.1, cz Ka Ha sa A3a n3a c3a A4a n4a c4a A5a n5a c5a, 26), (s.2.2.1, zq, 26)] (.slice (some ⟨s.1, 0, none⟩) 0 0) [] w') ?_ ?_
                              rotate_left
                              ·intro hJ2_6_9
                               refine join_ (σ := Nat × Nat × Nat × Unit) 7 #[true, false, true, true, false, true, true, false, false, false, true, false, false] (fun s => [(25, .slice (some ⟨s.1, 0, none⟩) 0 0), (29, .slice (some ⟨s.2.1, 0, none⟩) 1 1), (8, .pointer (some ⟨s.2.2.1, 0, none⟩))]) (fun s w' => SPO w [(A, cz Ka Ha sa A3a n3a c3a A4a n4a c4a A5a n5a c5a, 26), (B, cz Kb Hb sb A3b n3b c3b A4b n4b c4b A5b n5b c5b, 26), (s.2.1, cz Ka Ha sa A3a n3a c3a A4a n4a c4a A5a n5a c5a, 26), (s.2.2.1, zq, 26)] (.slice (some ⟨s.1, 0, none⟩) 0 0) [] w') ?_ ?_
                               rotate_left
                               ·intro hJ2_6_10
                                refine join_ (σ := Nat × Nat × Nat × Unit) 7 #[true, false, true, true, false, true, false, false, false, true, true, false, false] (fun s => [(25, .slice (some ⟨s.1, 0, none⟩) 0 0), (7, .pointer (some ⟨s.2.1, 0, none⟩)), (8, .pointer (some ⟨s.2.2.1, 0, none⟩))]) (fun s w' => SPO w [(A, cz Ka Ha sa A3a n3a c3a A4a n4a c4a A5a n5a c5a, 26), (B, cz Kb Hb sb A3b n3b c3b A4b n4b c4b A5b n5b c5b, 26), (s.2.1, zq, 26), (s.2.2.1, zq, 26)] (.slice (some ⟨s.1, 0, none⟩) 0 0) [] w') ?_ ?_
                                rotate_left
                                ·intro hJ2_9_10
                                 refine join_ (σ := Nat × Nat × Nat × Unit) 7 #[true, false, false, true, false, true, true, false, false, true, true, false, false] (fun s => [(29, .slice (some ⟨s.1, 0, none⟩) 1 1), (7, .pointer (some ⟨s.2.1, 0, none⟩)), (8, .pointer (some ⟨s.2.2.1, 0, none⟩))]) (fun s w' => SPO w [(A, cz Ka Ha sa A3a n3a c3a A4a n4a c4a A5a n5a c5a, 26), (B, cz Kb Hb sb A3b n3b c3b A4b n4b c4b A5b n5b c5b, 26), (s.1, cz Ka Ha sa A3a n3a c3a A4a n4a c4a A5a n5a c5a, 26), (s.2.1, zq, 26), (s.2.2.1, zq, 26)] (.slice none 0 0) [] w') ?_ ?_
                                 rotate_left
                                 ·intro hJ6_9_10
                                  refine join_ (σ := Nat × Unit) 8 #[true, true, true, true, false, true, false, false, false, false, false, false, false] (fun s => [(24, .agg #[.int .i64 5, .int .i64 0, .string ⟨#[]⟩, .slice PL l.length cL, .slice none 0 0, .slice none 0 0]), (25, .slice (some ⟨s.1, 0, none⟩) 0 0)]) (fun s w' => SPO w [(A, cz Ka Ha sa A3a n3a c3a A4a n4a c4a A5a n5a c5a, 26), (B, cz Kb Hb sb A3b n3b c3b A4b n4b c4b A5b n5b c5b, 26)] (.slice (some ⟨s.1, 0, none⟩) 0 0) [] w') ?_ ?_
                                  rotate_left
                                  ·intro hJ1_2
                                   refine join_ (σ := Nat × Unit) 8 #[true, true, false, true, false, true, true, false, false, false, false, false, false] (fun s => [(24, .agg #[.int .i64 5, .int .i64 0, .string ⟨#[]⟩, .slice PL l.length cL, .slice none 0 0, .slice none 0 0]), (29, .slice (some ⟨s.1, 0, none⟩) 1 1)]) (fun s w' => SPO w [(A, cz Ka Ha sa A3a n3a c3a A4a n4a c4a A5a n5a c5a, 26), (B, cz Kb Hb sb A3b n3b c3b A4b n4b c4b A5b n5b c5b, 26), (s.1, cz Ka Ha sa A3a n3a c3a A4a n4a c4a A5a n5a c5a, 26)] (.slice none 0 0) [] w') ?_ ?_
                                   rotate_left
                                   ·intro hJ1_6
                                    refine join_ (σ := Nat × Unit) 8 #[true, true, false, true, false, true, false, false, false, true, false, false, false] (fun s => [(24, .agg #[.int .i64 5, .int .i64 0, .string ⟨#[]⟩, .slice PL l.length cL, .slice none 0 0, .slice none 0 0]), (7, .pointer (some ⟨s.1, 0, none⟩))]) (fun s w' => SPO w [(A, cz Ka Ha sa A3a n3a c3a A4a n4a c4a A5a n5a c5a, 26), (B, cz Kb Hb sb A3b n3b c3b A4b n4b c4b A5b n5b c5b, 26), (s.1, zq, 26)] (.slice none 0 0) [] w') ?_ ?_
                                    rotate_left
                                    ·intro hJ1_9
                                     refine join_ (σ := Nat × Unit) 8 #[true, true, false, true, false, true, false, false, false, false, true, false, false] (fun s => [(24, .agg #[.int .i64 5, .int .i64 0, .string ⟨#[]⟩, .slice PL l.length cL, .slice none 0 0, .slice none 0 0]), (8, .pointer (some ⟨s.1, 0, none⟩))]) (fun s w' => SPO w [(A, cz Ka Ha sa A3a n3a c3a A4a n4a c4a A5a n5a c5a, 26), (B, cz Kb Hb sb A3b n3b c3b A4b n4b c4b A5b n5b c5b, 26), (s.1, zq, 26)] (.slice none 0 0) [] w') ?_ ?_
                                     rotate_left
                                     ·intro hJ1_10
                                      refine join_ (σ := Nat × Nat × Unit) 8 #[true, false, true, true, false, true, true, false, false, false, false, false, false] (fun s => [(25, .slice (some ⟨s.1, 0, none⟩) 0 0), (29, .slice (some ⟨s.2.1, 0, none⟩) 1 1)]) (fun s w' => SPO w [(A, cz Ka Ha sa A3a n3a c3a A4a n4a c4a A5a n5a c5a, 26), (B, cz Kb Hb sb A3b n3b c3b A4b n4b c4b A5b n5b c5b, 26), (s.2.1, cz Ka Ha sa A3a n3a c3a A4a n4a c4a A5a n5a c5a, 26)] (.slice (some ⟨s.1, 0, none⟩) 0 0) [] w') ?_ ?_
                                      rotate_left
                                      ·intro hJ2_6
                                       refine join_ (σ := Nat × Nat × Unit) 8 #[true, false, true, true, false, true, false, false, false, true, false, false, false] (fun s => [(25, .slice (some ⟨s.1, 0, none⟩) 0 0), (7, .pointer (some ⟨s.2.1, 0, none⟩))]) (fun s w' => SPO w [(A, cz Ka Ha sa A3a n3a c3a A4a n4a c4a A5a n5a c5a, 26), (B, cz Kb Hb sb A3b n3b c3b A4b n4b c4b A5b n5b c5b, 26), (s.2.1, zq, 26)] (.slice (some ⟨s.1, 0, none⟩) 0 0) [] w') ?_ ?_
                                       rotate_left
                                       ·intro hJ2_9
                                        refine join_ (σ := Nat × Nat × Unit) 8 #[true, false, true, true, false, true, false, false, false, false, true, false, false] (fun s => [(25, .slice (some ⟨s.1, 0, none⟩) 0 0), (8, .pointer (some ⟨s.2.1, 0, none⟩))]) (fun s w' => SPO w [(A, cz Ka Ha sa A3a n3a c3a A4a n4a c4a A5a n5a c5a, 26), (B, cz Kb Hb sb A3b n3b c3b A4b n4b c4b A5b n5b c5b, 26), (s.2.1, zq, 26)] (.slice (some ⟨s.1, 0, none⟩) 0 0) [] w') ?_ ?_
                                        rotate_left
                                        ·intro hJ2_10
                                         refine join_ (σ := Nat × Nat × Unit) 8 #[true, false, false, true, false, true, true, false, false, true, false, false, false] (fun s => [(29, .slice (some ⟨s.1, 0, none⟩) 1 1), (7, .pointer (some ⟨s.2.1, 0, none⟩))]) (fun s w' => SPO w [(A, cz Ka Ha sa A3a n3a c3a A4a n4a c4a A5a n5a c5a, 26), (B, cz Kb Hb sb A3b n3b c3b A4b n4b c4b A5b n5b c5b, 26), (s.1, cz Ka Ha sa A3a n3a c3a A4a n4a c4a A5a n5a c5a, 26), (s.2.1, zq, 26)] (.slice none 0 0) [] w') ?_ ?_
                                         rotate_left
                                         ·intro hJ6_9
                                          refine join_ (σ := Nat × Nat × Unit) 8 #[true, false, false, true, false, true, true, false, false, false, true, false, false] (fun s => [(29, .slice (some ⟨s.1, 0, none⟩) 1 1), (8, .pointer (some ⟨s.2.1, 0, none⟩))]) (fun s w' => SPO w [(A, cz Ka Ha sa A3a n3a c3a A4a n4a c4a A5a n5a c5a, 26), (B, cz Kb Hb sb A3b n3b c3b A4b n4b c4b A5b n5b c5b, 26), (s.1, cz Ka Ha sa A3a n3a c3a A4a n4a c4a A5a n5a c5a, 26), (s.2.1, zq, 26)] (.slice none 0 0) [] w') ?_ ?_
                                          rotate_left
                                          ·intro hJ6_10
                                           refine join_ (σ := Nat × Nat × Unit) 8 #[true, false, false, true, false, true, false, false, false, true, true, false, false] (fun s => [(7, .pointer (some ⟨s.1, 0, none⟩)), (8, .pointer (some ⟨s.2.1, 0, none⟩))]) (fun s w' => SPO w [(A, cz Ka Ha sa A3a n3a c3a A4a n4a c4a A5a n5a c5a, 26), (B, cz Kb Hb sb A3b n3b c3b A4b n4b c4b A5b n5b c5b, 26), (s.1, zq, 26), (s.2.1, zq, 26)] (.slice none 0 0) [] w') ?_ ?_
                                           rotate_left
                                           ·intro hJ9_10
                                            refine join_ (σ := Unit) 9 #[true, true, false, true, false, true, false, false, false, false, false, false, false] (fun s => [(24, .agg #[.int .i64 5, .int .i64 0, .string ⟨#[]⟩, .slice PL l.length cL, .slice none 0 0, .slice none 0 0])]) (fun s w' => SPO w [(A, cz Ka Ha sa A3a n3a c3a A4a n4a c4a A5a n5a c5a, 26), (B, cz Kb Hb sb A3b n3b c3b A4b n4b c4b A5b n5b c5b, 26)] (.slice none 0 0) [] w') ?_ ?_
                                            rotate_left
                                            ·intro hJ1
                                             refine join_ (σ := Nat × Unit) 9 #[true, false, true, true, false, true, false, false, false, false, false, false, false] (fun s => [(25, .slice (some ⟨s.1, 0, none⟩) 0 0)]) (fun s w' => SPO w [(A, cz Ka Ha sa A3a n3a c3a A4a n4a c4a A5a n5a c5a, 26), (B, cz Kb Hb sb A3b n3b c3b A4b n4b c4b A5b n5b c5b, 26)] (.slice (some ⟨s.1, 0, none⟩) 0 0) [] w') ?_ ?_
                                             rotate_left
                                             ·intro hJ2
                                              refine join_ (σ := Nat × Unit) 9 #[true, false, false, true, false, true, true, false, false, false, false, false, false] (fun s => [(29, .slice (some ⟨s.1, 0, none⟩) 1 1)]) (fun s w' => SPO w [(A, cz Ka Ha sa A3a n3a c3a A4a n4a c4a A5a n5a c5a, 26), (B, cz Kb Hb sb A3b n3b c3b A4b n4b c4b A5b n5b c5b, 26), (s.1, cz Ka Ha sa A3a n3a c3a A4a n4a c4a A5a n5a c5a, 26)] (.slice none 0 0) [] w') ?_ ?_
                                              rotate_left
                                              ·intro hJ6
                                               refine join_ (σ := Nat × Unit) 9 #[true, false, false, true, false, true, false, false, false, true, false, false, false] (fun s => [(7, .pointer (some ⟨s.1, 0, none⟩))]) (fun s w' => SPO w [(A, cz Ka Ha sa A3a n3a c3a A4a n4a c4a A5a n5a c5a, 26), (B, cz Kb Hb sb A3b n3b c3b A4b n4b c4b A5b n5b c5b, 26), (s.1, zq, 26)] (.slice none 0 0) [] w') ?_ ?_
                                               rotate_left
                                               ·intro hJ9
                                                refine join_ (σ := Nat × Unit) 9 #[true, false, false, true, false, true, false, false, false, false, true, false, false] (fun s => [(8, .pointer (some ⟨s.1, 0, none⟩))]) (fun s w' => SPO w [(A, cz Ka Ha sa A3a n3a c3a A4a n4a c4a A5a n5a c5a, 26), (B, cz Kb Hb sb A3b n3b c3b A4b n4b c4b A5b n5b c5b, 26), (s.1, zq, 26)] (.slice none 0 0) [] w') ?_ ?_
                                                rotate_left
                                                ·intro hJ10
                                                 refine five_ (i := 1) (j := 2) (k := 6) (m := 9) (n := 10) (Ni := some 24) (Nj := some 25) (Nk := some 29) (Nm := some 7) (Nn := some 8) #[true, true, false, true, false, true, false, false, false, false, false, false, false] #[true, false, true, true, false, true, false, false, false, false, false, false, false] #[true, false, false, true, false, true, true, false, false, false, false, false, false] #[true, false, false, true, false, true, false, false, false, true, false, false, false] #[true, false, false, true, false, true, false, false, false, false, true, false, false] rfl rfl rfl rfl rfl rfl rfl rfl rfl rfl (by kernel_rfl) (by decide) (by decide) (by decide) (by decide) (by decide) (fun K hK => ?_) (fun K hK => ?_) (fun K hK => ?_) (fun K hK => ?_) (fun K hK => ?_)
                                                 ·skip
                                                  refine goes_ Tryz.func13 (by kernel_rfl) rfl #[.slice PL l.length cL] (by rfl) rfl rfl (by simp only [List.map_toArray, List.map_cons, List.map_nil]; rfl) ?_
                                                  with_reducible refine ((HAR.out PL l.length cL _)).mono ?_
                                                  rintro e wz ⟨rfl, hb⟩
                                                  refine ⟨_, rfl, ?_⟩
                                                  have hz := SPO.below (SPO.start hHeld.2.2.2.2.2.2.2.2.2.2.2.2) hb
                                                  have hzb := SPO.tk 2 hz
                                                  refine hK.out _ _ (HSp _ hzb) (fun hHeld => ?_)
                                                  clear hK K
                                                  refine norm_ (a' := ?_) ?_ ?_
                                                  rotate_left
                                                  ·show Act.put _ (some 24) _ = _
                                                   simp only [Act.put, List.setIfInBounds_toArray, List.set_cons_zero, List.set_cons_succ, i64_w, i32_w]
                                                   rfl
                                                  exact norm_ (by simp only [putAll, Act.put, List.setIfInBounds_toArray, List.set_cons_zero, List.set_cons_succ, World.size_alloc] <;> rfl) (hJ1 (()) _ hz)
                                                 ·skip
                                                  refine slice0O_ (L := [(A, cz Ka Ha sa A3a n3a c3a A4a n4a c4a A5a n5a c5a, 26), (B, cz Kb Hb sb A3b n3b c3b A4b n4b c4b A5b n5b c5b, 26)]) (SPO.spn (SPO.start hHeld.2.2.2.2.2.2.2.2.2.2.2.2)) (by rfl) rfl ?_ ?_
                                                  ·first | (go_simp; done) | (go_simp; rfl)
                                                  intro gp wz hz
                                                  have hzb := SPO.tk 2 hz
                                                  refine hK.out _ _ (HSp _ hzb) (fun hHeld => ?_)
                                                  clear hK K
                                                  refine norm_ (a' := ?_) ?_ ?_
                                                  rotate_left
                                                  ·show Act.put _ (some 25) _ = _
                                                   simp only [Act.put, List.setIfInBounds_toArray, List.set_cons_zero, List.set_cons_succ, i64_w, i32_w]
                                                   rfl
                                                  exact norm_ (by simp only [putAll, Act.put, List.setIfInBounds_toArray, List.set_cons_zero, List.set_cons_succ, World.size_alloc] <;> rfl) (hJ2 (gp, ()) _ hz)
                                                 ·skip
                                                  refine boxO_ (c := #[.int .i64 Ka, .int .i64 Ha, .string sa, .slice A3a n3a c3a, .slice A4a n4a c4a, .slice A5a n5a c5a]) (t := 26) (SPO.start hHeld.2.2.2.2.2.2.2.2.2.2.2.2) (by rfl) rfl ?_ ?_
                                                  ·first | (go_simp; done) | (go_simp; rfl)
                                                  intro Gp wz hz
                                                  have hzb := SPO.tk 2 hz
                                                  refine hK.out _ _ (HSp _ hzb) (fun hHeld => ?_)
                                                  clear hK K
                                                  refine norm_ (a' := ?_) ?_ ?_
                                                  rotate_left
                                                  ·show Act.put _ (some 29) _ = _
                                                   simp only [Act.put, List.setIfInBounds_toArray, List.set_cons_zero, List.set_cons_succ, i64_w, i32_w]
                                                   rfl
                                                  exact norm_ (by simp only [putAll, Act.put, List.setIfInBounds_toArray, List.set_cons_zero, List.set_cons_succ, World.size_alloc] <;> rfl) (hJ6 (Gp, ()) _ hz)
                                                 ·skip
                                                  refine freshO_ (c := #[.int .i64 0, .int .i64 0, .string ⟨#[]⟩, .slice none 0 0, .slice none 0 0, .slice none 0 0]) (t := 26) (SPO.start hHeld.2.2.2.2.2.2.2.2.2.2.2.2) (by rfl) rfl ?_ ?_
                                                  ·first | (go_simp; done) | (go_simp; rfl)
                                                  intro Rp9 wz hz
                                                  have hzb := SPO.tk 2 hz
                                                  refine hK.out _ _ (HSp _ hzb) (fun hHeld => ?_)
                                                  clear hK K
                                                  refine norm_ (a' := ?_) ?_ ?_
                                                  rotate_left
                                                  ·show Act.put _ (some 7) _ = _
                                                   simp only [Act.put, List.setIfInBounds_toArray, List.set_cons_zero, List.set_cons_succ, i64_w, i32_w]
                                                   rfl
                                                  exact norm_ (by simp only [putAll, Act.put, List.setIfInBounds_toArray, List.set_cons_zero, List.set_cons_succ, World.size_alloc] <;> rfl) (hJ9 (Rp9, ()) _ hz)
                                                 ·skip
                                                  refine freshO_ (c := #[.int .i64 0, .int .i64 0, .string ⟨#[]⟩, .slice none 0 0, .slice none 0 0, .slice none 0 0]) (t := 26) (SPO.start hHeld.2.2.2.2.2.2.2.2.2.2.2.2) (by rfl) rfl ?_ ?_
                                                  ·first | (go_simp; done) | (go_simp; rfl)
                                                  intro Rp10 wz hz
                                                  have hzb := SPO.tk 2 hz
                                                  refine hK.out _ _ (HSp _ hzb) (fun hHeld => ?_)
                                                  clear hK K
                                                  refine norm_ (a' := ?_) ?_ ?_
                                                  rotate_left
                                                  ·show Act.put _ (some 8) _ = _
                                                   simp only [Act.put, List.setIfInBounds_toArray, List.set_cons_zero, List.set_cons_succ, i64_w, i32_w]
                                                   rfl
                                                  exact norm_ (by simp only [putAll, Act.put, List.setIfInBounds_toArray, List.set_cons_zero, List.set_cons_succ, World.size_alloc] <;> rfl) (hJ10 (Rp10, ()) _ hz)
                                                ·skip
                                                 rintro ⟨Rp10, _⟩ w' hF
                                                 change SPO w [(A, cz Ka Ha sa A3a n3a c3a A4a n4a c4a A5a n5a c5a, 26), (B, cz Kb Hb sb A3b n3b c3b A4b n4b c4b A5b n5b c5b, 26), (Rp10, zq, 26)] (.slice none 0 0) [] w' at hF
                                                 have hHeld := HSp _ (SPO.tk 2 hF)
                                                 refine norm_ (a' := ?_) ?_ ?_
                                                 rotate_left
                                                 ·simp only [putAll, Act.put, List.setIfInBounds_toArray, List.set_cons_zero, List.set_cons_succ]
                                                  rfl
                                                 refine four_ (i := 1) (j := 2) (k := 6) (m := 9) (Ni := some 24) (Nj := some 25) (Nk := some 29) (Nm := some 7) #[true, true, false, true, false, true, false, false, false, false, true, false, false] #[true, false, true, true, false, true, false, false, false, false, true, false, false] #[true, false, false, true, false, true, true, false, false, false, true, false, false] #[true, false, false, true, false, true, false, false, false, true, true, false, false] rfl rfl rfl rfl rfl rfl rfl rfl (by kernel_rfl) (by decide) (by decide) (by decide) (by decide) (fun K hK => ?_) (fun K hK => ?_) (fun K hK => ?_) (fun K hK => ?_)
                                                 ·skip
                                                  refine goes_ Tryz.func13 (by kernel_rfl) rfl #[.slice PL l.length cL] (by rfl) rfl rfl (by simp only [List.map_toArray, List.map_cons, List.map_nil]; rfl) ?_
                                                  with_reducible refine ((HAR.out PL l.length cL _)).mono ?_
                                                  rintro e wz ⟨rfl, hb⟩
                                                  refine ⟨_, rfl, ?_⟩
                                                  have hz := SPO.below hF hb
                                                  have hzb := SPO.tk 2 hz
                                                  refine hK.out _ _ (HSp _ hzb) (fun hHeld => ?_)
                                                  clear hK K
                                                  refine norm_ (a' := ?_) ?_ ?_
                                                  rotate_left
                                                  ·show Act.put _ (some 24) _ = _
                                                   simp only [Act.put, List.setIfInBounds_toArray, List.set_cons_zero, List.set_cons_succ, i64_w, i32_w]
                                                   rfl
                                                  exact norm_ (by simp only [putAll, Act.put, List.setIfInBounds_toArray, List.set_cons_zero, List.set_cons_succ, World.size_alloc] <;> rfl) (hJ1_10 (Rp10, ()) _ hz)
                                                 ·skip
                                                  refine slice0O_ (L := [(A, cz Ka Ha sa A3a n3a c3a A4a n4a c4a A5a n5a c5a, 26), (B, cz Kb Hb sb A3b n3b c3b A4b n4b c4b A5b n5b c5b, 26), (Rp10, zq, 26)]) (SPO.spn hF) (by rfl) rfl ?_ ?_
                                                  ·first | (go_simp; done) | (go_simp; rfl)
                                                  intro gp wz hz
                                                  have hzb := SPO.tk 2 hz
                                                  refine hK.out _ _ (HSp _ hzb) (fun hHeld => ?_)
                                                  clear hK K
                                                  refine norm_ (a' := ?_) ?_ ?_
                                                  rotate_left
                                                  ·show Act.put _ (some 25) _ = _
                                                   simp only [Act.put, List.setIfInBounds_toArray, List.set_cons_zero, List.set_cons_succ, i64_w, i32_w]
                                                   rfl
                                                  exact norm_ (by simp only [putAll, Act.put, List.setIfInBounds_toArray, List.set_cons_zero, List.set_cons_succ, World.size_alloc] <;> rfl) (hJ2_10 (gp, Rp10, ()) _ hz)
                                                 ·skip
                                                  refine boxO_ (c := #[.int .i64 Ka, .int .i64 Ha, .string sa, .slice A3a n3a c3a, .slice A4a n4a c4a, .slice A5a n5a c5a]) (t := 26) hF (by rfl) rfl ?_ ?_
                                                  ·first | (go_simp; done) | (go_simp; rfl)
                                                  intro Gp wz hz
                                                  have hzb := SPO.tk 2 hz
                                                  refine hK.out _ _ (HSp _ hzb) (fun hHeld => ?_)
                                                  clear hK K
                                                  refine norm_ (a' := ?_) ?_ ?_
                                                  rotate_left
                                                  ·show Act.put _ (some 29) _ = _
                                                   simp only [Act.put, List.setIfInBounds_toArray, List.set_cons_zero, List.set_cons_succ, i64_w, i32_w]
                                                   rfl
                                                  exact norm_ (by simp only [putAll, Act.put, List.setIfInBounds_toArray, List.set_cons_zero, List.set_cons_succ, World.size_alloc] <;> rfl) (hJ6_10 (Gp, Rp10, ()) _ (SPO.prm hz (.cons _ (.cons _ (.swap _ _ _)))))
                                                 ·skip
                                                  refine freshO_ (c := #[.int .i64 0, .int .i64 0, .string ⟨#[]⟩, .slice none 0 0, .slice none 0 0, .slice none 0 0]) (t := 26) hF (by rfl) rfl ?_ ?_
                                                  ·first | (go_simp; done) | (go_simp; rfl)
                                                  intro Rp9 wz hz
                                                  have hzb := SPO.tk 2 hz
                                                  refine hK.out _ _ (HSp _ hzb) (fun hHeld => ?_)
                                                  clear hK K
                                                  refine norm_ (a' := ?_) ?_ ?_
                                                  rotate_left
                                                  ·show Act.put _ (some 7) _ = _
                                                   simp only [Act.put, List.setIfInBounds_toArray, List.set_cons_zero, List.set_cons_succ, i64_w, i32_w]
                                                   rfl
                                                  exact norm_ (by simp only [putAll, Act.put, List.setIfInBounds_toArray, List.set_cons_zero, List.set_cons_succ, World.size_alloc] <;> rfl) (hJ9_10 (Rp9, Rp10, ()) _ (SPO.prm hz (.cons _ (.cons _ (.swap _ _ _)))))
                                               ·skip
                                                rintro ⟨Rp9, _⟩ w' hF
                                                change SPO w [(A, cz Ka Ha sa A3a n3a c3a A4a n4a c4a A5a n5a c5a, 26), (B, cz Kb Hb sb A3b n3b c3b A4b n4b c4b A5b n5b c5b, 26), (Rp9, zq, 26)] (.slice none 0 0) [] w' at hF
                                                have hHeld := HSp _ (SPO.tk 2 hF)
                                                refine norm_ (a' := ?_) ?_ ?_
                                                rotate_left
                                                ·simp only [putAll, Act.put, List.setIfInBounds_toArray, List.set_cons_zero, List.set_cons_succ]
                                                 rfl
                                                refine four_ (i := 1) (j := 2) (k := 6) (m := 10) (Ni := some 24) (Nj := some 25) (Nk := some 29) (Nm := some 8) #[true, true, false, true, false, true, false, false, false, true, false, false, false] #[true, false, true, true, false, true, false, false, false, true, false, false, false] #[true, false, false, true, false, true, true, false, false, true, false, false, false] #[true, false, false, true, false, true, false, false, false, true, true, false, false] rfl rfl rfl rfl rfl rfl rfl rfl (by kernel_rfl) (by decide) (by decide) (by decide) (by decide) (fun K hK => ?_) (fun K hK => ?_) (fun K hK => ?_) (fun K hK => ?_)
                                                ·skip
                                                 refine goes_ Tryz.func13 (by kernel_rfl) rfl #[.slice PL l.length cL] (by rfl) rfl rfl (by simp only [List.map_toArray, List.map_cons, List.map_nil]; rfl) ?_
                                                 with_reducible refine ((HAR.out PL l.length cL _)).mono ?_
                                                 rintro e wz ⟨rfl, hb⟩
                                                 refine ⟨_, rfl, ?_⟩
                                                 have hz := SPO.below hF hb
                                                 have hzb := SPO.tk 2 hz
                                                 refine hK.out _ _ (HSp _ hzb) (fun hHeld => ?_)
                                                 clear hK K
                                                 refine norm_ (a' := ?_) ?_ ?_
                                                 rotate_left
                                                 ·show Act.put _ (some 24) _ = _
                                                  simp only [Act.put, List.setIfInBounds_toArray, List.set_cons_zero, List.set_cons_succ, i64_w, i32_w]
                                                  rfl
                                                 exact norm_ (by simp only [putAll, Act.put, List.setIfInBounds_toArray, List.set_cons_zero, List.set_cons_succ, World.size_alloc] <;> rfl) (hJ1_9 (Rp9, ()) _ hz)
                                                ·skip
                                                 refine slice0O_ (L := [(A, cz Ka Ha sa A3a n3a c3a A4a n4a c4a A5a n5a c5a, 26), (B, cz Kb Hb sb A3b n3b c3b A4b n4b c4b A5b n5b c5b, 26), (Rp9, zq, 26)]) (SPO.spn hF) (by rfl) rfl ?_ ?_
                                                 ·first | (go_simp; done) | (go_simp; rfl)
                                                 intro gp wz hz
                                                 have hzb := SPO.tk 2 hz
                                                 refine hK.out _ _ (HSp _ hzb) (fun hHeld => ?_)
                                                 clear hK K
                                                 refine norm_ (a' := ?_) ?_ ?_
                                                 rotate_left
                                                 ·show Act.put _ (some 25) _ = _
                                                  simp only [Act.put, List.setIfInBounds_toArray, List.set_cons_zero, List.set_cons_succ, i64_w, i32_w]
                                                  rfl
                                                 exact norm_ (by simp only [putAll, Act.put, List.setIfInBounds_toArray, List.set_cons_zero, List.set_cons_succ, World.size_alloc] <;> rfl) (hJ2_9 (gp, Rp9, ()) _ hz)
                                                ·skip
                                                 refine boxO_ (c := #[.int .i64 Ka, .int .i64 Ha, .string sa, .slice A3a n3a c3a, .slice A4a n4a c4a, .slice A5a n5a c5a]) (t := 26) hF (by rfl) rfl ?_ ?_
                                                 ·first | (go_simp; done) | (go_simp; rfl)
                                                 intro Gp wz hz
                                                 have hzb := SPO.tk 2 hz
                                                 refine hK.out _ _ (HSp _ hzb) (fun hHeld => ?_)
                                                 clear hK K
                                                 refine norm_ (a' := ?_) ?_ ?_
                                                 rotate_left
                                                 ·show Act.put _ (some 29) _ = _
                                                  simp only [Act.put, List.setIfInBounds_toArray, List.set_cons_zero, List.set_cons_succ, i64_w, i32_w]
                                                  rfl
                                                 exact norm_ (by simp only [putAll, Act.put, List.setIfInBounds_toArray, List.set_cons_zero, List.set_cons_succ, World.size_alloc] <;> rfl) (hJ6_9 (Gp, Rp9, ()) _ (SPO.prm hz (.cons _ (.cons _ (.swap _ _ _)))))
                                                ·skip
                                                 refine freshO_ (c := #[.int .i64 0, .int .i64 0, .string ⟨#[]⟩, .slice none 0 0, .slice none 0 0, .slice none 0 0]) (t := 26) hF (by rfl) rfl ?_ ?_
                                                 ·first | (go_simp; done) | (go_simp; rfl)
                                                 intro Rp10 wz hz
                                                 have hzb := SPO.tk 2 hz
                                                 refine hK.out _ _ (HSp _ hzb) (fun hHeld => ?_)
                                                 clear hK K
                                                 refine norm_ (a' := ?_) ?_ ?_
                                                 rotate_left
                                                 ·show Act.put _ (some 8) _ = _
                                                  simp only [Act.put, List.setIfInBounds_toArray, List.set_cons_zero, List.set_cons_succ, i64_w, i32_w]
                                                  rfl
                                                 exact norm_ (by simp only [putAll, Act.put, List.setIfInBounds_toArray, List.set_cons_zero, List.set_cons_succ, World.size_alloc] <;> rfl) (hJ9_10 (Rp9, Rp10, ()) _ hz)
                                              ·skip
                                               rintro ⟨Gp, _⟩ w' hF
                                               change SPO w [(A, cz Ka Ha sa A3a n3a c3a A4a n4a c4a A5a n5a c5a, 26), (B, cz Kb Hb sb A3b n3b c3b A4b n4b c4b A5b n5b c5b, 26), (Gp, cz Ka Ha sa A3a n3a c3a A4a n4a c4a A5a n5a c5a, 26)] (.slice none 0 0) [] w' at hF
                                               have hHeld := HSp _ (SPO.tk 2 hF)
                                               refine norm_ (a' := ?_) ?_ ?_
                                               rotate_left
                                               ·simp only [putAll, Act.put, List.setIfInBounds_toArray, List.set_cons_zero, List.set_cons_succ]
                                                rfl
                                               refine four_ (i := 1) (j := 2) (k := 9) (m := 10) (Ni := some 24) (Nj := some 25) (Nk := some 7) (Nm := some 8) #[true, true, false, true, false, true, true, false, false, false, false, false, false] #[true, false, true, true, false, true, true, false, false, false, false, false, false] #[true, false, false, true, false, true, true, false, false, true, false, false, false] #[true, false, false, true, false, true, true, false, false, false, true, false, false] rfl rfl rfl rfl rfl rfl rfl rfl (by kernel_rfl) (by decide) (by decide) (by decide) (by decide) (fun K hK => ?_) (fun K hK => ?_) (fun K hK => ?_) (fun K hK => ?_)
                                               ·skip
                                                refine goes_ Tryz.func13 (by kernel_rfl) rfl #[.slice PL l.length cL] (by rfl) rfl rfl (by simp only [List.map_toArray, List.map_cons, List.map_nil]; rfl) ?_
                                                with_reducible refine ((HAR.out PL l.length cL _)).mono ?_
                                                rintro e wz ⟨rfl, hb⟩
                                                refine ⟨_, rfl, ?_⟩
                                                have hz := SPO.below hF hb
                                                have hzb := SPO.tk 2 hz
                                                refine hK.out _ _ (HSp _ hzb) (fun hHeld => ?_)
                                                clear hK K
                                                refine norm_ (a' := ?_) ?_ ?_
                                                rotate_left
                                                ·show Act.put _ (some 24) _ = _
                                                 simp only [Act.put, List.setIfInBounds_toArray, List.set_cons_zero, List.set_cons_succ, i64_w, i32_w]
                                                 rfl
                                                exact norm_ (by simp only [putAll, Act.put, List.setIfInBounds_toArray, List.set_cons_zero, List.set_cons_succ, World.size_alloc] <;> rfl) (hJ1_6 (Gp, ()) _ hz)
                                               ·skip
                                                refine slice0O_ (L := [(A, cz Ka Ha sa A3a n3a c3a A4a n4a c4a A5a n5a c5a, 26), (B, cz Kb Hb sb A3b n3b c3b A4b n4b c4b A5b n5b c5b, 26), (Gp, cz Ka Ha sa A3a n3a c3a A4a n4a c4a A5a n5a c5a, 26)]) (SPO.spn hF) (by rfl) rfl ?_ ?_
                                                ·first | (go_simp; done) | (go_simp; rfl)
                                                intro gp wz hz
                                                have hzb := SPO.tk 2 hz
                                                refine hK.out _ _ (HSp _ hzb) (fun hHeld => ?_)
                                                clear hK K
                                                refine norm_ (a' := ?_) ?_ ?_
                                                rotate_left
                                                ·show Act.put _ (some 25) _ = _
                                                 simp only [Act.put, List.setIfInBounds_toArray, List.set_cons_zero, List.set_cons_succ, i64_w, i32_w]
                                                 rfl
                                                exact norm_ (by simp only [putAll, Act.put, List.setIfInBounds_toArray, List.set_cons_zero, List.set_cons_succ, World.size_alloc] <;> rfl) (hJ2_6 (gp, Gp, ()) _ hz)
                                               ·skip
                                                refine freshO_ (c := #[.int .i64 0, .int .i64 0, .string ⟨#[]⟩, .slice none 0 0, .slice none 0 0, .slice none 0 0]) (t := 26) hF (by rfl) rfl ?_ ?_
                                                ·first | (go_simp; done) | (go_simp; rfl)
                                                intro Rp9 wz hz
                                                have hzb := SPO.tk 2 hz
                                                refine hK.out _ _ (HSp _ hzb) (fun hHeld => ?_)
                                                clear hK K
                                                refine norm_ (a' := ?_) ?_ ?_
                                                rotate_left
                                                ·show Act.put _ (some 7) _ = _
                                                 simp only [Act.put, List.setIfInBounds_toArray, List.set_cons_zero, List.set_cons_succ, i64_w, i32_w]
                                                 rfl
                                                exact norm_ (by simp only [putAll, Act.put, List.setIfInBounds_toArray, List.set_cons_zero, List.set_cons_succ, World.size_alloc] <;> rfl) (hJ6_9 (Gp, Rp9, ()) _ hz)
                                               ·skip
                                                refine freshO_ (c := #[.int .i64 0, .int .i64 0, .string ⟨#[]⟩, .slice none 0 0, .slice none 0 0, .slice none 0 0]) (t := 26) hF (by rfl) rfl ?_ ?_
                                                ·first | (go_simp; done) | (go_simp; rfl)
                                                intro Rp10 wz hz
                                                have hzb := SPO.tk 2 hz
                                                refine hK.out _ _ (HSp _ hzb) (fun hHeld => ?_)
                                                clear hK K
                                                refine norm_ (a' := ?_) ?_ ?_
                                                rotate_left
                                                ·show Act.put _ (some 8) _ = _
                                                 simp only [Act.put, List.setIfInBounds_toArray, List.set_cons_zero, List.set_cons_succ, i64_w, i32_w]
                                                 rfl
                                                exact norm_ (by simp only [putAll, Act.put, List.setIfInBounds_toArray, List.set_cons_zero, List.set_cons_succ, World.size_alloc] <;> rfl) (hJ6_10 (Gp, Rp10, ()) _ hz)
                                             ·skip
                                              rintro ⟨gp, _⟩ w' hF
                                              change SPO w [(A, cz Ka Ha sa A3a n3a c3a A4a n4a c4a A5a n5a c5a, 26), (B, cz Kb Hb sb A3b n3b c3b A4b n4b c4b A5b n5b c5b, 26)] (.slice (some ⟨gp, 0, none⟩) 0 0) [] w' at hF
                                              have hHeld := HSp _ (SPO.tk 2 hF)
                                              refine norm_ (a' := ?_) ?_ ?_
                                              rotate_left
                                              ·simp only [putAll, Act.put, List.setIfInBounds_toArray, List.set_cons_zero, List.set_cons_succ]
                                               rfl
                                              refine four_ (i := 1) (j := 6) (k := 9) (m := 10) (Ni := some 24) (Nj := some 29) (Nk := some 7) (Nm := some 8) #[true, true, true, true, false, true, false, false, false, false, false, false, false] #[true, false, true, true, false, true, true, false, false, false, false, false, false] #[true, false, true, true, false, true, false, false, false, true, false, false, false] #[true, false, true, true, false, true, false, false, false, false, true, false, false] rfl rfl rfl rfl rfl rfl rfl rfl (by kernel_rfl) (by decide) (by decide) (by decide) (by decide) (fun K hK => ?_) (fun K hK => ?_) (fun K hK => ?_) (fun K hK => ?_)
                                              ·skip
                                               refine goes_ Tryz.func13 (by kernel_rfl) rfl #[.slice PL l.length cL] (by rfl) rfl rfl (by simp only [List.map_toArray, List.map_cons, List.map_nil]; rfl) ?_
                                               with_reducible refine ((HAR.out PL l.length cL _)).mono ?_
                                               rintro e wz ⟨rfl, hb⟩
                                               refine ⟨_, rfl, ?_⟩
                                               have hz := SPO.below hF hb
                                               have hzb := SPO.tk 2 hz
                                               refine hK.out _ _ (HSp _ hzb) (fun hHeld => ?_)
                                               clear hK K
                                               refine norm_ (a' := ?_) ?_ ?_
                                               rotate_left
                                               ·show Act.put _ (some 24) _ = _
                                                simp only [Act.put, List.setIfInBounds_toArray, List.set_cons_zero, List.set_cons_succ, i64_w, i32_w]
                                                rfl
                                               exact norm_ (by simp only [putAll, Act.put, List.setIfInBounds_toArray, List.set_cons_zero, List.set_cons_succ, World.size_alloc] <;> rfl) (hJ1_2 (gp, ()) _ hz)
                                              ·skip
                                               refine boxO_ (c := #[.int .i64 Ka, .int .i64 Ha, .string sa, .slice A3a n3a c3a, .slice A4a n4a c4a, .slice A5a n5a c5a]) (t := 26) hF (by rfl) rfl ?_ ?_
                                               ·first | (go_simp; done) | (go_simp; rfl)
                                               intro Gp wz hz
                                               have hzb := SPO.tk 2 hz
                                               refine hK.out _ _ (HSp _ hzb) (fun hHeld => ?_)
                                               clear hK K
                                               refine norm_ (a' := ?_) ?_ ?_
                                               rotate_left
                                               ·show Act.put _ (some 29) _ = _
                                                simp only [Act.put, List.setIfInBounds_toArray, List.set_cons_zero, List.set_cons_succ, i64_w, i32_w]
                                                rfl
                                               exact norm_ (by simp only [putAll, Act.put, List.setIfInBounds_toArray, List.set_cons_zero, List.set_cons_succ, World.size_alloc] <;> rfl) (hJ2_6 (gp, Gp, ()) _ hz)
                                              ·skip
                                               refine freshO_ (c := #[.int .i64 0, .int .i64 0, .string ⟨#[]⟩, .slice none 0 0, .slice none 0 0, .slice none 0 0]) (t := 26) hF (by rfl) rfl ?_ ?_
                                               ·first | (go_simp; done) | (go_simp; rfl)
                                               intro Rp9 wz hz
                                               have hzb := SPO.tk 2 hz
                                               refine hK.out _ _ (HSp _ hzb) (fun hHeld => ?_)
                                               clear hK K
                                               refine norm_ (a' := ?_) ?_ ?_
                                               rotate_left
                                               ·show Act.put _ (some 7) _ = _
                                                simp only [Act.put, List.setIfInBounds_toArray, List.set_cons_zero, List.set_cons_succ, i64_w, i32_w]
                                                rfl
                                               exact norm_ (by simp only [putAll, Act.put, List.setIfInBounds_toArray, List.set_cons_zero, List.set_cons_succ, World.size_alloc] <;> rfl) (hJ2_9 (gp, Rp9, ()) _ hz)
                                              ·skip
                                               refine freshO_ (c := #[.int .i64 0, .int .i64 0, .string ⟨#[]⟩, .slice none 0 0, .slice none 0 0, .slice none 0 0]) (t := 26) hF (by rfl) rfl ?_ ?_
                                               ·first | (go_simp; done) | (go_simp; rfl)
                                               intro Rp10 wz hz
                                               have hzb := SPO.tk 2 hz
                                               refine hK.out _ _ (HSp _ hzb) (fun hHeld => ?_)
                                               clear hK K
                                               refine norm_ (a' := ?_) ?_ ?_
                                               rotate_left
                                               ·show Act.put _ (some 8) _ = _
                                                simp only [Act.put, List.setIfInBounds_toArray, List.set_cons_zero, List.set_cons_succ, i64_w, i32_w]
                                                rfl
                                               exact norm_ (by simp only [putAll, Act.put, List.setIfInBounds_toArray, List.set_cons_zero, List.set_cons_succ, World.size_alloc] <;> rfl) (hJ2_10 (gp, Rp10, ()) _ hz)
                                            ·skip
                                             rintro ⟨_⟩ w' hF
                                             change SPO w [(A, cz Ka Ha sa A3a n3a c3a A4a n4a c4a A5a n5a c5a, 26), (B, cz Kb Hb sb A3b n3b c3b A4b n4b c4b A5b n5b c5b, 26)] (.slice none 0 0) [] w' at hF
                                             have hHeld := HSp _ (SPO.tk 2 hF)
                                             refine norm_ (a' := ?_) ?_ ?_
                                             rotate_left
                                             ·simp only [putAll, Act.put, List.setIfInBounds_toArray, List.set_cons_zero, List.set_cons_succ]
                                              rfl
                                             refine four_ (i := 2) (j := 6) (k := 9) (m := 10) (Ni := some 25) (Nj := some 29) (Nk := some 7) (Nm := some 8) #[true, true, true, true, false, true, false, false, false, false, false, false, false] #[true, true, false, true, false, true, true, false, false, false, false, false, false] #[true, true, false, true, false, true, false, false, false, true, false, false, false] #[true, true, false, true, false, true, false, false, false, false, true, false, false] rfl rfl rfl rfl rfl rfl rfl rfl (by kernel_rfl) (by decide) (by decide) (by decide) (by decide) (fun K hK => ?_) (fun K hK => ?_) (fun K hK => ?_) (fun K hK => ?_)
                                             ·skip
                                              refine slice0O_ (L := [(A, cz Ka Ha sa A3a n3a c3a A4a n4a c4a A5a n5a c5a, 26), (B, cz Kb Hb sb A3b n3b c3b A4b n4b c4b A5b n5b c5b, 26)]) (SPO.spn hF) (by rfl) rfl ?_ ?_
                                              ·first | (go_simp; done) | (go_simp; rfl)
                                              intro gp wz hz
                                              have hzb := SPO.tk 2 hz
                                              refine hK.out _ _ (HSp _ hzb) (fun hHeld => ?_)
                                              clear hK K
                                              refine norm_ (a' := ?_) ?_ ?_
                                              rotate_left
                                              ·show Act.put _ (some 25) _ = _
                                               simp only [Act.put, List.setIfInBounds_toArray, List.set_cons_zero, List.set_cons_succ, i64_w, i32_w]
                                               rfl
                                              exact norm_ (by simp only [putAll, Act.put, List.setIfInBounds_toArray, List.set_cons_zero, List.set_cons_succ, World.size_alloc] <;> rfl) (hJ1_2 (gp, ()) _ hz)
                                             ·skip
                                              refine boxO_ (c := #[.int .i64 Ka, .int .i64 Ha, .string sa, .slice A3a n3a c3a, .slice A4a n4a c4a, .slice A5a n5a c5a]) (t := 26) hF (by rfl) rfl ?_ ?_
                                              ·first | (go_simp; done) | (go_simp; rfl)
                                              intro Gp wz hz
                                              have hzb := SPO.tk 2 hz
                                              refine hK.out _ _ (HSp _ hzb) (fun hHeld => ?_)
                                              clear hK K
                                              refine norm_ (a' := ?_) ?_ ?_
                                              rotate_left
                                              ·show Act.put _ (some 29) _ = _
                                               simp only [Act.put, List.setIfInBounds_toArray, List.set_cons_zero, List.set_cons_succ, i64_w, i32_w]
                                               rfl
                                              exact norm_ (by simp only [putAll, Act.put, List.setIfInBounds_toArray, List.set_cons_zero, List.set_cons_succ, World.size_alloc] <;> rfl) (hJ1_6 (Gp, ()) _ hz)
                                             ·skip
                                              refine freshO_ (c := #[.int .i64 0, .int .i64 0, .string ⟨#[]⟩, .slice none 0 0, .slice none 0 0, .slice none 0 0]) (t := 26) hF (by rfl) rfl ?_ ?_
                                              ·first | (go_simp; done) | (go_simp; rfl)
                                              intro Rp9 wz hz
                                              have hzb := SPO.tk 2 hz
                                              refine hK.out _ _ (HSp _ hzb) (fun hHeld => ?_)
                                              clear hK K
                                              refine norm_ (a' := ?_) ?_ ?_
                                              rotate_left
                                              ·show Act.put _ (some 7) _ = _
                                               simp only [Act.put, List.setIfInBounds_toArray, List.set_cons_zero, List.set_cons_succ, i64_w, i32_w]
                                               rfl
                                              exact norm_ (by simp only [putAll, Act.put, List.setIfInBounds_toArray, List.set_cons_zero, List.set_cons_succ, World.size_alloc] <;> rfl) (hJ1_9 (Rp9, ()) _ hz)
                                             ·skip
                                              refine freshO_ (c := #[.int .i64 0, .int .i64 0, .string ⟨#[]⟩, .slice none 0 0, .slice none 0 0, .slice none 0 0]) (t := 26) hF (by rfl) rfl ?_ ?_
                                              ·first | (go_simp; done) | (go_simp; rfl)
                                              intro Rp10 wz hz
                                              have hzb := SPO.tk 2 hz
                                              refine hK.out _ _ (HSp _ hzb) (fun hHeld => ?_)
                                              clear hK K
                                              refine norm_ (a' := ?_) ?_ ?_
                                              rotate_left
                                              ·show Act.put _ (some 8) _ = _
                                               simp only [Act.put, List.setIfInBounds_toArray, List.set_cons_zero, List.set_cons_succ, i64_w, i32_w]
                                               rfl
                                              exact norm_ (by simp only [putAll, Act.put, List.setIfInBounds_toArray, List.set_cons_zero, List.set_cons_succ, World.size_alloc] <;> rfl) (hJ1_10 (Rp10, ()) _ hz)
                                           ·skip
                                            rintro ⟨Rp9, Rp10, _⟩ w' hF
                                            change SPO w [(A, cz Ka Ha sa A3a n3a c3a A4a n4a c4a A5a n5a c5a, 26), (B, cz Kb Hb sb A3b n3b c3b A4b n4b c4b A5b n5b c5b, 26), (Rp9, zq, 26), (Rp10, zq, 26)] (.slice none 0 0) [] w' at hF
                                            have hHeld := HSp _ (SPO.tk 2 hF)
                                            refine norm_ (a' := ?_) ?_ ?_
                                            rotate_left
                                            ·simp only [putAll, Act.put, List.setIfInBounds_toArray, List.set_cons_zero, List.set_cons_succ]
                                             rfl
                                            refine three_ (i := 1) (j := 2) (k := 6) (Ni := some 24) (Nj := some 25) (Nk := some 29) #[true, true, false, true, false, true, false, false, false, true, true, false, false] #[true, false, true, true, false, true, false, false, false, true, true, false, false] #[true, false, false, true, false, true, true, false, false, true, true, false, false] rfl rfl rfl rfl rfl rfl (by kernel_rfl) (by decide) (by decide) (by decide) (fun K hK => ?_) (fun K hK => ?_) (fun K hK => ?_)
                                            ·skip
                                             refine goes_ Tryz.func13 (by kernel_rfl) rfl #[.slice PL l.length cL] (by rfl) rfl rfl (by simp only [List.map_toArray, List.map_cons, List.map_nil]; rfl) ?_
                                             with_reducible refine ((HAR.out PL l.length cL _)).mono ?_
                                             rintro e wz ⟨rfl, hb⟩
                                             refine ⟨_, rfl, ?_⟩
                                             have hz := SPO.below hF hb
                                             have hzb := SPO.tk 2 hz
                                             refine hK.out _ _ (HSp _ hzb) (fun hHeld => ?_)
                                             clear hK K
                                             refine norm_ (a' := ?_) ?_ ?_
                                             rotate_left
                                             ·show Act.put _ (some 24) _ = _
                                              simp only [Act.put, List.setIfInBounds_toArray, List.set_cons_zero, List.set_cons_succ, i64_w, i32_w]
                                              rfl
                                             exact norm_ (by simp only [putAll, Act.put, List.setIfInBounds_toArray, List.set_cons_zero, List.set_cons_succ, World.size_alloc] <;> rfl) (hJ1_9_10 (Rp9, Rp10, ()) _ hz)
                                            ·skip
                                             refine slice0O_ (L := [(A, cz Ka Ha sa A3a n3a c3a A4a n4a c4a A5a n5a c5a, 26), (B, cz Kb Hb sb A3b n3b c3b A4b n4b c4b A5b n5b c5b, 26), (Rp9, zq, 26), (Rp10, zq, 26)]) (SPO.spn hF) (by rfl) rfl ?_ ?_
                                             ·first | (go_simp; done) | (go_simp; rfl)
                                             intro gp wz hz
                                             have hzb := SPO.tk 2 hz
                                             refine hK.out _ _ (HSp _ hzb) (fun hHeld => ?_)
                                             clear hK K
                                             refine norm_ (a' := ?_) ?_ ?_
                                             rotate_left
                                             ·show Act.put _ (some 25) _ = _
                                              simp only [Act.put, List.setIfInBounds_toArray, List.set_cons_zero, List.set_cons_succ, i64_w, i32_w]
                                              rfl
                                             exact norm_ (by simp only [putAll, Act.put, List.setIfInBounds_toArray, List.set_cons_zero, List.set_cons_succ, World.size_alloc] <;> rfl) (hJ2_9_10 (gp, Rp9, Rp10, ()) _ hz)
                                            ·skip
                                             refine boxO_ (c := #[.int .i64 Ka, .int .i64 Ha, .string sa, .slice A3a n3a c3a, .slice A4a n4a c4a, .slice A5a n5a c5a]) (t := 26) hF (by rfl) rfl ?_ ?_
                                             ·first | (go_simp; done) | (go_simp; rfl)
                                             intro Gp wz hz
                                             have hzb := SPO.tk 2 hz
                                             refine hK.out _ _ (HSp _ hzb) (fun hHeld => ?_)
                                             clear hK K
                                             refine norm_ (a' := ?_) ?_ ?_
                                             rotate_left
                                             ·show Act.put _ (some 29) _ = _
                                              simp only [Act.put, List.setIfInBounds_toArray, List.set_cons_zero, List.set_cons_succ, i64_w, i32_w]
                                              rfl
                                             exact norm_ (by simp only [putAll, Act.put, List.setIfInBounds_toArray, List.set_cons_zero, List.set_cons_succ, World.size_alloc] <;> rfl) (hJ6_9_10 (Gp, Rp9, Rp10, ()) _ (SPO.prm hz (.cons _ (.cons _ (List.perm_append_comm (l₁ := [_, _]) (l₂ := [_]))))))
                                          ·skip
                                           rintro ⟨Gp, Rp10, _⟩ w' hF
                                           change SPO w [(A, cz Ka Ha sa A3a n3a c3a A4a n4a c4a A5a n5a c5a, 26), (B, cz Kb Hb sb A3b n3b c3b A4b n4b c4b A5b n5b c5b, 26), (Gp, cz Ka Ha sa A3a n3a c3a A4a n4a c4a A5a n5a c5a, 26), (Rp10, zq, 26)] (.slice none 0 0) [] w' at hF
                                           have hHeld := HSp _ (SPO.tk 2 hF)
                                           refine norm_ (a' := ?_) ?_ ?_
                                           rotate_left
                                           ·simp only [putAll, Act.put, List.setIfInBounds_toArray, List.set_cons_zero, List.set_cons_succ]
                                            rfl
                                           refine three_ (i := 1) (j := 2) (k := 9) (Ni := some 24) (Nj := some 25) (Nk := some 7) #[true, true, false, true, false, true, true, false, false, false, true, false, false] #[true, false, true, true, false, true, true, false, false, false, true, false, false] #[true, false, false, true, false, true, true, false, false, true, true, false, false] rfl rfl rfl rfl rfl rfl (by kernel_rfl) (by decide) (by decide) (by decide) (fun K hK => ?_) (fun K hK => ?_) (fun K hK => ?_)
                                           ·skip
                                            refine goes_ Tryz.func13 (by kernel_rfl) rfl #[.slice PL l.length cL] (by rfl) rfl rfl (by simp only [List.map_toArray, List.map_cons, List.map_nil]; rfl) ?_
                                            with_reducible refine ((HAR.out PL l.length cL _)).mono ?_
                                            rintro e wz ⟨rfl, hb⟩
                                            refine ⟨_, rfl, ?_⟩
                                            have hz := SPO.below hF hb
                                            have hzb := SPO.tk 2 hz
                                            refine hK.out _ _ (HSp _ hzb) (fun hHeld => ?_)
                                            clear hK K
                                            refine norm_ (a' := ?_) ?_ ?_
                                            rotate_left
                                            ·show Act.put _ (some 24) _ = _
                                             simp only [Act.put, List.setIfInBounds_toArray, List.set_cons_zero, List.set_cons_succ, i64_w, i32_w]
                                             rfl
                                            exact norm_ (by simp only [putAll, Act.put, List.setIfInBounds_toArray, List.set_cons_zero, List.set_cons_succ, World.size_alloc] <;> rfl) (hJ1_6_10 (Gp, Rp10, ()) _ hz)
                                           ·skip
                                            refine slice0O_ (L := [(A, cz Ka Ha sa A3a n3a c3a A4a n4a c4a A5a n5a c5a, 26), (B, cz Kb Hb sb A3b n3b c3b A4b n4b c4b A5b n5b c5b, 26), (Gp, cz Ka Ha sa A3a n3a c3a A4a n4a c4a A5a n5a c5a, 26), (Rp10, zq, 26)]) (SPO.spn hF) (by rfl) rfl ?_ ?_
                                            ·first | (go_simp; done) | (go_simp; rfl)
                                            intro gp wz hz
                                            have hzb := SPO.tk 2 hz
                                            refine hK.out _ _ (HSp _ hzb) (fun hHeld => ?_)
                                            clear hK K
                                            refine norm_ (a' := ?_) ?_ ?_
                                            rotate_left
                                            ·show Act.put _ (some 25) _ = _
                                             simp only [Act.put, List.setIfInBounds_toArray, List.set_cons_zero, List.set_cons_succ, i64_w, i32_w]
                                             rfl
                                            exact norm_ (by simp only [putAll, Act.put, List.setIfInBounds_toArray, List.set_cons_zero, List.set_cons_succ, World.size_alloc] <;> rfl) (hJ2_6_10 (gp, Gp, Rp10, ()) _ hz)
                                           ·skip
                                            refine freshO_ (c := #[.int .i64 0, .int .i64 0, .string ⟨#[]⟩, .slice none 0 0, .slice none 0 0, .slice none 0 0]) (t := 26) hF (by rfl) rfl ?_ ?_
                                            ·first | (go_simp; done) | (go_simp; rfl)
                                            intro Rp9 wz hz
                                            have hzb := SPO.tk 2 hz
                                            refine hK.out _ _ (HSp _ hzb) (fun hHeld => ?_)
                                            clear hK K
                                            refine norm_ (a' := ?_) ?_ ?_
                                            rotate_left
                                            ·show Act.put _ (some 7) _ = _
                                             simp only [Act.put, List.setIfInBounds_toArray, List.set_cons_zero, List.set_cons_succ, i64_w, i32_w]
                                             rfl
                                            exact norm_ (by simp only [putAll, Act.put, List.setIfInBounds_toArray, List.set_cons_zero, List.set_cons_succ, World.size_alloc] <;> rfl) (hJ6_9_10 (Gp, Rp9, Rp10, ()) _ (SPO.prm hz (.cons _ (.cons _ (.cons _ (.swap _ _ _))))))
                                         ·skip
                                          rintro ⟨Gp, Rp9, _⟩ w' hF
                                          change SPO w [(A, cz Ka Ha sa A3a n3a c3a A4a n4a c4a A5a n5a c5a, 26), (B, cz Kb Hb sb A3b n3b c3b A4b n4b c4b A5b n5b c5b, 26), (Gp, cz Ka Ha sa A3a n3a c3a A4a n4a c4a A5a n5a c5a, 26), (Rp9, zq, 26)] (.slice none 0 0) [] w' at hF
                                          have hHeld := HSp _ (SPO.tk 2 hF)
                                          refine norm_ (a' := ?_) ?_ ?_
                                          rotate_left
                                          ·simp only [putAll, Act.put, List.setIfInBounds_toArray, List.set_cons_zero, List.set_cons_succ]
                                           rfl
                                          refine three_ (i := 1) (j := 2) (k := 10) (Ni := some 24) (Nj := some 25) (Nk := some 8) #[true, true, false, true, false, true, true, false, false, true, false, false, false] #[true, false, true, true, false, true, true, false, false, true, false, false, false] #[true, false, false, true, false, true, true, false, false, true, true, false, false] rfl rfl rfl rfl rfl rfl (by kernel_rfl) (by decide) (by decide) (by decide) (fun K hK => ?_) (fun K hK => ?_) (fun K hK => ?_)
                                          ·skip
                                           refine goes_ Tryz.func13 (by kernel_rfl) rfl #[.slice PL l.length cL] (by rfl) rfl rfl (by simp only [List.map_toArray, List.map_cons, List.map_nil]; rfl) ?_
                                           with_reducible refine ((HAR.out PL l.length cL _)).mono ?_
                                           rintro e wz ⟨rfl, hb⟩
                                           refine ⟨_, rfl, ?_⟩
                                           have hz := SPO.below hF hb
                                           have hzb := SPO.tk 2 hz
                                           refine hK.out _ _ (HSp _ hzb) (fun hHeld => ?_)
                                           clear hK K
                                           refine norm_ (a' := ?_) ?_ ?_
                                           rotate_left
                                           ·show Act.put _ (some 24) _ = _
                                            simp only [Act.put, List.setIfInBounds_toArray, List.set_cons_zero, List.set_cons_succ, i64_w, i32_w]
                                            rfl
                                           exact norm_ (by simp only [putAll, Act.put, List.setIfInBounds_toArray, List.set_cons_zero, List.set_cons_succ, World.size_alloc] <;> rfl) (hJ1_6_9 (Gp, Rp9, ()) _ hz)
                                          ·skip
                                           refine slice0O_ (L := [(A, cz Ka Ha sa A3a n3a c3a A4a n4a c4a A5a n5a c5a, 26), (B, cz Kb Hb sb A3b n3b c3b A4b n4b c4b A5b n5b c5b, 26), (Gp, cz Ka Ha sa A3a n3a c3a A4a n4a c4a A5a n5a c5a, 26), (Rp9, zq, 26)]) (SPO.spn hF) (by rfl) rfl ?_ ?_
                                           ·first | (go_simp; done) | (go_simp; rfl)
                                           intro gp wz hz
                                           have hzb := SPO.tk 2 hz
                                           refine hK.out _ _ (HSp _ hzb) (fun hHeld => ?_)
                                           clear hK K
                                           refine norm_ (a' := ?_) ?_ ?_
                                           rotate_left
                                           ·show Act.put _ (some 25) _ = _
                                            simp only [Act.put, List.setIfInBounds_toArray, List.set_cons_zero, List.set_cons_succ, i64_w, i32_w]
                                            rfl
                                           exact norm_ (by simp only [putAll, Act.put, List.setIfInBounds_toArray, List.set_cons_zero, List.set_cons_succ, World.size_alloc] <;> rfl) (hJ2_6_9 (gp, Gp, Rp9, ()) _ hz)
                                          ·skip
                                           refine freshO_ (c := #[.int .i64 0, .int .i64 0, .string ⟨#[]⟩, .slice none 0 0, .slice none 0 0, .slice none 0 0]) (t := 26) hF (by rfl) rfl ?_ ?_
                                           ·first | (go_simp; done) | (go_simp; rfl)
                                           intro Rp10 wz hz
                                           have hzb := SPO.tk 2 hz
                                           refine hK.out _ _ (HSp _ hzb) (fun hHeld => ?_)
                                           clear hK K
                                           refine norm_ (a' := ?_) ?_ ?_
                                           rotate_left
                                           ·show Act.put _ (some 8) _ = _
                                            simp only [Act.put, List.setIfInBounds_toArray, List.set_cons_zero, List.set_cons_succ, i64_w, i32_w]
                                            rfl
                                           exact norm_ (by simp only [putAll, Act.put, List.setIfInBounds_toArray, List.set_cons_zero, List.set_cons_succ, World.size_alloc] <;> rfl) (hJ6_9_10 (Gp, Rp9, Rp10, ()) _ hz)
                                        ·skip
                                         rintro ⟨gp, Rp10, _⟩ w' hF
                                         change SPO w [(A, cz Ka Ha sa A3a n3a c3a A4a n4a c4a A5a n5a c5a, 26), (B, cz Kb Hb sb A3b n3b c3b A4b n4b c4b A5b n5b c5b, 26), (Rp10, zq, 26)] (.slice (some ⟨gp, 0, none⟩) 0 0) [] w' at hF
                                         have hHeld := HSp _ (SPO.tk 2 hF)
                                         refine norm_ (a' := ?_) ?_ ?_
                                         rotate_left
                                         ·simp only [putAll, Act.put, List.setIfInBounds_toArray, List.set_cons_zero, List.set_cons_succ]
                                          rfl
                                         refine three_ (i := 1) (j := 6) (k := 9) (Ni := some 24) (Nj := some 29) (Nk := some 7) #[true, true, true, true, false, true, false, false, false, false, true, false, false] #[true, false, true, true, false, true, true, false, false, false, true, false, false] #[true, false, true, true, false, true, false, false, false, true, true, false, false] rfl rfl rfl rfl rfl rfl (by kernel_rfl) (by decide) (by decide) (by decide) (fun K hK => ?_) (fun K hK => ?_) (fun K hK => ?_)
                                         ·skip
                                          refine goes_ Tryz.func13 (by kernel_rfl) rfl #[.slice PL l.length cL] (by rfl) rfl rfl (by simp only [List.map_toArray, List.map_cons, List.map_nil]; rfl) ?_
                                          with_reducible refine ((HAR.out PL l.length cL _)).mono ?_
                                          rintro e wz ⟨rfl, hb⟩
                                          refine ⟨_, rfl, ?_⟩
                                          have hz := SPO.below hF hb
                                          have hzb := SPO.tk 2 hz
                                          refine hK.out _ _ (HSp _ hzb) (fun hHeld => ?_)
                                          clear hK K
                                          refine norm_ (a' := ?_) ?_ ?_
                                          rotate_left
                                          ·show Act.put _ (some 24) _ = _
                                           simp only [Act.put, List.setIfInBounds_toArray, List.set_cons_zero, List.set_cons_succ, i64_w, i32_w]
                                           rfl
                                          exact norm_ (by simp only [putAll, Act.put, List.setIfInBounds_toArray, List.set_cons_zero, List.set_cons_succ, World.size_alloc] <;> rfl) (hJ1_2_10 (gp, Rp10, ()) _ hz)
                                         ·skip
                                          refine boxO_ (c := #[.int .i64 Ka, .int .i64 Ha, .string sa, .slice A3a n3a c3a, .slice A4a n4a c4a, .slice A5a n5a c5a]) (t := 26) hF (by rfl) rfl ?_ ?_
                                          ·first | (go_simp; done) | (go_simp; rfl)
                                          intro Gp wz hz
                                          have hzb := SPO.tk 2 hz
                                          refine hK.out _ _ (HSp _ hzb) (fun hHeld => ?_)
                                          clear hK K
                                          refine norm_ (a' := ?_) ?_ ?_
                                          rotate_left
                                          ·show Act.put _ (some 29) _ = _
                                           simp only [Act.put, List.setIfInBounds_toArray, List.set_cons_zero, List.set_cons_succ, i64_w, i32_w]
                                           rfl
                                          exact norm_ (by simp only [putAll, Act.put, List.setIfInBounds_toArray, List.set_cons_zero, List.set_cons_succ, World.size_alloc] <;> rfl) (hJ2_6_10 (gp, Gp, Rp10, ()) _ (SPO.prm hz (.cons _ (.cons _ (.swap _ _ _)))))
                                         ·skip
                                          refine freshO_ (c := #[.int .i64 0, .int .i64 0, .string ⟨#[]⟩, .slice none 0 0, .slice none 0 0, .slice none 0 0]) (t := 26) hF (by rfl) rfl ?_ ?_
                                          ·first | (go_simp; done) | (go_simp; rfl)
                                          intro Rp9 wz hz
                                          have hzb := SPO.tk 2 hz
                                          refine hK.out _ _ (HSp _ hzb) (fun hHeld => ?_)
                                          clear hK K
                                          refine norm_ (a' := ?_) ?_ ?_
                                          rotate_left
                                          ·show Act.put _ (some 7) _ = _
                                           simp only [Act.put, List.setIfInBounds_toArray, List.set_cons_zero, List.set_cons_succ, i64_w, i32_w]
                                           rfl
                                          exact norm_ (by simp only [putAll, Act.put, List.setIfInBounds_toArray, List.set_cons_zero, List.set_cons_succ, World.size_alloc] <;> rfl) (hJ2_9_10 (gp, Rp9, Rp10, ()) _ (SPO.prm hz (.cons _ (.cons _ (.swap _ _ _)))))
                                       ·skip
                                        rintro ⟨gp, Rp9, _⟩ w' hF
                                        change SPO w [(A, cz Ka Ha sa A3a n3a c3a A4a n4a c4a A5a n5a c5a, 26), (B, cz Kb Hb sb A3b n3b c3b A4b n4b c4b A5b n5b c5b, 26), (Rp9, zq, 26)] (.slice (some ⟨gp, 0, none⟩) 0 0) [] w' at hF
                                        have hHeld := HSp _ (SPO.tk 2 hF)
                                        refine norm_ (a' := ?_) ?_ ?_
                                        rotate_left
                                        ·simp only [putAll, Act.put, List.setIfInBounds_toArray, List.set_cons_zero, List.set_cons_succ]
                                         rfl
                                        refine three_ (i := 1) (j := 6) (k := 10) (Ni := some 24) (Nj := some 29) (Nk := some 8) #[true, true, true, true, false, true, false, false, false, true, false, false, false] #[true, false, true, true, false, true, true, false, false, true, false, false, false] #[true, false, true, true, false, true, false, false, false, true, true, false, false] rfl rfl rfl rfl rfl rfl (by kernel_rfl) (by decide) (by decide) (by decide) (fun K hK => ?_) (fun K hK => ?_) (fun K hK => ?_)
                                        ·skip
                                         refine goes_ Tryz.func13 (by kernel_rfl) rfl #[.slice PL l.length cL] (by rfl) rfl rfl (by simp only [List.map_toArray, List.map_cons, List.map_nil]; rfl) ?_
                                         with_reducible refine ((HAR.out PL l.length cL _)).mono ?_
                                         rintro e wz ⟨rfl, hb⟩
                                         refine ⟨_, rfl, ?_⟩
                                         have hz := SPO.below hF hb
                                         have hzb := SPO.tk 2 hz
                                         refine hK.out _ _ (HSp _ hzb) (fun hHeld => ?_)
                                         clear hK K
                                         refine norm_ (a' := ?_) ?_ ?_
                                         rotate_left
                                         ·show Act.put _ (some 24) _ = _
                                          simp only [Act.put, List.setIfInBounds_toArray, List.set_cons_zero, List.set_cons_succ, i64_w, i32_w]
                                          rfl
                                         exact norm_ (by simp only [putAll, Act.put, List.setIfInBounds_toArray, List.set_cons_zero, List.set_cons_succ, World.size_alloc] <;> rfl) (hJ1_2_9 (gp, Rp9, ()) _ hz)
                                        ·skip
                                         refine boxO_ (c := #[.int .i64 Ka, .int .i64 Ha, .string sa, .slice A3a n3a c3a, .slice A4a n4a c4a, .slice A5a n5a c5a]) (t := 26) hF (by rfl) rfl ?_ ?_
                                         ·first | (go_simp; done) | (go_simp; rfl)
                                         intro Gp wz hz
                                         have hzb := SPO.tk 2 hz
                                         refine hK.out _ _ (HSp _ hzb) (fun hHeld => ?_)
                                         clear hK K
                                         refine norm_ (a' := ?_) ?_ ?_
                                         rotate_left
                                         ·show Act.put _ (some 29) _ = _
                                          simp only [Act.put, List.setIfInBounds_toArray, List.set_cons_zero, List.set_cons_succ, i64_w, i32_w]
                                          rfl
                                         exact norm_ (by simp only [putAll, Act.put, List.setIfInBounds_toArray, List.set_cons_zero, List.set_cons_succ, World.size_alloc] <;> rfl) (hJ2_6_9 (gp, Gp, Rp9, ()) _ (SPO.prm hz (.cons _ (.cons _ (.swap _ _ _)))))
                                        ·skip
                                         refine freshO_ (c := #[.int .i64 0, .int .i64 0, .string ⟨#[]⟩, .slice none 0 0, .slice none 0 0, .slice none 0 0]) (t := 26) hF (by rfl) rfl ?_ ?_
                                         ·first | (go_simp; done) | (go_simp; rfl)
                                         intro Rp10 wz hz
                                         have hzb := SPO.tk 2 hz
                                         refine hK.out _ _ (HSp _ hzb) (fun hHeld => ?_)
                                         clear hK K
                                         refine norm_ (a' := ?_) ?_ ?_
                                         rotate_left
                                         ·show Act.put _ (some 8) _ = _
                                          simp only [Act.put, List.setIfInBounds_toArray, List.set_cons_zero, List.set_cons_succ, i64_w, i32_w]
                                          rfl
                                         exact norm_ (by simp only [putAll, Act.put, List.setIfInBounds_toArray, List.set_cons_zero, List.set_cons_succ, World.size_alloc] <;> rfl) (hJ2_9_10 (gp, Rp9, Rp10, ()) _ hz)
                                      ·skip
                                       rintro ⟨gp, Gp, _⟩ w' hF
                                       change SPO w [(A, cz Ka Ha sa A3a n3a c3a A4a n4a c4a A5a n5a c5a, 26), (B, cz Kb Hb sb A3b n3b c3b A4b n4b c4b A5b n5b c5b, 26), (Gp, cz Ka Ha sa A3a n3a c3a A4a n4a c4a A5a n5a c5a, 26)] (.slice (some ⟨gp, 0, none⟩) 0 0) [] w' at hF
                                       have hHeld := HSp _ (SPO.tk 2 hF)
                                       refine norm_ (a' := ?_) ?_ ?_
                                       rotate_left
                                       ·simp only [putAll, Act.put, List.setIfInBounds_toArray, List.set_cons_zero, List.set_cons_succ]
                                        rfl
                                       refine three_ (i := 1) (j := 9) (k := 10) (Ni := some 24) (Nj := some 7) (Nk := some 8) #[true, true, true, true, false, true, true, false, false, false, false, false, false] #[true, false, true, true, false, true, true, false, false, true, false, false, false] #[true, false, true, true, false, true, true, false, false, false, true, false, false] rfl rfl rfl rfl rfl rfl (by kernel_rfl) (by decide) (by decide) (by decide) (fun K hK => ?_) (fun K hK => ?_) (fun K hK => ?_)
                                       ·skip
                                        refine goes_ Tryz.func13 (by kernel_rfl) rfl #[.slice PL l.length cL] (by rfl) rfl rfl (by simp only [List.map_toArray, List.map_cons, List.map_nil]; rfl) ?_
                                        with_reducible refine ((HAR.out PL l.length cL _)).mono ?_
                                        rintro e wz ⟨rfl, hb⟩
                                        refine ⟨_, rfl, ?_⟩
                                        have hz := SPO.below hF hb
                                        have hzb := SPO.tk 2 hz
                                        refine hK.out _ _ (HSp _ hzb) (fun hHeld => ?_)
                                        clear hK K
                                        refine norm_ (a' := ?_) ?_ ?_
                                        rotate_left
                                        ·show Act.put _ (some 24) _ = _
                                         simp only [Act.put, List.setIfInBounds_toArray, List.set_cons_zero, List.set_cons_succ, i64_w, i32_w]
                                         rfl
                                        exact norm_ (by simp only [putAll, Act.put, List.setIfInBounds_toArray, List.set_cons_zero, List.set_cons_succ, World.size_alloc] <;> rfl) (hJ1_2_6 (gp, Gp, ()) _ hz)
                                       ·skip
                                        refine freshO_ (c := #[.int .i64 0, .int .i64 0, .string ⟨#[]⟩, .slice none 0 0, .slice none 0 0, .slice none 0 0]) (t := 26) hF (by rfl) rfl ?_ ?_
                                        ·first | (go_simp; done) | (go_simp; rfl)
                                        intro Rp9 wz hz
                                        have hzb := SPO.tk 2 hz
                                        refine hK.out _ _ (HSp _ hzb) (fun hHeld => ?_)
                                        clear hK K
                                        refine norm_ (a' := ?_) ?_ ?_
                                        rotate_left
                                        ·show Act.put _ (some 7) _ = _
                                         simp only [Act.put, List.setIfInBounds_toArray, List.set_cons_zero, List.set_cons_succ, i64_w, i32_w]
                                         rfl
                                        exact norm_ (by simp only [putAll, Act.put, List.setIfInBounds_toArray, List.set_cons_zero, List.set_cons_succ, World.size_alloc] <;> rfl) (hJ2_6_9 (gp, Gp, Rp9, ()) _ hz)
                                       ·skip
                                        refine freshO_ (c := #[.int .i64 0, .int .i64 0, .string ⟨#[]⟩, .slice none 0 0, .slice none 0 0, .slice none 0 0]) (t := 26) hF (by rfl) rfl ?_ ?_
                                        ·first | (go_simp; done) | (go_simp; rfl)
                                        intro Rp10 wz hz
                                        have hzb := SPO.tk 2 hz
                                        refine hK.out _ _ (HSp _ hzb) (fun hHeld => ?_)
                                        clear hK K
                                        refine norm_ (a' := ?_) ?_ ?_
                                        rotate_left
                                        ·show Act.put _ (some 8) _ = _
                                         simp only [Act.put, List.setIfInBounds_toArray, List.set_cons_zero, List.set_cons_succ, i64_w, i32_w]
                                         rfl
                                        exact norm_ (by simp only [putAll, Act.put, List.setIfInBounds_toArray, List.set_cons_zero, List.set_cons_succ, World.size_alloc] <;> rfl) (hJ2_6_10 (gp, Gp, Rp10, ()) _ hz)
                                     ·skip
                                      rintro ⟨Rp10, _⟩ w' hF
                                      change SPO w [(A, cz Ka Ha sa A3a n3a c3a A4a n4a c4a A5a n5a c5a, 26), (B, cz Kb Hb sb A3b n3b c3b A4b n4b c4b A5b n5b c5b, 26), (Rp10, zq, 26)] (.slice none 0 0) [] w' at hF
                                      have hHeld := HSp _ (SPO.tk 2 hF)
                                      refine norm_ (a' := ?_) ?_ ?_
                                      rotate_left
                                      ·simp only [putAll, Act.put, List.setIfInBounds_toArray, List.set_cons_zero, List.set_cons_succ]
                                       rfl
                                      refine three_ (i := 2) (j := 6) (k := 9) (Ni := some 25) (Nj := some 29) (Nk := some 7) #[true, true, true, true, false, true, false, false, false, false, true, false, false] #[true, true, false, true, false, true, true, false, false, false, true, false, false] #[true, true, false, true, false, true, false, false, false, true, true, false, false] rfl rfl rfl rfl rfl rfl (by kernel_rfl) (by decide) (by decide) (by decide) (fun K hK => ?_) (fun K hK => ?_) (fun K hK => ?_)
                                      ·skip
                                       refine slice0O_ (L := [(A, cz Ka Ha sa A3a n3a c3a A4a n4a c4a A5a n5a c5a, 26), (B, cz Kb Hb sb A3b n3b c3b A4b n4b c4b A5b n5b c5b, 26), (Rp10, zq, 26)]) (SPO.spn hF) (by rfl) rfl ?_ ?_
                                       ·first | (go_simp; done) | (go_simp; rfl)
                                       intro gp wz hz
                                       have hzb := SPO.tk 2 hz
                                       refine hK.out _ _ (HSp _ hzb) (fun hHeld => ?_)
                                       clear hK K
                                       refine norm_ (a' := ?_) ?_ ?_
                                       rotate_left
                                       ·show Act.put _ (some 25) _ = _
                                        simp only [Act.put, List.setIfInBounds_toArray, List.set_cons_zero, List.set_cons_succ, i64_w, i32_w]
                                        rfl
                                       exact norm_ (by simp only [putAll, Act.put, List.setIfInBounds_toArray, List.set_cons_zero, List.set_cons_succ, World.size_alloc] <;> rfl) (hJ1_2_10 (gp, Rp10, ()) _ hz)
                                      ·skip
                                       refine boxO_ (c := #[.int .i64 Ka, .int .i64 Ha, .string sa, .slice A3a n3a c3a, .slice A4a n4a c4a, .slice A5a n5a c5a]) (t := 26) hF (by rfl) rfl ?_ ?_
                                       ·first | (go_simp; done) | (go_simp; rfl)
                                       intro Gp wz hz
                                       have hzb := SPO.tk 2 hz
                                       refine hK.out _ _ (HSp _ hzb) (fun hHeld => ?_)
                                       clear hK K
                                       refine norm_ (a' := ?_) ?_ ?_
                                       rotate_left
                                       ·show Act.put _ (some 29) _ = _
                                        simp only [Act.put, List.setIfInBounds_toArray, List.set_cons_zero, List.set_cons_succ, i64_w, i32_w]
                                        rfl
                                       exact norm_ (by simp only [putAll, Act.put, List.setIfInBounds_toArray, List.set_cons_zero, List.set_cons_succ, World.size_alloc] <;> rfl) (hJ1_6_10 (Gp, Rp10, ()) _ (SPO.prm hz (.cons _ (.cons _ (.swap _ _ _)))))
                                      ·skip
                                       refine freshO_ (c := #[.int .i64 0, .int .i64 0, .string ⟨#[]⟩, .slice none 0 0, .slice none 0 0, .slice none 0 0]) (t := 26) hF (by rfl) rfl ?_ ?_
                                       ·first | (go_simp; done) | (go_simp; rfl)
                                       intro Rp9 wz hz
                                       have hzb := SPO.tk 2 hz
                                       refine hK.out _ _ (HSp _ hzb) (fun hHeld => ?_)
                                       clear hK K
                                       refine norm_ (a' := ?_) ?_ ?_
                                       rotate_left
                                       ·show Act.put _ (some 7) _ = _
                                        simp only [Act.put, List.setIfInBounds_toArray, List.set_cons_zero, List.set_cons_succ, i64_w, i32_w]
                                        rfl
                                       exact norm_ (by simp only [putAll, Act.put, List.setIfInBounds_toArray, List.set_cons_zero, List.set_cons_succ, World.size_alloc] <;> rfl) (hJ1_9_10 (Rp9, Rp10, ()) _ (SPO.prm hz (.cons _ (.cons _ (.swap _ _ _)))))
                                    ·skip
                                     rintro ⟨Rp9, _⟩ w' hF
                                     change SPO w [(A, cz Ka Ha sa A3a n3a c3a A4a n4a c4a A5a n5a c5a, 26), (B, cz Kb Hb sb A3b n3b c3b A4b n4b c4b A5b n5b c5b, 26), (Rp9, zq, 26)] (.slice none 0 0) [] w' at hF
                                     have hHeld := HSp _ (SPO.tk 2 hF)
                                     refine norm_ (a' := ?_) ?_ ?_
                                     rotate_left
                                     ·simp only [putAll, Act.put, List.setIfInBounds_toArray, List.set_cons_zero, List.set_cons_succ]
                                      rfl
                                     refine three_ (i := 2) (j := 6) (k := 10) (Ni := some 25) (Nj := some 29) (Nk := some 8) #[true, true, true, true, false, true, false, false, false, true, false, false, false] #[true, true, false, true, false, true, true, false, false, true, false, false, false] #[true, true, false, true, false, true, false, false, false, true, true, false, false] rfl rfl rfl rfl rfl rfl (by kernel_rfl) (by decide) (by decide) (by decide) (fun K hK => ?_) (fun K hK => ?_) (fun K hK => ?_)
                                     ·skip
                                      refine slice0O_ (L := [(A, cz Ka Ha sa A3a n3a c3a A4a n4a c4a A5a n5a c5a, 26), (B, cz Kb Hb sb A3b n3b c3b A4b n4b c4b A5b n5b c5b, 26), (Rp9, zq, 26)]) (SPO.spn hF) (by rfl) rfl ?_ ?_
                                      ·first | (go_simp; done) | (go_simp; rfl)
                                      intro gp wz hz
                                      have hzb := SPO.tk 2 hz
                                      refine hK.out _ _ (HSp _ hzb) (fun hHeld => ?_)
                                      clear hK K
                                      refine norm_ (a' := ?_) ?_ ?_
                                      rotate_left
                                      ·show Act.put _ (some 25) _ = _
                                       simp only [Act.put, List.setIfInBounds_toArray, List.set_cons_zero, List.set_cons_succ, i64_w, i32_w]
                                       rfl
                                      exact norm_ (by simp only [putAll, Act.put, List.setIfInBounds_toArray, List.set_cons_zero, List.set_cons_succ, World.size_alloc] <;> rfl) (hJ1_2_9 (gp, Rp9, ()) _ hz)
                                     ·skip
                                      refine boxO_ (c := #[.int .i64 Ka, .int .i64 Ha, .string sa, .slice A3a n3a c3a, .slice A4a n4a c4a, .slice A5a n5a c5a]) (t := 26) hF (by rfl) rfl ?_ ?_
                                      ·first | (go_simp; done) | (go_simp; rfl)
                                      intro Gp wz hz
                                      have hzb := SPO.tk 2 hz
                                      refine hK.out _ _ (HSp _ hzb) (fun hHeld => ?_)
                                      clear hK K
                                      refine norm_ (a' := ?_) ?_ ?_
                                      rotate_left
                                      ·show Act.put _ (some 29) _ = _
                                       simp only [Act.put, List.setIfInBounds_toArray, List.set_cons_zero, List.set_cons_succ, i64_w, i32_w]
                                       rfl
                                      exact norm_ (by simp only [putAll, Act.put, List.setIfInBounds_toArray, List.set_cons_zero, List.set_cons_succ, World.size_alloc] <;> rfl) (hJ1_6_9 (Gp, Rp9, ()) _ (SPO.prm hz (.cons _ (.cons _ (.swap _ _ _)))))
                                     ·skip
                                      refine freshO_ (c := #[.int .i64 0, .int .i64 0, .string ⟨#[]⟩, .slice none 0 0, .slice none 0 0, .slice none 0 0]) (t := 26) hF (by rfl) rfl ?_ ?_
                                      ·first | (go_simp; done) | (go_simp; rfl)
                                      intro Rp10 wz hz
                                      have hzb := SPO.tk 2 hz
                                      refine hK.out _ _ (HSp _ hzb) (fun hHeld => ?_)
                                      clear hK K
                                      refine norm_ (a' := ?_) ?_ ?_
                                      rotate_left
                                      ·show Act.put _ (some 8) _ = _
                                       simp only [Act.put, List.setIfInBounds_toArray, List.set_cons_zero, List.set_cons_succ, i64_w, i32_w]
                                       rfl
                                      exact norm_ (by simp only [putAll, Act.put, List.setIfInBounds_toArray, List.set_cons_zero, List.set_cons_succ, World.size_alloc] <;> rfl) (hJ1_9_10 (Rp9, Rp10, ()) _ hz)
                                   ·skip
                                    rintro ⟨Gp, _⟩ w' hF
                                    change SPO w [(A, cz Ka Ha sa A3a n3a c3a A4a n4a c4a A5a n5a c5a, 26), (B, cz Kb Hb sb A3b n3b c3b A4b n4b c4b A5b n5b c5b, 26), (Gp, cz Ka Ha sa A3a n3a c3a A4a n4a c4a A5a n5a c5a, 26)] (.slice none 0 0) [] w' at hF
                                    have hHeld := HSp _ (SPO.tk 2 hF)
                                    refine norm_ (a' := ?_) ?_ ?_
                                    rotate_left
                                    ·simp only [putAll, Act.put, List.setIfInBounds_toArray, List.set_cons_zero, List.set_cons_succ]
                                     rfl
                                    refine three_ (i := 2) (j := 9) (k := 10) (Ni := some 25) (Nj := some 7) (Nk := some 8) #[true, true, true, true, false, true, true, false, false, false, false, false, false] #[true, true, false, true, false, true, true, false, false, true, false, false, false] #[true, true, false, true, false, true, true, false, false, false, true, false, false] rfl rfl rfl rfl rfl rfl (by kernel_rfl) (by decide) (by decide) (by decide) (fun K hK => ?_) (fun K hK => ?_) (fun K hK => ?_)
                                    ·skip
                                     refine slice0O_ (L := [(A, cz Ka Ha sa A3a n3a c3a A4a n4a c4a A5a n5a c5a, 26), (B, cz Kb Hb sb A3b n3b c3b A4b n4b c4b A5b n5b c5b, 26), (Gp, cz Ka Ha sa A3a n3a c3a A4a n4a c4a A5a n5a c5a, 26)]) (SPO.spn hF) (by rfl) rfl ?_ ?_
                                     ·first | (go_simp; done) | (go_simp; rfl)
                                     intro gp wz hz
                                     have hzb := SPO.tk 2 hz
                                     refine hK.out _ _ (HSp _ hzb) (fun hHeld => ?_)
                                     clear hK K
                                     refine norm_ (a' := ?_) ?_ ?_
                                     rotate_left
                                     ·show Act.put _ (some 25) _ = _
                                      simp only [Act.put, List.setIfInBounds_toArray, List.set_cons_zero, List.set_cons_succ, i64_w, i32_w]
                                      rfl
                                     exact norm_ (by simp only [putAll, Act.put, List.setIfInBounds_toArray, List.set_cons_zero, List.set_cons_succ, World.size_alloc] <;> rfl) (hJ1_2_6 (gp, Gp, ()) _ hz)
                                    ·skip
                                     refine freshO_ (c := #[.int .i64 0, .int .i64 0, .string ⟨#[]⟩, .slice none 0 0, .slice none 0 0, .slice none 0 0]) (t := 26) hF (by rfl) rfl ?_ ?_
                                     ·first | (go_simp; done) | (go_simp; rfl)
                                     intro Rp9 wz hz
                                     have hzb := SPO.tk 2 hz
                                     refine hK.out _ _ (HSp _ hzb) (fun hHeld => ?_)
                                     clear hK K
                                     refine norm_ (a' := ?_) ?_ ?_
                                     rotate_left
                                     ·show Act.put _ (some 7) _ = _
                                      simp only [Act.put, List.setIfInBounds_toArray, List.set_cons_zero, List.set_cons_succ, i64_w, i32_w]
                                      rfl
                                     exact norm_ (by simp only [putAll, Act.put, List.setIfInBounds_toArray, List.set_cons_zero, List.set_cons_succ, World.size_alloc] <;> rfl) (hJ1_6_9 (Gp, Rp9, ()) _ hz)
                                    ·skip
                                     refine freshO_ (c := #[.int .i64 0, .int .i64 0, .string ⟨#[]⟩, .slice none 0 0, .slice none 0 0, .slice none 0 0]) (t := 26) hF (by rfl) rfl ?_ ?_
                                     ·first | (go_simp; done) | (go_simp; rfl)
                                     intro Rp10 wz hz
                                     have hzb := SPO.tk 2 hz
                                     refine hK.out _ _ (HSp _ hzb) (fun hHeld => ?_)
                                     clear hK K
                                     refine norm_ (a' := ?_) ?_ ?_
                                     rotate_left
                                     ·show Act.put _ (some 8) _ = _
                                      simp only [Act.put, List.setIfInBounds_toArray, List.set_cons_zero, List.set_cons_succ, i64_w, i32_w]
                                      rfl
                                     exact norm_ (by simp only [putAll, Act.put, List.setIfInBounds_toArray, List.set_cons_zero, List.set_cons_succ, World.size_alloc] <;> rfl) (hJ1_6_10 (Gp, Rp10, ()) _ hz)
                                  ·skip
                                   rintro ⟨gp, _⟩ w' hF
                                   change SPO w [(A, cz Ka Ha sa A3a n3a c3a A4a n4a c4a A5a n5a c5a, 26), (B, cz Kb Hb sb A3b n3b c3b A4b n4b c4b A5b n5b c5b, 26)] (.slice (some ⟨gp, 0, none⟩) 0 0) [] w' at hF
                                   have hHeld := HSp _ (SPO.tk 2 hF)
                                   refine norm_ (a' := ?_) ?_ ?_
                                   rotate_left
                                   ·simp only [putAll, Act.put, List.setIfInBounds_toArray, List.set_cons_zero, List.set_cons_succ]
                                    rfl
                                   refine four_ (i := 4) (j := 6) (k := 9) (m := 10) (Ni := some 27) (Nj := some 29) (Nk := some 7) (Nm := some 8) #[true, true, true, true, true, true, false, false, false, false, false, false, false] #[true, true, true, true, false, true, true, false, false, false, false, false, false] #[true, true, true, true, false, true, false, false, false, true, false, false, false] #[true, true, true, true, false, true, false, false, false, false, true, false, false] rfl rfl rfl rfl rfl rfl rfl rfl (by kernel_rfl) (by decide) (by decide) (by decide) (by decide) (fun K hK => ?_) (fun K hK => ?_) (fun K hK => ?_) (fun K hK => ?_)
                                   ·skip
                                    obtain ⟨v1, wz, hr, hz0⟩ := SPO.app hF (HCL.out _ (SPO.bel hF)) (by have := HLN.out; simp; omega)
                                    have hz1 : SPO w [(A, cz Ka Ha sa A3a n3a c3a A4a n4a c4a A5a n5a c5a, 26), (B, cz Kb Hb sb A3b n3b c3b A4b n4b c4b A5b n5b c5b, 26)] v1 l wz := hz0
                                    obtain ⟨A1p, c1p, rfl, -, -⟩ := SPO.row hz1
                                    refine append_step_ (by rfl) rfl rfl rfl (by rfl) (by rfl) hr ?_
                                    have hz := hz1
                                    have hzb := SPO.tk 2 hz
                                    refine hK.out _ _ (HSp _ hzb) (fun hHeld => ?_)
                                    clear hK K
                                    refine norm_ (a' := ?_) ?_ ?_
                                    rotate_left
                                    ·show Act.put _ (some 27) _ = _
                                     simp only [Act.put, List.setIfInBounds_toArray, List.set_cons_zero, List.set_cons_succ, i64_w, i32_w]
                                     rfl
                                    exact norm_ (by simp only [putAll, Act.put, List.setIfInBounds_toArray, List.set_cons_zero, List.set_cons_succ, World.size_alloc] <;> rfl) (hJ1_2_4 (gp, A1p, c1p, ()) _ hz)
                                   ·skip
                                    refine boxO_ (c := #[.int .i64 Ka, .int .i64 Ha, .string sa, .slice A3a n3a c3a, .slice A4a n4a c4a, .slice A5a n5a c5a]) (t := 26) hF (by rfl) rfl ?_ ?_
                                    ·first | (go_simp; done) | (go_simp; rfl)
                                    intro Gp wz hz
                                    have hzb := SPO.tk 2 hz
                                    refine hK.out _ _ (HSp _ hzb) (fun hHeld => ?_)
                                    clear hK K
                                    refine norm_ (a' := ?_) ?_ ?_
                                    rotate_left
                                    ·show Act.put _ (some 29) _ = _
                                     simp only [Act.put, List.setIfInBounds_toArray, List.set_cons_zero, List.set_cons_succ, i64_w, i32_w]
                                     rfl
                                    exact norm_ (by simp only [putAll, Act.put, List.setIfInBounds_toArray, List.set_cons_zero, List.set_cons_succ, World.size_alloc] <;> rfl) (hJ1_2_6 (gp, Gp, ()) _ hz)
                                   ·skip
                                    refine freshO_ (c := #[.int .i64 0, .int .i64 0, .string ⟨#[]⟩, .slice none 0 0, .slice none 0 0, .slice none 0 0]) (t := 26) hF (by rfl) rfl ?_ ?_
                                    ·first | (go_simp; done) | (go_simp; rfl)
                                    intro Rp9 wz hz
                                    have hzb := SPO.tk 2 hz
                                    refine hK.out _ _ (HSp _ hzb) (fun hHeld => ?_)
                                    clear hK K
                                    refine norm_ (a' := ?_) ?_ ?_
                                    rotate_left
                                    ·show Act.put _ (some 7) _ = _
                                     simp only [Act.put, List.setIfInBounds_toArray, List.set_cons_zero, List.set_cons_succ, i64_w, i32_w]
                                     rfl
                                    exact norm_ (by simp only [putAll, Act.put, List.setIfInBounds_toArray, List.set_cons_zero, List.set_cons_succ, World.size_alloc] <;> rfl) (hJ1_2_9 (gp, Rp9, ()) _ hz)
                                   ·skip
                                    refine freshO_ (c := #[.int .i64 0, .int .i64 0, .string ⟨#[]⟩, .slice none 0 0, .slice none 0 0, .slice none 0 0]) (t := 26) hF (by rfl) rfl ?_ ?_
                                    ·first | (go_simp; done) | (go_simp; rfl)
                                    intro Rp10 wz hz
                                    have hzb := SPO.tk 2 hz
                                    refine hK.out _ _ (HSp _ hzb) (fun hHeld => ?_)
                                    clear hK K
                                    refine norm_ (a' := ?_) ?_ ?_
                                    rotate_left
                                    ·show Act.put _ (some 8) _ = _
                                     simp only [Act.put, List.setIfInBounds_toArray, List.set_cons_zero, List.set_cons_succ, i64_w, i32_w]
                                     rfl
                                    exact norm_ (by simp only [putAll, Act.put, List.setIfInBounds_toArray, List.set_cons_zero, List.set_cons_succ, World.size_alloc] <;> rfl) (hJ1_2_10 (gp, Rp10, ()) _ hz)
                                 ·skip
                                  rintro ⟨Gp, Rp9, Rp10, _⟩ w' hF
                                  change SPO w [(A, cz Ka Ha sa A3a n3a c3a A4a n4a c4a A5a n5a c5a, 26), (B, cz Kb Hb sb A3b n3b c3b A4b n4b c4b A5b n5b c5b, 26), (Gp, cz Ka Ha sa A3a n3a c3a A4a n4a c4a A5a n5a c5a, 26), (Rp9, zq, 26), (Rp10, zq, 26)] (.slice none 0 0) [] w' at hF
                                  have hHeld := HSp _ (SPO.tk 2 hF)
                                  refine norm_ (a' := ?_) ?_ ?_
                                  rotate_left
                                  ·simp only [putAll, Act.put, List.setIfInBounds_toArray, List.set_cons_zero, List.set_cons_succ]
                                   rfl
                                  refine two_ (i := 1) (j := 2) (Ni := some 24) (Nj := some 25) #[true, true, false, true, false, true, true, false, false, true, true, false, false] #[true, false, true, true, false, true, true, false, false, true, true, false, false] rfl rfl rfl rfl (by kernel_rfl) (by decide) (by decide) (fun K hK => ?_) (fun K hK => ?_)
                                  ·skip
                                   refine goes_ Tryz.func13 (by kernel_rfl) rfl #[.slice PL l.length cL] (by rfl) rfl rfl (by simp only [List.map_toArray, List.map_cons, List.map_nil]; rfl) ?_
                                   with_reducible refine ((HAR.out PL l.length cL _)).mono ?_
                                   rintro e wz ⟨rfl, hb⟩
                                   refine ⟨_, rfl, ?_⟩
                                   have hz := SPO.below hF hb
                                   have hzb := SPO.tk 2 hz
                                   refine hK.out _ _ (HSp _ hzb) (fun hHeld => ?_)
                                   clear hK K
                                   refine norm_ (a' := ?_) ?_ ?_
                                   rotate_left
                                   ·show Act.put _ (some 24) _ = _
                                    simp only [Act.put, List.setIfInBounds_toArray, List.set_cons_zero, List.set_cons_succ, i64_w, i32_w]
                                    rfl
                                   exact norm_ (by simp only [putAll, Act.put, List.setIfInBounds_toArray, List.set_cons_zero, List.set_cons_succ, World.size_alloc] <;> rfl) (hJ1_6_9_10 (Gp, Rp9, Rp10, ()) _ hz)
                                  ·skip
                                   refine slice0O_ (L := [(A, cz Ka Ha sa A3a n3a c3a A4a n4a c4a A5a n5a c5a, 26), (B, cz Kb Hb sb A3b n3b c3b A4b n4b c4b A5b n5b c5b, 26), (Gp, cz Ka Ha sa A3a n3a c3a A4a n4a c4a A5a n5a c5a, 26), (Rp9, zq, 26), (Rp10, zq, 26)]) (SPO.spn hF) (by rfl) rfl ?_ ?_
                                   ·first | (go_simp; done) | (go_simp; rfl)
                                   intro gp wz hz
                                   have hzb := SPO.tk 2 hz
                                   refine hK.out _ _ (HSp _ hzb) (fun hHeld => ?_)
                                   clear hK K
                                   refine norm_ (a' := ?_) ?_ ?_
                                   rotate_left
                                   ·show Act.put _ (some 25) _ = _
                                    simp only [Act.put, List.setIfInBounds_toArray, List.set_cons_zero, List.set_cons_succ, i64_w, i32_w]
                                    rfl
                                   exact norm_ (by simp only [putAll, Act.put, List.setIfInBounds_toArray, List.set_cons_zero, List.set_cons_succ, World.size_alloc] <;> rfl) (hJ2_6_9_10 (gp, Gp, Rp9, Rp10, ()) _ hz)
                                ·skip
                                 rintro ⟨gp, Rp9, Rp10, _⟩ w' hF
                                 change SPO w [(A, cz Ka Ha sa A3a n3a c3a A4a n4a c4a A5a n5a c5a, 26), (B, cz Kb Hb sb A3b n3b c3b A4b n4b c4b A5b n5b c5b, 26), (Rp9, zq, 26), (Rp10, zq, 26)] (.slice (some ⟨gp, 0, none⟩) 0 0) [] w' at hF
                                 have hHeld := HSp _ (SPO.tk 2 hF)
                                 refine norm_ (a' := ?_) ?_ ?_
                                 rotate_left
                                 ·simp only [putAll, Act.put, List.setIfInBounds_toArray, List.set_cons_zero, List.set_cons_succ]
                                  rfl
                                 refine two_ (i := 1) (j := 6) (Ni := some 24) (Nj := some 29) #[true, true, true, true, false, true, false, false, false, true, true, false, false] #[true, false, true, true, false, true, true, false, false, true, true, false, false] rfl rfl rfl rfl (by kernel_rfl) (by decide) (by decide) (fun K hK => ?_) (fun K hK => ?_)
                                 ·skip
                                  refine goes_ Tryz.func13 (by kernel_rfl) rfl #[.slice PL l.length cL] (by rfl) rfl rfl (by simp only [List.map_toArray, List.map_cons, List.map_nil]; rfl) ?_
                                  with_reducible refine ((HAR.out PL l.length cL _)).mono ?_
                                  rintro e wz ⟨rfl, hb⟩
                                  refine ⟨_, rfl, ?_⟩
                                  have hz := SPO.below hF hb
                                  have hzb := SPO.tk 2 hz
                                  refine hK.out _ _ (HSp _ hzb) (fun hHeld => ?_)
                                  clear hK K
                                  refine norm_ (a' := ?_) ?_ ?_
                                  rotate_left
                                  ·show Act.put _ (some 24) _ = _
                                   simp only [Act.put, List.setIfInBounds_toArray, List.set_cons_zero, List.set_cons_succ, i64_w, i32_w]
                                   rfl
                                  exact norm_ (by simp only [putAll, Act.put, List.setIfInBounds_toArray, List.set_cons_zero, List.set_cons_succ, World.size_alloc] <;> rfl) (hJ1_2_9_10 (gp, Rp9, Rp10, ()) _ hz)
                                 ·skip
                                  refine boxO_ (c := #[.int .i64 Ka, .int .i64 Ha, .string sa, .slice A3a n3a c3a, .slice A4a n4a c4a, .slice A5a n5a c5a]) (t := 26) hF (by rfl) rfl ?_ ?_
                                  ·first | (go_simp; done) | (go_simp; rfl)
                                  intro Gp wz hz
                                  have hzb := SPO.tk 2 hz
                                  refine hK.out _ _ (HSp _ hzb) (fun hHeld => ?_)
                                  clear hK K
                                  refine norm_ (a' := ?_) ?_ ?_
                                  rotate_left
                                  ·show Act.put _ (some 29) _ = _
                                   simp only [Act.put, List.setIfInBounds_toArray, List.set_cons_zero, List.set_cons_succ, i64_w, i32_w]
                                   rfl
                                  exact norm_ (by simp only [putAll, Act.put, List.setIfInBounds_toArray, List.set_cons_zero, List.set_cons_succ, World.size_alloc] <;> rfl) (hJ2_6_9_10 (gp, Gp, Rp9, Rp10, ()) _ (SPO.prm hz (.cons _ (.cons _ (List.perm_append_comm (l₁ := [_, _]) (l₂ := [_]))))))
                               ·skip
                                rintro ⟨gp, Gp, Rp10, _⟩ w' hF
                                change SPO w [(A, cz Ka Ha sa A3a n3a c3a A4a n4a c4a A5a n5a c5a, 26), (B, cz Kb Hb sb A3b n3b c3b A4b n4b c4b A5b n5b c5b, 26), (Gp, cz Ka Ha sa A3a n3a c3a A4a n4a c4a A5a n5a c5a, 26), (Rp10, zq, 26)] (.slice (some ⟨gp, 0, none⟩) 0 0) [] w' at hF
                                have hHeld := HSp _ (SPO.tk 2 hF)
                                refine norm_ (a' := ?_) ?_ ?_
                                rotate_left
                                ·simp only [putAll, Act.put, List.setIfInBounds_toArray, List.set_cons_zero, List.set_cons_succ]
                                 rfl
                                refine two_ (i := 1) (j := 9) (Ni := some 24) (Nj := some 7) #[true, true, true, true, false, true, true, false, false, false, true, false, false] #[true, false, true, true, false, true, true, false, false, true, true, false, false] rfl rfl rfl rfl (by kernel_rfl) (by decide) (by decide) (fun K hK => ?_) (fun K hK => ?_)
                                ·skip
                                 refine goes_ Tryz.func13 (by kernel_rfl) rfl #[.slice PL l.length cL] (by rfl) rfl rfl (by simp only [List.map_toArray, List.map_cons, List.map_nil]; rfl) ?_
                                 with_reducible refine ((HAR.out PL l.length cL _)).mono ?_
                                 rintro e wz ⟨rfl, hb⟩
                                 refine ⟨_, rfl, ?_⟩
                                 have hz := SPO.below hF hb
                                 have hzb := SPO.tk 2 hz
                                 refine hK.out _ _ (HSp _ hzb) (fun hHeld => ?_)
                                 clear hK K
                                 refine norm_ (a' := ?_) ?_ ?_
                                 rotate_left
                                 ·show Act.put _ (some 24) _ = _
                                  simp only [Act.put, List.setIfInBounds_toArray, List.set_cons_zero, List.set_cons_succ, i64_w, i32_w]
                                  rfl
                                 exact norm_ (by simp only [putAll, Act.put, List.setIfInBounds_toArray, List.set_cons_zero, List.set_cons_succ, World.size_alloc] <;> rfl) (hJ1_2_6_10 (gp, Gp, Rp10, ()) _ hz)
                                ·skip
                                 refine freshO_ (c := #[.int .i64 0, .int .i64 0, .string ⟨#[]⟩, .slice none 0 0, .slice none 0 0, .slice none 0 0]) (t := 26) hF (by rfl) rfl ?_ ?_
                                 ·first | (go_simp; done) | (go_simp; rfl)
                                 intro Rp9 wz hz
                                 have hzb := SPO.tk 2 hz
                                 refine hK.out _ _ (HSp _ hzb) (fun hHeld => ?_)
                                 clear hK K
                                 refine norm_ (a' := ?_) ?_ ?_
                                 rotate_left
                                 ·show Act.put _ (some 7) _ = _
                                  simp only [Act.put, List.setIfInBounds_toArray, List.set_cons_zero, List.set_cons_succ, i64_w, i32_w]
                                  rfl
                                 exact norm_ (by simp only [putAll, Act.put, List.setIfInBounds_toArray, List.set_cons_zero, List.set_cons_succ, World.size_alloc] <;> rfl) (hJ2_6_9_10 (gp, Gp, Rp9, Rp10, ()) _ (SPO.prm hz (.cons _ (.cons _ (.cons _ (.swap _ _ _))))))
                              ·skip
                               rintro ⟨gp, Gp, Rp9, _⟩ w' hF
                               change SPO w [(A, cz Ka Ha sa A3a n3a c3a A4a n4a c4a A5a n5a c5a, 26), (B, cz Kb Hb sb A3b n3b c3b A4b n4b c4b A5b n5b c5b, 26), (Gp, cz Ka Ha sa A3a n3a c3a A4a n4a c4a A5a n5a c5a, 26), (Rp9, zq, 26)] (.slice (some ⟨gp, 0, none⟩) 0 0) [] w' at hF
                               have hHeld := HSp _ (SPO.tk 2 hF)
                               refine norm_ (a' := ?_) ?_ ?_
                               rotate_left
                               ·simp only [putAll, Act.put, List.setIfInBounds_toArray, List.set_cons_zero, List.set_cons_succ]
                                rfl
                               refine two_ (i := 1) (j := 10) (Ni := some 24) (Nj := some 8) #[true, true, true, true, false, true, true, false, false, true, false, false, false] #[true, false, true, true, false, true, true, false, false, true, true, false, false] rfl rfl rfl rfl (by kernel_rfl) (by decide) (by decide) (fun K hK => ?_) (fun K hK => ?_)
                               ·skip
                                refine goes_ Tryz.func13 (by kernel_rfl) rfl #[.slice PL l.length cL] (by rfl) rfl rfl (by simp only [List.map_toArray, List.map_cons, List.map_nil]; rfl) ?_
                                with_reducible refine ((HAR.out PL l.length cL _)).mono ?_
                                rintro e wz ⟨rfl, hb⟩
                                refine ⟨_, rfl, ?_⟩
                                have hz := SPO.below hF hb
                                have hzb := SPO.tk 2 hz
                                refine hK.out _ _ (HSp _ hzb) (fun hHeld => ?_)
                                clear hK K
                                refine norm_ (a' := ?_) ?_ ?_
                                rotate_left
                                ·show Act.put _ (some 24) _ = _
                                 simp only [Act.put, List.setIfInBounds_toArray, List.set_cons_zero, List.set_cons_succ, i64_w, i32_w]
                                 rfl
                                exact norm_ (by simp only [putAll, Act.put, List.setIfInBounds_toArray, List.set_cons_zero, List.set_cons_succ, World.size_alloc] <;> rfl) (hJ1_2_6_9 (gp, Gp, Rp9, ()) _ hz)
                               ·skip
                                refine freshO_ (c := #[.int .i64 0, .int .i64 0, .string ⟨#[]⟩, .slice none 0 0, .slice none 0 0, .slice none 0 0]) (t := 26) hF (by rfl) rfl ?_ ?_
                                ·first | (go_simp; done) | (go_simp; rfl)
                                intro Rp10 wz hz
                                have hzb := SPO.tk 2 hz
                                refine hK.out _ _ (HSp _ hzb) (fun hHeld => ?_)
                                clear hK K
                                refine norm_ (a' := ?_) ?_ ?_
                                rotate_left
                                ·show Act.put _ (some 8) _ = _
                                 simp only [Act.put, List.setIfInBounds_toArray, List.set_cons_zero, List.set_cons_succ, i64_w, i32_w]
                                 rfl
                                exact norm_ (by simp only [putAll, Act.put, List.setIfInBounds_toArray, List.set_cons_zero, List.set_cons_succ, World.size_alloc] <;> rfl) (hJ2_6_9_10 (gp, Gp, Rp9, Rp10, ()) _ hz)
                             ·skip
                              rintro ⟨Rp9, Rp10, _⟩ w' hF
                              change SPO w [(A, cz Ka Ha sa A3a n3a c3a A4a n4a c4a A5a n5a c5a, 26), (B, cz Kb Hb sb A3b n3b c3b A4b n4b c4b A5b n5b c5b, 26), (Rp9, zq, 26), (Rp10, zq, 26)] (.slice none 0 0) [] w' at hF
                              have hHeld := HSp _ (SPO.tk 2 hF)
                              refine norm_ (a' := ?_) ?_ ?_
                              rotate_left
                              ·simp only [putAll, Act.put, List.setIfInBounds_toArray, List.set_cons_zero, List.set_cons_succ]
                               rfl
                              refine two_ (i := 2) (j := 6) (Ni := some 25) (Nj := some 29) #[true, true, true, true, false, true, false, false, false, true, true, false, false] #[true, true, false, true, false, true, true, false, false, true, true, false, false] rfl rfl rfl rfl (by kernel_rfl) (by decide) (by decide) (fun K hK => ?_) (fun K hK => ?_)
                              ·skip
                               refine slice0O_ (L := [(A, cz Ka Ha sa A3a n3a c3a A4a n4a c4a A5a n5a c5a, 26), (B, cz Kb Hb sb A3b n3b c3b A4b n4b c4b A5b n5b c5b, 26), (Rp9, zq, 26), (Rp10, zq, 26)]) (SPO.spn hF) (by rfl) rfl ?_ ?_
                               ·first | (go_simp; done) | (go_simp; rfl)
                               intro gp wz hz
                               have hzb := SPO.tk 2 hz
                               refine hK.out _ _ (HSp _ hzb) (fun hHeld => ?_)
                               clear hK K
                               refine norm_ (a' := ?_) ?_ ?_
                               rotate_left
                               ·show Act.put _ (some 25) _ = _
                                simp only [Act.put, List.setIfInBounds_toArray, List.set_cons_zero, List.set_cons_succ, i64_w, i32_w]
                                rfl
                               exact norm_ (by simp only [putAll, Act.put, List.setIfInBounds_toArray, List.set_cons_zero, List.set_cons_succ, World.size_alloc] <;> rfl) (hJ1_2_9_10 (gp, Rp9, Rp10, ()) _ hz)
                              ·skip
                               refine boxO_ (c := #[.int .i64 Ka, .int .i64 Ha, .string sa, .slice A3a n3a c3a, .slice A4a n4a c4a, .slice A5a n5a c5a]) (t := 26) hF (by rfl) rfl ?_ ?_
                               ·first | (go_simp; done) | (go_simp; rfl)
                               intro Gp wz hz
                               have hzb := SPO.tk 2 hz
                               refine hK.out _ _ (HSp _ hzb) (fun hHeld => ?_)
                               clear hK K
                               refine norm_ (a' := ?_) ?_ ?_
                               rotate_left
                               ·show Act.put _ (some 29) _ = _
                                simp only [Act.put, List.setIfInBounds_toArray, List.set_cons_zero, List.set_cons_succ, i64_w, i32_w]
                                rfl
                               exact norm_ (by simp only [putAll, Act.put, List.setIfInBounds_toArray, List.set_cons_zero, List.set_cons_succ, World.size_alloc] <;> rfl) (hJ1_6_9_10 (Gp, Rp9, Rp10, ()) _ (SPO.prm hz (.cons _ (.cons _ (List.perm_append_comm (l₁ := [_, _]) (l₂ := [_]))))))
                            ·skip
                             rintro ⟨Gp, Rp10, _⟩ w' hF
                             change SPO w [(A, cz Ka Ha sa A3a n3a c3a A4a n4a c4a A5a n5a c5a, 26), (B, cz Kb Hb sb A3b n3b c3b A4b n4b c4b A5b n5b c5b, 26), (Gp, cz Ka Ha sa A3a n3a c3a A4a n4a c4a A5a n5a c5a, 26), (Rp10, zq, 26)] (.slice none 0 0) [] w' at hF
                             have hHeld := HSp _ (SPO.tk 2 hF)
                             refine norm_ (a' := ?_) ?_ ?_
                             rotate_left
                             ·simp only [putAll, Act.put, List.setIfInBounds_toArray, List.set_cons_zero, List.set_cons_succ]
                              rfl
                             refine two_ (i := 2) (j := 9) (Ni := some 25) (Nj := some 7) #[true, true, true, true, false, true, true, false, false, false, true, false, false] #[true, true, false, true, false, true, true, false, false, true, true, false, false] rfl rfl rfl rfl (by kernel_rfl) (by decide) (by decide) (fun K hK => ?_) (fun K hK => ?_)
                             ·skip
                              refine slice0O_ (L := [(A, cz Ka Ha sa A3a n3a c3a A4a n4a c4a A5a n5a c5a, 26), (B, cz Kb Hb sb A3b n3b c3b A4b n4b c4b A5b n5b c5b, 26), (Gp, cz Ka Ha sa A3a n3a c3a A4a n4a c4a A5a n5a c5a, 26), (Rp10, zq, 26)]) (SPO.spn hF) (by rfl) rfl ?_ ?_
                              ·first | (go_simp; done) | (go_simp; rfl)
                              intro gp wz hz
                              have hzb := SPO.tk 2 hz
                              refine hK.out _ _ (HSp _ hzb) (fun hHeld => ?_)
                              clear hK K
                              refine norm_ (a' := ?_) ?_ ?_
                              rotate_left
                              ·show Act.put _ (some 25) _ = _
                               simp only [Act.put, List.setIfInBounds_toArray, List.set_cons_zero, List.set_cons_succ, i64_w, i32_w]
                               rfl
                              exact norm_ (by simp only [putAll, Act.put, List.setIfInBounds_toArray, List.set_cons_zero, List.set_cons_succ, World.size_alloc] <;> rfl) (hJ1_2_6_10 (gp, Gp, Rp10, ()) _ hz)
                             ·skip
                              refine freshO_ (c := #[.int .i64 0, .int .i64 0, .string ⟨#[]⟩, .slice none 0 0, .slice none 0 0, .slice none 0 0]) (t := 26) hF (by rfl) rfl ?_ ?_
                              ·first | (go_simp; done) | (go_simp; rfl)
                              intro Rp9 wz hz
                              have hzb := SPO.tk 2 hz
                              refine hK.out _ _ (HSp _ hzb) (fun hHeld => ?_)
                              clear hK K
                              refine norm_ (a' := ?_) ?_ ?_
                              rotate_left
                              ·show Act.put _ (some 7) _ = _
                               simp only [Act.put, List.setIfInBounds_toArray, List.set_cons_zero, List.set_cons_succ, i64_w, i32_w]
                               rfl
                              exact norm_ (by simp only [putAll, Act.put, List.setIfInBounds_toArray, List.set_cons_zero, List.set_cons_succ, World.size_alloc] <;> rfl) (hJ1_6_9_10 (Gp, Rp9, Rp10, ()) _ (SPO.prm hz (.cons _ (.cons _ (.cons _ (.swap _ _ _))))))
                           ·skip
                            rintro ⟨Gp, Rp9, _⟩ w' hF
                            change SPO w [(A, cz Ka Ha sa A3a n3a c3a A4a n4a c4a A5a n5a c5a, 26), (B, cz Kb Hb sb A3b n3b c3b A4b n4b c4b A5b n5b c5b, 26), (Gp, cz Ka Ha sa A3a n3a c3a A4a n4a c4a A5a n5a c5a, 26), (Rp9, zq, 26)] (.slice none 0 0) [] w' at hF
                            have hHeld := HSp _ (SPO.tk 2 hF)
                            refine norm_ (a' := ?_) ?_ ?_
                            rotate_left
                            ·simp only [putAll, Act.put, List.setIfInBounds_toArray, List.set_cons_zero, List.set_cons_succ]
                             rfl
                            refine two_ (i := 2) (j := 10) (Ni := some 25) (Nj := some 8) #[true, true, true, true, false, true, true, false, false, true, false, false, false] #[true, true, false, true, false, true, true, false, false, true, true, false, false] rfl rfl rfl rfl (by kernel_rfl) (by decide) (by decide) (fun K hK => ?_) (fun K hK => ?_)
                            ·skip
                             refine slice0O_ (L := [(A, cz Ka Ha sa A3a n3a c3a A4a n4a c4a A5a n5a c5a, 26), (B, cz Kb Hb sb A3b n3b c3b A4b n4b c4b A5b n5b c5b, 26), (Gp, cz Ka Ha sa A3a n3a c3a A4a n4a c4a A5a n5a c5a, 26), (Rp9, zq, 26)]) (SPO.spn hF) (by rfl) rfl ?_ ?_
                             ·first | (go_simp; done) | (go_simp; rfl)
                             intro gp wz hz
                             have hzb := SPO.tk 2 hz
                             refine hK.out _ _ (HSp _ hzb) (fun hHeld => ?_)
                             clear hK K
                             refine norm_ (a' := ?_) ?_ ?_
                             rotate_left
                             ·show Act.put _ (some 25) _ = _
                              simp only [Act.put, List.setIfInBounds_toArray, List.set_cons_zero, List.set_cons_succ, i64_w, i32_w]
                              rfl
                             exact norm_ (by simp only [putAll, Act.put, List.setIfInBounds_toArray, List.set_cons_zero, List.set_cons_succ, World.size_alloc] <;> rfl) (hJ1_2_6_9 (gp, Gp, Rp9, ()) _ hz)
                            ·skip
                             refine freshO_ (c := #[.int .i64 0, .int .i64 0, .string ⟨#[]⟩, .slice none 0 0, .slice none 0 0, .slice none 0 0]) (t := 26) hF (by rfl) rfl ?_ ?_
                             ·first | (go_simp; done) | (go_simp; rfl)
                             intro Rp10 wz hz
                             have hzb := SPO.tk 2 hz
                             refine hK.out _ _ (HSp _ hzb) (fun hHeld => ?_)
                             clear hK K
                             refine norm_ (a' := ?_) ?_ ?_
                             rotate_left
                             ·show Act.put _ (some 8) _ = _
                              simp only [Act.put, List.setIfInBounds_toArray, List.set_cons_zero, List.set_cons_succ, i64_w, i32_w]
                              rfl
                             exact norm_ (by simp only [putAll, Act.put, List.setIfInBounds_toArray, List.set_cons_zero, List.set_cons_succ, World.size_alloc] <;> rfl) (hJ1_6_9_10 (Gp, Rp9, Rp10, ()) _ hz)
                          ·skip
                           rintro ⟨gp, Rp10, _⟩ w' hF
                           change SPO w [(A, cz Ka Ha sa A3a n3a c3a A4a n4a c4a A5a n5a c5a, 26), (B, cz Kb Hb sb A3b n3b c3b A4b n4b c4b A5b n5b c5b, 26), (Rp10, zq, 26)] (.slice (some ⟨gp, 0, none⟩) 0 0) [] w' at hF
                           have hHeld := HSp _ (SPO.tk 2 hF)
                           refine norm_ (a' := ?_) ?_ ?_
                           rotate_left
                           ·simp only [putAll, Act.put, List.setIfInBounds_toArray, List.set_cons_zero, List.set_cons_succ]
                            rfl
                           refine three_ (i := 4) (j := 6) (k := 9) (Ni := some 27) (Nj := some 29) (Nk := some 7) #[true, true, true, true, true, true, false, false, false, false, true, false, false] #[true, true, true, true, false, true, true, false, false, false, true, false, false] #[true, true, true, true, false, true, false, false, false, true, true, false, false] rfl rfl rfl rfl rfl rfl (by kernel_rfl) (by decide) (by decide) (by decide) (fun K hK => ?_) (fun K hK => ?_) (fun K hK => ?_)
                           ·skip
                            obtain ⟨v1, wz, hr, hz0⟩ := SPO.app hF (HCL.out _ (SPO.bel hF)) (by have := HLN.out; simp; omega)
                            have hz1 : SPO w [(A, cz Ka Ha sa A3a n3a c3a A4a n4a c4a A5a n5a c5a, 26), (B, cz Kb Hb sb A3b n3b c3b A4b n4b c4b A5b n5b c5b, 26), (Rp10, zq, 26)] v1 l wz := hz0
                            obtain ⟨A1p, c1p, rfl, -, -⟩ := SPO.row hz1
                            refine append_step_ (by rfl) rfl rfl rfl (by rfl) (by rfl) hr ?_
                            have hz := hz1
                            have hzb := SPO.tk 2 hz
                            refine hK.out _ _ (HSp _ hzb) (fun hHeld => ?_)
                            clear hK K
                            refine norm_ (a' := ?_) ?_ ?_
                            rotate_left
                            ·show Act.put _ (some 27) _ = _
                             simp only [Act.put, List.setIfInBounds_toArray, List.set_cons_zero, List.set_cons_succ, i64_w, i32_w]
                             rfl
                            exact norm_ (by simp only [putAll, Act.put, List.setIfInBounds_toArray, List.set_cons_zero, List.set_cons_succ, World.size_alloc] <;> rfl) (hJ1_2_4_10 (gp, A1p, c1p, Rp10, ()) _ hz)
                           ·skip
                            refine boxO_ (c := #[.int .i64 Ka, .int .i64 Ha, .string sa, .slice A3a n3a c3a, .slice A4a n4a c4a, .slice A5a n5a c5a]) (t := 26) hF (by rfl) rfl ?_ ?_
                            ·first | (go_simp; done) | (go_simp; rfl)
                            intro Gp wz hz
                            have hzb := SPO.tk 2 hz
                            refine hK.out _ _ (HSp _ hzb) (fun hHeld => ?_)
                            clear hK K
                            refine norm_ (a' := ?_) ?_ ?_
                            rotate_left
                            ·show Act.put _ (some 29) _ = _
                             simp only [Act.put, List.setIfInBounds_toArray, List.set_cons_zero, List.set_cons_succ, i64_w, i32_w]
                             rfl
                            exact norm_ (by simp only [putAll, Act.put, List.setIfInBounds_toArray, List.set_cons_zero, List.set_cons_succ, World.size_alloc] <;> rfl) (hJ1_2_6_10 (gp, Gp, Rp10, ()) _ (SPO.prm hz (.cons _ (.cons _ (.swap _ _ _)))))
                           ·skip
                            refine freshO_ (c := #[.int .i64 0, .int .i64 0, .string ⟨#[]⟩, .slice none 0 0, .slice none 0 0, .slice none 0 0]) (t := 26) hF (by rfl) rfl ?_ ?_
                            ·first | (go_simp; done) | (go_simp; rfl)
                            intro Rp9 wz hz
                            have hzb := SPO.tk 2 hz
                            refine hK.out _ _ (HSp _ hzb) (fun hHeld => ?_)
                            clear hK K
                            refine norm_ (a' := ?_) ?_ ?_
                            rotate_left
                            ·show Act.put _ (some 7) _ = _
                             simp only [Act.put, List.setIfInBounds_toArray, List.set_cons_zero, List.set_cons_succ, i64_w, i32_w]
                             rfl
                            exact norm_ (by simp only [putAll, Act.put, List.setIfInBounds_toArray, List.set_cons_zero, List.set_cons_succ, World.size_alloc] <;> rfl) (hJ1_2_9_10 (gp, Rp9, Rp10, ()) _ (SPO.prm hz (.cons _ (.cons _ (.swap _ _ _)))))
                         ·skip
                          rintro ⟨gp, Rp9, _⟩ w' hF
                          change SPO w [(A, cz Ka Ha sa A3a n3a c3a A4a n4a c4a A5a n5a c5a, 26), (B, cz Kb Hb sb A3b n3b c3b A4b n4b c4b A5b n5b c5b, 26), (Rp9, zq, 26)] (.slice (some ⟨gp, 0, none⟩) 0 0) [] w' at hF
                          have hHeld := HSp _ (SPO.tk 2 hF)
                          refine norm_ (a' := ?_) ?_ ?_
                          rotate_left
                          ·simp only [putAll, Act.put, List.setIfInBounds_toArray, List.set_cons_zero, List.set_cons_succ]
                           rfl
                          refine three_ (i := 4) (j := 6) (k := 10) (Ni := some 27) (Nj := some 29) (Nk := some 8) #[true, true, true, true, true, true, false, false, false, true, false, false, false] #[true, true, true, true, false, true, true, false, false, true, false, false, false] #[true, true, true, true, false, true, false, false, false, true, true, false, false] rfl rfl rfl rfl rfl rfl (by kernel_rfl) (by decide) (by decide) (by decide) (fun K hK => ?_) (fun K hK => ?_) (fun K hK => ?_)
                          ·skip
                           obtain ⟨v1, wz, hr, hz0⟩ := SPO.app hF (HCL.out _ (SPO.bel hF)) (by have := HLN.out; simp; omega)
                           have hz1 : SPO w [(A, cz Ka Ha sa A3a n3a c3a A4a n4a c4a A5a n5a c5a, 26), (B, cz Kb Hb sb A3b n3b c3b A4b n4b c4b A5b n5b c5b, 26), (Rp9, zq, 26)] v1 l wz := hz0
                           obtain ⟨A1p, c1p, rfl, -, -⟩ := SPO.row hz1
                           refine append_step_ (by rfl) rfl rfl rfl (by rfl) (by rfl) hr ?_
                           have hz := hz1
                           have hzb := SPO.tk 2 hz
                           refine hK.out _ _ (HSp _ hzb) (fun hHeld => ?_)
                           clear hK K
                           refine norm_ (a' := ?_) ?_ ?_
                           rotate_left
                           ·show Act.put _ (some 27) _ = _
                            simp only [Act.put, List.setIfInBounds_toArray, List.set_cons_zero, List.set_cons_succ, i64_w, i32_w]
                            rfl
                           exact norm_ (by simp only [putAll, Act.put, List.setIfInBounds_toArray, List.set_cons_zero, List.set_cons_succ, World.size_alloc] <;> rfl) (hJ1_2_4_9 (gp, A1p, c1p, Rp9, ()) _ hz)
                          ·skip
                           refine boxO_ (c := #[.int .i64 Ka, .int .i64 Ha, .string sa, .slice A3a n3a c3a, .slice A4a n4a c4a, .slice A5a n5a c5a]) (t := 26) hF (by rfl) rfl ?_ ?_
                           ·first | (go_simp; done) | (go_simp; rfl)
                           intro Gp wz hz
                           have hzb := SPO.tk 2 hz
                           refine hK.out _ _ (HSp _ hzb) (fun hHeld => ?_)
                           clear hK K
                           refine norm_ (a' := ?_) ?_ ?_
                           rotate_left
                           ·show Act.put _ (some 29) _ = _
                            simp only [Act.put, List.setIfInBounds_toArray, List.set_cons_zero, List.set_cons_succ, i64_w, i32_w]
                            rfl
                           exact norm_ (by simp only [putAll, Act.put, List.setIfInBounds_toArray, List.set_cons_zero, List.set_cons_succ, World.size_alloc] <;> rfl) (hJ1_2_6_9 (gp, Gp, Rp9, ()) _ (SPO.prm hz (.cons _ (.cons _ (.swap _ _ _)))))
                          ·skip
                           refine freshO_ (c := #[.int .i64 0, .int .i64 0, .string ⟨#[]⟩, .slice none 0 0, .slice none 0 0, .slice none 0 0]) (t := 26) hF (by rfl) rfl ?_ ?_
                           ·first | (go_simp; done) | (go_simp; rfl)
                           intro Rp10 wz hz
                           have hzb := SPO.tk 2 hz
                           refine hK.out _ _ (HSp _ hzb) (fun hHeld => ?_)
                           clear hK K
                           refine norm_ (a' := ?_) ?_ ?_
                           rotate_left
                           ·show Act.put _ (some 8) _ = _
                            simp only [Act.put, List.setIfInBounds_toArray, List.set_cons_zero, List.set_cons_succ, i64_w, i32_w]
                            rfl
                           exact norm_ (by simp only [putAll, Act.put, List.setIfInBounds_toArray, List.set_cons_zero, List.set_cons_succ, World.size_alloc] <;> rfl) (hJ1_2_9_10 (gp, Rp9, Rp10, ()) _ hz)
                        ·skip
                         rintro ⟨gp, Gp, _⟩ w' hF
                         change SPO w [(A, cz Ka Ha sa A3a n3a c3a A4a n4a c4a A5a n5a c5a, 26), (B, cz Kb Hb sb A3b n3b c3b A4b n4b c4b A5b n5b c5b, 26), (Gp, cz Ka Ha sa A3a n3a c3a A4a n4a c4a A5a n5a c5a, 26)] (.slice (some ⟨gp, 0, none⟩) 0 0) [] w' at hF
                         have hHeld := HSp _ (SPO.tk 2 hF)
                         refine norm_ (a' := ?_) ?_ ?_
                         rotate_left
                         ·simp only [putAll, Act.put, List.setIfInBounds_toArray, List.set_cons_zero, List.set_cons_succ]
                          rfl
                         refine three_ (i := 4) (j := 9) (k := 10) (Ni := some 27) (Nj := some 7) (Nk := some 8) #[true, true, true, true, true, true, true, false, false, false, false, false, false] #[true, true, true, true, false, true, true, false, false, true, false, false, false] #[true, true, true, true, false, true, true, false, false, false, true, false, false] rfl rfl rfl rfl rfl rfl (by kernel_rfl) (by decide) (by decide) (by decide) (fun K hK => ?_) (fun K hK => ?_) (fun K hK => ?_)
                         ·skip
                          obtain ⟨v1, wz, hr, hz0⟩ := SPO.app hF (HCL.out _ (SPO.bel hF)) (by have := HLN.out; simp; omega)
                          have hz1 : SPO w [(A, cz Ka Ha sa A3a n3a c3a A4a n4a c4a A5a n5a c5a, 26), (B, cz Kb Hb sb A3b n3b c3b A4b n4b c4b A5b n5b c5b, 26), (Gp, cz Ka Ha sa A3a n3a c3a A4a n4a c4a A5a n5a c5a, 26)] v1 l wz := hz0
                          obtain ⟨A1p, c1p, rfl, -, -⟩ := SPO.row hz1
                          refine append_step_ (by rfl) rfl rfl rfl (by rfl) (by rfl) hr ?_
                          have hz := hz1
                          have hzb := SPO.tk 2 hz
                          refine hK.out _ _ (HSp _ hzb) (fun hHeld => ?_)
                          clear hK K
                          refine norm_ (a' := ?_) ?_ ?_
                          rotate_left
                          ·show Act.put _ (some 27) _ = _
                           simp only [Act.put, List.setIfInBounds_toArray, List.set_cons_zero, List.set_cons_succ, i64_w, i32_w]
                           rfl
                          exact norm_ (by simp only [putAll, Act.put, List.setIfInBounds_toArray, List.set_cons_zero, List.set_cons_succ, World.size_alloc] <;> rfl) (hJ1_2_4_6 (gp, A1p, c1p, Gp, ()) _ hz)
                         ·skip
                          refine freshO_ (c := #[.int .i64 0, .int .i64 0, .string ⟨#[]⟩, .slice none 0 0, .slice none 0 0, .slice none 0 0]) (t := 26) hF (by rfl) rfl ?_ ?_
                          ·first | (go_simp; done) | (go_simp; rfl)
                          intro Rp9 wz hz
                          have hzb := SPO.tk 2 hz
                          refine hK.out _ _ (HSp _ hzb) (fun hHeld => ?_)
                          clear hK K
                          refine norm_ (a' := ?_) ?_ ?_
                          rotate_left
                          ·show Act.put _ (some 7) _ = _
                           simp only [Act.put, List.setIfInBounds_toArray, List.set_cons_zero, List.set_cons_succ, i64_w, i32_w]
                           rfl
                          exact norm_ (by simp only [putAll, Act.put, List.setIfInBounds_toArray, List.set_cons_zero, List.set_cons_succ, World.size_alloc] <;> rfl) (hJ1_2_6_9 (gp, Gp, Rp9, ()) _ hz)
                         ·skip
                          refine freshO_ (c := #[.int .i64 0, .int .i64 0, .string ⟨#[]⟩, .slice none 0 0, .slice none 0 0, .slice none 0 0]) (t := 26) hF (by rfl) rfl ?_ ?_
                          ·first | (go_simp; done) | (go_simp; rfl)
                          intro Rp10 wz hz
                          have hzb := SPO.tk 2 hz
                          refine hK.out _ _ (HSp _ hzb) (fun hHeld => ?_)
                          clear hK K
                          refine norm_ (a' := ?_) ?_ ?_
                          rotate_left
                          ·show Act.put _ (some 8) _ = _
                           simp only [Act.put, List.setIfInBounds_toArray, List.set_cons_zero, List.set_cons_succ, i64_w, i32_w]
                           rfl
                          exact norm_ (by simp only [putAll, Act.put, List.setIfInBounds_toArray, List.set_cons_zero, List.set_cons_succ, World.size_alloc] <;> rfl) (hJ1_2_6_10 (gp, Gp, Rp10, ()) _ hz)
                       ·skip
                        rintro ⟨gp, A1p, c1p, _⟩ w' hF
                        change SPO w [(A, cz Ka Ha sa A3a n3a c3a A4a n4a c4a A5a n5a c5a, 26), (B, cz Kb Hb sb A3b n3b c3b A4b n4b c4b A5b n5b c5b, 26)] (.slice A1p l.length c1p) l w' at hF
                        have hHeld := HSp _ (SPO.tk 2 hF)
                        refine norm_ (a' := ?_) ?_ ?_
                        rotate_left
                        ·simp only [putAll, Act.put, List.setIfInBounds_toArray, List.set_cons_zero, List.set_cons_succ]
                         rfl
                        refine three_ (i := 6) (j := 9) (k := 10) (Ni := some 29) (Nj := some 7) (Nk := some 8) #[true, true, true, true, true, true, true, false, false, false, false, false, false] #[true, true, true, true, true, true, false, false, false, true, false, false, false] #[true, true, true, true, true, true, false, false, false, false, true, false, false] rfl rfl rfl rfl rfl rfl (by kernel_rfl) (by decide) (by decide) (by decide) (fun K hK => ?_) (fun K hK => ?_) (fun K hK => ?_)
                        ·skip
                         refine boxO_ (c := #[.int .i64 Ka, .int .i64 Ha, .string sa, .slice A3a n3a c3a, .slice A4a n4a c4a, .slice A5a n5a c5a]) (t := 26) hF (by rfl) rfl ?_ ?_
                         ·first | (go_simp; done) | (go_simp; rfl)
                         intro Gp wz hz
                         have hzb := SPO.tk 2 hz
                         refine hK.out _ _ (HSp _ hzb) (fun hHeld => ?_)
                         clear hK K
                         refine norm_ (a' := ?_) ?_ ?_
                         rotate_left
                         ·show Act.put _ (some 29) _ = _
                          simp only [Act.put, List.setIfInBounds_toArray, List.set_cons_zero, List.set_cons_succ, i64_w, i32_w]
                          rfl
                         exact norm_ (by simp only [putAll, Act.put, List.setIfInBounds_toArray, List.set_cons_zero, List.set_cons_succ, World.size_alloc] <;> rfl) (hJ1_2_4_6 (gp, A1p, c1p, Gp, ()) _ hz)
                        ·skip
                         refine freshO_ (c := #[.int .i64 0, .int .i64 0, .string ⟨#[]⟩, .slice none 0 0, .slice none 0 0, .slice none 0 0]) (t := 26) hF (by rfl) rfl ?_ ?_
                         ·first | (go_simp; done) | (go_simp; rfl)
                         intro Rp9 wz hz
                         have hzb := SPO.tk 2 hz
                         refine hK.out _ _ (HSp _ hzb) (fun hHeld => ?_)
                         clear hK K
                         refine norm_ (a' := ?_) ?_ ?_
                         rotate_left
                         ·show Act.put _ (some 7) _ = _
                          simp only [Act.put, List.setIfInBounds_toArray, List.set_cons_zero, List.set_cons_succ, i64_w, i32_w]
                          rfl
                         exact norm_ (by simp only [putAll, Act.put, List.setIfInBounds_toArray, List.set_cons_zero, List.set_cons_succ, World.size_alloc] <;> rfl) (hJ1_2_4_9 (gp, A1p, c1p, Rp9, ()) _ hz)
                        ·skip
                         refine freshO_ (c := #[.int .i64 0, .int .i64 0, .string ⟨#[]⟩, .slice none 0 0, .slice none 0 0, .slice none 0 0]) (t := 26) hF (by rfl) rfl ?_ ?_
                         ·first | (go_simp; done) | (go_simp; rfl)
                         intro Rp10 wz hz
                         have hzb := SPO.tk 2 hz
                         refine hK.out _ _ (HSp _ hzb) (fun hHeld => ?_)
                         clear hK K
                         refine norm_ (a' := ?_) ?_ ?_
                         rotate_left
                         ·show Act.put _ (some 8) _ = _
                          simp only [Act.put, List.setIfInBounds_toArray, List.set_cons_zero, List.set_cons_succ, i64_w, i32_w]
                          rfl
                         exact norm_ (by simp only [putAll, Act.put, List.setIfInBounds_toArray, List.set_cons_zero, List.set_cons_succ, World.size_alloc] <;> rfl) (hJ1_2_4_10 (gp, A1p, c1p, Rp10, ()) _ hz)
                      ·skip
                       rintro ⟨gp, Gp, Rp9, Rp10, _⟩ w' hF
                       change SPO w [(A, cz Ka Ha sa A3a n3a c3a A4a n4a c4a A5a n5a c5a, 26), (B, cz Kb Hb sb A3b n3b c3b A4b n4b c4b A5b n5b c5b, 26), (Gp, cz Ka Ha sa A3a n3a c3a A4a n4a c4a A5a n5a c5a, 26), (Rp9, zq, 26), (Rp10, zq, 26)] (.slice (some ⟨gp, 0, none⟩) 0 0) [] w' at hF
                       have hHeld := HSp _ (SPO.tk 2 hF)
                       refine norm_ (a' := ?_) ?_ ?_
                       rotate_left
                       ·simp only [putAll, Act.put, List.setIfInBounds_toArray, List.set_cons_zero, List.set_cons_succ]
                        rfl
                       refine one_ (i := 1) (N := some 24) #[true, true, true, true, false, true, true, false, false, true, true, false, false] rfl rfl (by kernel_rfl) (by decide) (fun K hK => ?_)
                       refine goes_ Tryz.func13 (by kernel_rfl) rfl #[.slice PL l.length cL] (by rfl) rfl rfl (by simp only [List.map_toArray, List.map_cons, List.map_nil]; rfl) ?_
                       with_reducible refine ((HAR.out PL l.length cL _)).mono ?_
                       rintro e wz ⟨rfl, hb⟩
                       refine ⟨_, rfl, ?_⟩
                       have hz := SPO.below hF hb
                       have hzb := SPO.tk 2 hz
                       refine hK.out _ _ (HSp _ hzb) (fun hHeld => ?_)
                       clear hK K
                       refine norm_ (a' := ?_) ?_ ?_
                       rotate_left
                       ·show Act.put _ (some 24) _ = _
                        simp only [Act.put, List.setIfInBounds_toArray, List.set_cons_zero, List.set_cons_succ, i64_w, i32_w]
                        rfl
                       exact norm_ (by simp only [putAll, Act.put, List.setIfInBounds_toArray, List.set_cons_zero, List.set_cons_succ, World.size_alloc] <;> rfl) (hJ1_2_6_9_10 (gp, Gp, Rp9, Rp10, ()) _ hz)
                     ·skip
                      rintro ⟨Gp, Rp9, Rp10, _⟩ w' hF
                      change SPO w [(A, cz Ka Ha sa A3a n3a c3a A4a n4a c4a A5a n5a c5a, 26), (B, cz Kb Hb sb A3b n3b c3b A4b n4b c4b A5b n5b c5b, 26), (Gp, cz Ka Ha sa A3a n3a c3a A4a n4a c4a A5a n5a c5a, 26), (Rp9, zq, 26), (Rp10, zq, 26)] (.slice none 0 0) [] w' at hF
                      have hHeld := HSp _ (SPO.tk 2 hF)
                      refine norm_ (a' := ?_) ?_ ?_
                      rotate_left
                      ·simp only [putAll, Act.put, List.setIfInBounds_toArray, List.set_cons_zero, List.set_cons_succ]
                       rfl
                      refine one_ (i := 2) (N := some 25) #[true, true, true, true, false, true, true, false, false, true, true, false, false] rfl rfl (by kernel_rfl) (by decide) (fun K hK => ?_)
                      refine slice0O_ (L := [(A, cz Ka Ha sa A3a n3a c3a A4a n4a c4a A5a n5a c5a, 26), (B, cz Kb Hb sb A3b n3b c3b A4b n4b c4b A5b n5b c5b, 26), (Gp, cz Ka Ha sa A3a n3a c3a A4a n4a c4a A5a n5a c5a, 26), (Rp9, zq, 26), (Rp10, zq, 26)]) (SPO.spn hF) (by rfl) rfl ?_ ?_
                      ·first | (go_simp; done) | (go_simp; rfl)
                      intro gp wz hz
                      have hzb := SPO.tk 2 hz
                      refine hK.out _ _ (HSp _ hzb) (fun hHeld => ?_)
                      clear hK K
                      refine norm_ (a' := ?_) ?_ ?_
                      rotate_left
                      ·show Act.put _ (some 25) _ = _
                       simp only [Act.put, List.setIfInBounds_toArray, List.set_cons_zero, List.set_cons_succ, i64_w, i32_w]
                       rfl
                      exact norm_ (by simp only [putAll, Act.put, List.setIfInBounds_toArray, List.set_cons_zero, List.set_cons_succ, World.size_alloc] <;> rfl) (hJ1_2_6_9_10 (gp, Gp, Rp9, Rp10, ()) _ hz)
                    ·skip
                     rintro ⟨gp, Rp9, Rp10, _⟩ w' hF
                     change SPO w [(A, cz Ka Ha sa A3a n3a c3a A4a n4a c4a A5a n5a c5a, 26), (B, cz Kb Hb sb A3b n3b c3b A4b n4b c4b A5b n5b c5b, 26), (Rp9, zq, 26), (Rp10, zq, 26)] (.slice (some ⟨gp, 0, none⟩) 0 0) [] w' at hF
                     have hHeld := HSp _ (SPO.tk 2 hF)
                     refine norm_ (a' := ?_) ?_ ?_
                     rotate_left
                     ·simp only [putAll, Act.put, List.setIfInBounds_toArray, List.set_cons_zero, List.set_cons_succ]
                      rfl
                     refine two_ (i := 4) (j := 6) (Ni := some 27) (Nj := some 29) #[true, true, true, true, true, true, false, false, false, true, true, false, false] #[true, true, true, true, false, true, true, false, false, true, true, false, false] rfl rfl rfl rfl (by kernel_rfl) (by decide) (by decide) (fun K hK => ?_) (fun K hK => ?_)
                     ·skip
                      obtain ⟨v1, wz, hr, hz0⟩ := SPO.app hF (HCL.out _ (SPO.bel hF)) (by have := HLN.out; simp; omega)
                      have hz1 : SPO w [(A, cz Ka Ha sa A3a n3a c3a A4a n4a c4a A5a n5a c5a, 26), (B, cz Kb Hb sb A3b n3b c3b A4b n4b c4b A5b n5b c5b, 26), (Rp9, zq, 26), (Rp10, zq, 26)] v1 l wz := hz0
                      obtain ⟨A1p, c1p, rfl, -, -⟩ := SPO.row hz1
                      refine append_step_ (by rfl) rfl rfl rfl (by rfl) (by rfl) hr ?_
                      have hz := hz1
                      have hzb := SPO.tk 2 hz
                      refine hK.out _ _ (HSp _ hzb) (fun hHeld => ?_)
                      clear hK K
                      refine norm_ (a' := ?_) ?_ ?_
                      rotate_left
                      ·show Act.put _ (some 27) _ = _
                       simp only [Act.put, List.setIfInBounds_toArray, List.set_cons_zero, List.set_cons_succ, i64_w, i32_w]
                       rfl
                      exact norm_ (by simp only [putAll, Act.put, List.setIfInBounds_toArray, List.set_cons_zero, List.set_cons_succ, World.size_alloc] <;> rfl) (hJ1_2_4_9_10 (gp, A1p, c1p, Rp9, Rp10, ()) _ hz)
                     ·skip
                      refine boxO_ (c := #[.int .i64 Ka, .int .i64 Ha, .string sa, .slice A3a n3a c3a, .slice A4a n4a c4a, .slice A5a n5a c5a]) (t := 26) hF (by rfl) rfl ?_ ?_
                      ·first | (go_simp; done) | (go_simp; rfl)
                      intro Gp wz hz
                      have hzb := SPO.tk 2 hz
                      refine hK.out _ _ (HSp _ hzb) (fun hHeld => ?_)
                      clear hK K
                      refine norm_ (a' := ?_) ?_ ?_
                      rotate_left
                      ·show Act.put _ (some 29) _ = _
                       simp only [Act.put, List.setIfInBounds_toArray, List.set_cons_zero, List.set_cons_succ, i64_w, i32_w]
                       rfl
                      exact norm_ (by simp only [putAll, Act.put, List.setIfInBounds_toArray, List.set_cons_zero, List.set_cons_succ, World.size_alloc] <;> rfl) (hJ1_2_6_9_10 (gp, Gp, Rp9, Rp10, ()) _ (SPO.prm hz (.cons _ (.cons _ (List.perm_append_comm (l₁ := [_, _]) (l₂ := [_]))))))
                   ·skip
                    rintro ⟨gp, Gp, Rp10, _⟩ w' hF
                    change SPO w [(A, cz Ka Ha sa A3a n3a c3a A4a n4a c4a A5a n5a c5a, 26), (B, cz Kb Hb sb A3b n3b c3b A4b n4b c4b A5b n5b c5b, 26), (Gp, cz Ka Ha sa A3a n3a c3a A4a n4a c4a A5a n5a c5a, 26), (Rp10, zq, 26)] (.slice (some ⟨gp, 0, none⟩) 0 0) [] w' at hF
                    have hHeld := HSp _ (SPO.tk 2 hF)
                    refine norm_ (a' := ?_) ?_ ?_
                    rotate_left
                    ·simp only [putAll, Act.put, List.setIfInBounds_toArray, List.set_cons_zero, List.set_cons_succ]
                     rfl
                    refine two_ (i := 4) (j := 9) (Ni := some 27) (Nj := some 7) #[true, true, true, true, true, true, true, false, false, false, true, false, false] #[true, true, true, true, false, true, true, false, false, true, true, false, false] rfl rfl rfl rfl (by kernel_rfl) (by decide) (by decide) (fun K hK => ?_) (fun K hK => ?_)
                    ·skip
                     obtain ⟨v1, wz, hr, hz0⟩ := SPO.app hF (HCL.out _ (SPO.bel hF)) (by have := HLN.out; simp; omega)
                     have hz1 : SPO w [(A, cz Ka Ha sa A3a n3a c3a A4a n4a c4a A5a n5a c5a, 26), (B, cz Kb Hb sb A3b n3b c3b A4b n4b c4b A5b n5b c5b, 26), (Gp, cz Ka Ha sa A3a n3a c3a A4a n4a c4a A5a n5a c5a, 26), (Rp10, zq, 26)] v1 l wz := hz0
                     obtain ⟨A1p, c1p, rfl, -, -⟩ := SPO.row hz1
                     refine append_step_ (by rfl) rfl rfl rfl (by rfl) (by rfl) hr ?_
                     have hz := hz1
                     have hzb := SPO.tk 2 hz
                     refine hK.out _ _ (HSp _ hzb) (fun hHeld => ?_)
                     clear hK K
                     refine norm_ (a' := ?_) ?_ ?_
                     rotate_left
                     ·show Act.put _ (some 27) _ = _
                      simp only [Act.put, List.setIfInBounds_toArray, List.set_cons_zero, List.set_cons_succ, i64_w, i32_w]
                      rfl
                     exact norm_ (by simp only [putAll, Act.put, List.setIfInBounds_toArray, List.set_cons_zero, List.set_cons_succ, World.size_alloc] <;> rfl) (hJ1_2_4_6_10 (gp, A1p, c1p, Gp, Rp10, ()) _ hz)
                    ·skip
                     refine freshO_ (c := #[.int .i64 0, .int .i64 0, .string ⟨#[]⟩, .slice none 0 0, .slice none 0 0, .slice none 0 0]) (t := 26) hF (by rfl) rfl ?_ ?_
                     ·first | (go_simp; done) | (go_simp; rfl)
                     intro Rp9 wz hz
                     have hzb := SPO.tk 2 hz
                     refine hK.out _ _ (HSp _ hzb) (fun hHeld => ?_)
                     clear hK K
                     refine norm_ (a' := ?_) ?_ ?_
                     rotate_left
                     ·show Act.put _ (some 7) _ = _
                      simp only [Act.put, List.setIfInBounds_toArray, List.set_cons_zero, List.set_cons_succ, i64_w, i32_w]
                      rfl
                     exact norm_ (by simp only [putAll, Act.put, List.setIfInBounds_toArray, List.set_cons_zero, List.set_cons_succ, World.size_alloc] <;> rfl) (hJ1_2_6_9_10 (gp, Gp, Rp9, Rp10, ()) _ (SPO.prm hz (.cons _ (.cons _ (.cons _ (.swap _ _ _))))))
                  ·skip
                   rintro ⟨gp, Gp, Rp9, _⟩ w' hF
                   change SPO w [(A, cz Ka Ha sa A3a n3a c3a A4a n4a c4a A5a n5a c5a, 26), (B, cz Kb Hb sb A3b n3b c3b A4b n4b c4b A5b n5b c5b, 26), (Gp, cz Ka Ha sa A3a n3a c3a A4a n4a c4a A5a n5a c5a, 26), (Rp9, zq, 26)] (.slice (some ⟨gp, 0, none⟩) 0 0) [] w' at hF
                   have hHeld := HSp _ (SPO.tk 2 hF)
                   refine norm_ (a' := ?_) ?_ ?_
                   rotate_left
                   ·simp only [putAll, Act.put, List.setIfInBounds_toArray, List.set_cons_zero, List.set_cons_succ]
                    rfl
                   refine two_ (i := 4) (j := 10) (Ni := some 27) (Nj := some 8) #[true, true, true, true, true, true, true, false, false, true, false, false, false] #[true, true, true, true, false, true, true, false, false, true, true, false, false] rfl rfl rfl rfl (by kernel_rfl) (by decide) (by decide) (fun K hK => ?_) (fun K hK => ?_)
                   ·skip
                    obtain ⟨v1, wz, hr, hz0⟩ := SPO.app hF (HCL.out _ (SPO.bel hF)) (by have := HLN.out; simp; omega)
                    have hz1 : SPO w [(A, cz Ka Ha sa A3a n3a c3a A4a n4a c4a A5a n5a c5a, 26), (B, cz Kb Hb sb A3b n3b c3b A4b n4b c4b A5b n5b c5b, 26), (Gp, cz Ka Ha sa A3a n3a c3a A4a n4a c4a A5a n5a c5a, 26), (Rp9, zq, 26)] v1 l wz := hz0
                    obtain ⟨A1p, c1p, rfl, -, -⟩ := SPO.row hz1
                    refine append_step_ (by rfl) rfl rfl rfl (by rfl) (by rfl) hr ?_
                    have hz := hz1
                    have hzb := SPO.tk 2 hz
                    refine hK.out _ _ (HSp _ hzb) (fun hHeld => ?_)
                    clear hK K
                    refine norm_ (a' := ?_) ?_ ?_
                    rotate_left
                    ·show Act.put _ (some 27) _ = _
                     simp only [Act.put, List.setIfInBounds_toArray, List.set_cons_zero, List.set_cons_succ, i64_w, i32_w]
                     rfl
                    exact norm_ (by simp only [putAll, Act.put, List.setIfInBounds_toArray, List.set_cons_zero, List.set_cons_succ, World.size_alloc] <;> rfl) (hJ1_2_4_6_9 (gp, A1p, c1p, Gp, Rp9, ()) _ hz)
                   ·skip
                    refine freshO_ (c := #[.int .i64 0, .int .i64 0, .string ⟨#[]⟩, .slice none 0 0, .slice none 0 0, .slice none 0 0]) (t := 26) hF (by rfl) rfl ?_ ?_
                    ·first | (go_simp; done) | (go_simp; rfl)
                    intro Rp10 wz hz
                    have hzb := SPO.tk 2 hz
                    refine hK.out _ _ (HSp _ hzb) (fun hHeld => ?_)
                    clear hK K
                    refine norm_ (a' := ?_) ?_ ?_
                    rotate_left
                    ·show Act.put _ (some 8) _ = _
                     simp only [Act.put, List.setIfInBounds_toArray, List.set_cons_zero, List.set_cons_succ, i64_w, i32_w]
                     rfl
                    exact norm_ (by simp only [putAll, Act.put, List.setIfInBounds_toArray, List.set_cons_zero, List.set_cons_succ, World.size_alloc] <;> rfl) (hJ1_2_6_9_10 (gp, Gp, Rp9, Rp10, ()) _ hz)
                 ·skip
                  rintro ⟨gp, A1p, c1p, Rp10, _⟩ w' hF
                  change SPO w [(A, cz Ka Ha sa A3a n3a c3a A4a n4a c4a A5a n5a c5a, 26), (B, cz Kb Hb sb A3b n3b c3b A4b n4b c4b A5b n5b c5b, 26), (Rp10, zq, 26)] (.slice A1p l.length c1p) l w' at hF
                  have hHeld := HSp _ (SPO.tk 2 hF)
                  refine norm_ (a' := ?_) ?_ ?_
                  rotate_left
                  ·simp only [putAll, Act.put, List.setIfInBounds_toArray, List.set_cons_zero, List.set_cons_succ]
                   rfl
                  refine two_ (i := 6) (j := 9) (Ni := some 29) (Nj := some 7) #[true, true, true, true, true, true, true, false, false, false, true, false, false] #[true, true, true, true, true, true, false, false, false, true, true, false, false] rfl rfl rfl rfl (by kernel_rfl) (by decide) (by decide) (fun K hK => ?_) (fun K hK => ?_)
                  ·skip
                   refine boxO_ (c := #[.int .i64 Ka, .int .i64 Ha, .string sa, .slice A3a n3a c3a, .slice A4a n4a c4a, .slice A5a n5a c5a]) (t := 26) hF (by rfl) rfl ?_ ?_
                   ·first | (go_simp; done) | (go_simp; rfl)
                   intro Gp wz hz
                   have hzb := SPO.tk 2 hz
                   refine hK.out _ _ (HSp _ hzb) (fun hHeld => ?_)
                   clear hK K
                   refine norm_ (a' := ?_) ?_ ?_
                   rotate_left
                   ·show Act.put _ (some 29) _ = _
                    simp only [Act.put, List.setIfInBounds_toArray, List.set_cons_zero, List.set_cons_succ, i64_w, i32_w]
                    rfl
                   exact norm_ (by simp only [putAll, Act.put, List.setIfInBounds_toArray, List.set_cons_zero, List.set_cons_succ, World.size_alloc] <;> rfl) (hJ1_2_4_6_10 (gp, A1p, c1p, Gp, Rp10, ()) _ (SPO.prm hz (.cons _ (.cons _ (.swap _ _ _)))))
                  ·skip
                   refine freshO_ (c := #[.int .i64 0, .int .i64 0, .string ⟨#[]⟩, .slice none 0 0, .slice none 0 0, .slice none 0 0]) (t := 26) hF (by rfl) rfl ?_ ?_
                   ·first | (go_simp; done) | (go_simp; rfl)
                   intro Rp9 wz hz
                   have hzb := SPO.tk 2 hz
                   refine hK.out _ _ (HSp _ hzb) (fun hHeld => ?_)
                   clear hK K
                   refine norm_ (a' := ?_) ?_ ?_
                   rotate_left
                   ·show Act.put _ (some 7) _ = _
                    simp only [Act.put, List.setIfInBounds_toArray, List.set_cons_zero, List.set_cons_succ, i64_w, i32_w]
                    rfl
                   exact norm_ (by simp only [putAll, Act.put, List.setIfInBounds_toArray, List.set_cons_zero, List.set_cons_succ, World.size_alloc] <;> rfl) (hJ1_2_4_9_10 (gp, A1p, c1p, Rp9, Rp10, ()) _ (SPO.prm hz (.cons _ (.cons _ (.swap _ _ _)))))
                ·skip
                 rintro ⟨gp, A1p, c1p, Rp9, _⟩ w' hF
                 change SPO w [(A, cz Ka Ha sa A3a n3a c3a A4a n4a c4a A5a n5a c5a, 26), (B, cz Kb Hb sb A3b n3b c3b A4b n4b c4b A5b n5b c5b, 26), (Rp9, zq, 26)] (.slice A1p l.length c1p) l w' at hF
                 have hHeld := HSp _ (SPO.tk 2 hF)
                 refine norm_ (a' := ?_) ?_ ?_
                 rotate_left
                 ·simp only [putAll, Act.put, List.setIfInBounds_toArray, List.set_cons_zero, List.set_cons_succ]
                  rfl
                 refine two_ (i := 6) (j := 10) (Ni := some 29) (Nj := some 8) #[true, true, true, true, true, true, true, false, false, true, false, false, false] #[true, true, true, true, true, true, false, false, false, true, true, false, false] rfl rfl rfl rfl (by kernel_rfl) (by decide) (by decide) (fun K hK => ?_) (fun K hK => ?_)
                 ·skip
                  refine boxO_ (c := #[.int .i64 Ka, .int .i64 Ha, .string sa, .slice A3a n3a c3a, .slice A4a n4a c4a, .slice A5a n5a c5a]) (t := 26) hF (by rfl) rfl ?_ ?_
                  ·first | (go_simp; done) | (go_simp; rfl)
                  intro Gp wz hz
                  have hzb := SPO.tk 2 hz
                  refine hK.out _ _ (HSp _ hzb) (fun hHeld => ?_)
                  clear hK K
                  refine norm_ (a' := ?_) ?_ ?_
                  rotate_left
                  ·show Act.put _ (some 29) _ = _
                   simp only [Act.put, List.setIfInBounds_toArray, List.set_cons_zero, List.set_cons_succ, i64_w, i32_w]
                   rfl
                  exact norm_ (by simp only [putAll, Act.put, List.setIfInBounds_toArray, List.set_cons_zero, List.set_cons_succ, World.size_alloc] <;> rfl) (hJ1_2_4_6_9 (gp, A1p, c1p, Gp, Rp9, ()) _ (SPO.prm hz (.cons _ (.cons _ (.swap _ _ _)))))
                 ·skip
                  refine freshO_ (c := #[.int .i64 0, .int .i64 0, .string ⟨#[]⟩, .slice none 0 0, .slice none 0 0, .slice none 0 0]) (t := 26) hF (by rfl) rfl ?_ ?_
                  ·first | (go_simp; done) | (go_simp; rfl)
                  intro Rp10 wz hz
                  have hzb := SPO.tk 2 hz
                  refine hK.out _ _ (HSp _ hzb) (fun hHeld => ?_)
                  clear hK K
                  refine norm_ (a' := ?_) ?_ ?_
                  rotate_left
                  ·show Act.put _ (some 8) _ = _
                   simp only [Act.put, List.setIfInBounds_toArray, List.set_cons_zero, List.set_cons_succ, i64_w, i32_w]
                   rfl
                  exact norm_ (by simp only [putAll, Act.put, List.setIfInBounds_toArray, List.set_cons_zero, List.set_cons_succ, World.size_alloc] <;> rfl) (hJ1_2_4_9_10 (gp, A1p, c1p, Rp9, Rp10, ()) _ hz)
               ·skip
                rintro ⟨gp, A1p, c1p, Gp, _⟩ w' hF
                change SPO w [(A, cz Ka Ha sa A3a n3a c3a A4a n4a c4a A5a n5a c5a, 26), (B, cz Kb Hb sb A3b n3b c3b A4b n4b c4b A5b n5b c5b, 26), (Gp, cz Ka Ha sa A3a n3a c3a A4a n4a c4a A5a n5a c5a, 26)] (.slice A1p l.length c1p) l w' at hF
                have hHeld := HSp _ (SPO.tk 2 hF)
                refine norm_ (a' := ?_) ?_ ?_
                rotate_left
                ·simp only [putAll, Act.put, List.setIfInBounds_toArray, List.set_cons_zero, List.set_cons_succ]
                 rfl
                refine three_ (i := 7) (j := 9) (k := 10) (Ni := some 30) (Nj := some 7) (Nk := some 8) #[true, true, true, true, true, true, true, true, false, false, false, false, false] #[true, true, true, true, true, true, true, false, false, true, false, false, false] #[true, true, true, true, true, true, true, false, false, false, true, false, false] rfl rfl rfl rfl rfl rfl (by kernel_rfl) (by decide) (by decide) (by decide) (fun K hK => ?_) (fun K hK => ?_) (fun K hK => ?_)
                ·skip
                 obtain ⟨v1, wz, hr, hz0⟩ := SPO.app hF (SPO.one hF 2 rfl HKa.out) (by have := HLN.out; simp; omega)
                 have hz1 : SPO w [(A, cz Ka Ha sa A3a n3a c3a A4a n4a c4a A5a n5a c5a, 26), (B, cz Kb Hb sb A3b n3b c3b A4b n4b c4b A5b n5b c5b, 26), (Gp, cz Ka Ha sa A3a n3a c3a A4a n4a c4a A5a n5a c5a, 26)] v1 (l ++ [xa]) wz := hz0
                 obtain ⟨A2p, c2p, rfl, -, -⟩ := SPO.row1 hz1
                 refine append_step_ (by rfl) rfl rfl rfl (by rfl) (by rfl) hr ?_
                 have hz := hz1
                 have hzb := SPO.tk 2 hz
                 refine hK.out _ _ (HSp _ hzb) (fun hHeld => ?_)
                 clear hK K
                 refine norm_ (a' := ?_) ?_ ?_
                 rotate_left
                 ·show Act.put _ (some 30) _ = _
                  simp only [Act.put, List.setIfInBounds_toArray, List.set_cons_zero, List.set_cons_succ, i64_w, i32_w]
                  rfl
                 exact norm_ (by simp only [putAll, Act.put, List.setIfInBounds_toArray, List.set_cons_zero, List.set_cons_succ, World.size_alloc] <;> rfl) (hJ1_2_4_6_7 (gp, A1p, c1p, A2p, c2p, Gp, ()) _ hz)
                ·skip
                 refine freshO_ (c := #[.int .i64 0, .int .i64 0, .string ⟨#[]⟩, .slice none 0 0, .slice none 0 0, .slice none 0 0]) (t := 26) hF (by rfl) rfl ?_ ?_
                 ·first | (go_simp; done) | (go_simp; rfl)
                 intro Rp9 wz hz
                 have hzb := SPO.tk 2 hz
                 refine hK.out _ _ (HSp _ hzb) (fun hHeld => ?_)
                 clear hK K
                 refine norm_ (a' := ?_) ?_ ?_
                 rotate_left
                 ·show Act.put _ (some 7) _ = _
                  simp only [Act.put, List.setIfInBounds_toArray, List.set_cons_zero, List.set_cons_succ, i64_w, i32_w]
                  rfl
                 exact norm_ (by simp only [putAll, Act.put, List.setIfInBounds_toArray, List.set_cons_zero, List.set_cons_succ, World.size_alloc] <;> rfl) (hJ1_2_4_6_9 (gp, A1p, c1p, Gp, Rp9, ()) _ hz)
                ·skip
                 refine freshO_ (c := #[.int .i64 0, .int .i64 0, .string ⟨#[]⟩, .slice none 0 0, .slice none 0 0, .slice none 0 0]) (t := 26) hF (by rfl) rfl ?_ ?_
                 ·first | (go_simp; done) | (go_simp; rfl)
                 intro Rp10 wz hz
                 have hzb := SPO.tk 2 hz
                 refine hK.out _ _ (HSp _ hzb) (fun hHeld => ?_)
                 clear hK K
                 refine norm_ (a' := ?_) ?_ ?_
                 rotate_left
                 ·show Act.put _ (some 8) _ = _
                  simp only [Act.put, List.setIfInBounds_toArray, List.set_cons_zero, List.set_cons_succ, i64_w, i32_w]
                  rfl
                 exact norm_ (by simp only [putAll, Act.put, List.setIfInBounds_toArray, List.set_cons_zero, List.set_cons_succ, World.size_alloc] <;> rfl) (hJ1_2_4_6_10 (gp, A1p, c1p, Gp, Rp10, ()) _ hz)
              ·skip
               rintro ⟨gp, Gp, Rp9, Rp10, _⟩ w' hF
               change SPO w [(A, cz Ka Ha sa A3a n3a c3a A4a n4a c4a A5a n5a c5a, 26), (B, cz Kb Hb sb A3b n3b c3b A4b n4b c4b A5b n5b c5b, 26), (Gp, cz Ka Ha sa A3a n3a c3a A4a n4a c4a A5a n5a c5a, 26), (Rp9, zq, 26), (Rp10, zq, 26)] (.slice (some ⟨gp, 0, none⟩) 0 0) [] w' at hF
               have hHeld := HSp _ (SPO.tk 2 hF)
               refine norm_ (a' := ?_) ?_ ?_
               rotate_left
               ·simp only [putAll, Act.put, List.setIfInBounds_toArray, List.set_cons_zero, List.set_cons_succ]
                rfl
               refine one_ (i := 4) (N := some 27) #[true, true, true, true, true, true, true, false, false, true, true, false, false] rfl rfl (by kernel_rfl) (by decide) (fun K hK => ?_)
               obtain ⟨v1, wz, hr, hz0⟩ := SPO.app hF (HCL.out _ (SPO.bel hF)) (by have := HLN.out; simp; omega)
               have hz1 : SPO w [(A, cz Ka Ha sa A3a n3a c3a A4a n4a c4a A5a n5a c5a, 26), (B, cz Kb Hb sb A3b n3b c3b A4b n4b c4b A5b n5b c5b, 26), (Gp, cz Ka Ha sa A3a n3a c3a A4a n4a c4a A5a n5a c5a, 26), (Rp9, zq, 26), (Rp10, zq, 26)] v1 l wz := hz0
               obtain ⟨A1p, c1p, rfl, -, -⟩ := SPO.row hz1
               refine append_step_ (by rfl) rfl rfl rfl (by rfl) (by rfl) hr ?_
               have hz := hz1
               have hzb := SPO.tk 2 hz
               refine hK.out _ _ (HSp _ hzb) (fun hHeld => ?_)
               clear hK K
               refine norm_ (a' := ?_) ?_ ?_
               rotate_left
               ·show Act.put _ (some 27) _ = _
                simp only [Act.put, List.setIfInBounds_toArray, List.set_cons_zero, List.set_cons_succ, i64_w, i32_w]
                rfl
               exact norm_ (by simp only [putAll, Act.put, List.setIfInBounds_toArray, List.set_cons_zero, List.set_cons_succ, World.size_alloc] <;> rfl) (hJ1_2_4_6_9_10 (gp, A1p, c1p, Gp, Rp9, Rp10, ()) _ hz)
             ·skip
              rintro ⟨gp, A1p, c1p, Rp9, Rp10, _⟩ w' hF
              change SPO w [(A, cz Ka Ha sa A3a n3a c3a A4a n4a c4a A5a n5a c5a, 26), (B, cz Kb Hb sb A3b n3b c3b A4b n4b c4b A5b n5b c5b, 26), (Rp9, zq, 26), (Rp10, zq, 26)] (.slice A1p l.length c1p) l w' at hF
              have hHeld := HSp _ (SPO.tk 2 hF)
              refine norm_ (a' := ?_) ?_ ?_
              rotate_left
              ·simp only [putAll, Act.put, List.setIfInBounds_toArray, List.set_cons_zero, List.set_cons_succ]
               rfl
              refine one_ (i := 6) (N := some 29) #[true, true, true, true, true, true, true, false, false, true, true, false, false] rfl rfl (by kernel_rfl) (by decide) (fun K hK => ?_)
              refine boxO_ (c := #[.int .i64 Ka, .int .i64 Ha, .string sa, .slice A3a n3a c3a, .slice A4a n4a c4a, .slice A5a n5a c5a]) (t := 26) hF (by rfl) rfl ?_ ?_
              ·first | (go_simp; done) | (go_simp; rfl)
              intro Gp wz hz
              have hzb := SPO.tk 2 hz
              refine hK.out _ _ (HSp _ hzb) (fun hHeld => ?_)
              clear hK K
              refine norm_ (a' := ?_) ?_ ?_
              rotate_left
              ·show Act.put _ (some 29) _ = _
               simp only [Act.put, List.setIfInBounds_toArray, List.set_cons_zero, List.set_cons_succ, i64_w, i32_w]
               rfl
              exact norm_ (by simp only [putAll, Act.put, List.setIfInBounds_toArray, List.set_cons_zero, List.set_cons_succ, World.size_alloc] <;> rfl) (hJ1_2_4_6_9_10 (gp, A1p, c1p, Gp, Rp9, Rp10, ()) _ (SPO.prm hz (.cons _ (.cons _ (List.perm_append_comm (l₁ := [_, _]) (l₂ := [_]))))))
            ·skip
             rintro ⟨gp, A1p, c1p, Gp, Rp10, _⟩ w' hF
             change SPO w [(A, cz Ka Ha sa A3a n3a c3a A4a n4a c4a A5a n5a c5a, 26), (B, cz Kb Hb sb A3b n3b c3b A4b n4b c4b A5b n5b c5b, 26), (Gp, cz Ka Ha sa A3a n3a c3a A4a n4a c4a A5a n5a c5a, 26), (Rp10, zq, 26)] (.slice A1p l.length c1p) l w' at hF
             have hHeld := HSp _ (SPO.tk 2 hF)
             refine norm_ (a' := ?_) ?_ ?_
             rotate_left
             ·simp only [putAll, Act.put, List.setIfInBounds_toArray, List.set_cons_zero, List.set_cons_succ]
              rfl
             refine two_ (i := 7) (j := 9) (Ni := some 30) (Nj := some 7) #[true, true, true, true, true, true, true, true, false, false, true, false, false] #[true, true, true, true, true, true, true, false, false, true, true, false, false] rfl rfl rfl rfl (by kernel_rfl) (by decide) (by decide) (fun K hK => ?_) (fun K hK => ?_)
             ·skip
              obtain ⟨v1, wz, hr, hz0⟩ := SPO.app hF (SPO.one hF 2 rfl HKa.out) (by have := HLN.out; simp; omega)
              have hz1 : SPO w [(A, cz Ka Ha sa A3a n3a c3a A4a n4a c4a A5a n5a c5a, 26), (B, cz Kb Hb sb A3b n3b c3b A4b n4b c4b A5b n5b c5b, 26), (Gp, cz Ka Ha sa A3a n3a c3a A4a n4a c4a A5a n5a c5a, 26), (Rp10, zq, 26)] v1 (l ++ [xa]) wz := hz0
              obtain ⟨A2p, c2p, rfl, -, -⟩ := SPO.row1 hz1
              refine append_step_ (by rfl) rfl rfl rfl (by rfl) (by rfl) hr ?_
              have hz := hz1
              have hzb := SPO.tk 2 hz
              refine hK.out _ _ (HSp _ hzb) (fun hHeld => ?_)
              clear hK K
              refine norm_ (a' := ?_) ?_ ?_
              rotate_left
              ·show Act.put _ (some 30) _ = _
               simp only [Act.put, List.setIfInBounds_toArray, List.set_cons_zero, List.set_cons_succ, i64_w, i32_w]
               rfl
              exact norm_ (by simp only [putAll, Act.put, List.setIfInBounds_toArray, List.set_cons_zero, List.set_cons_succ, World.size_alloc] <;> rfl) (hJ1_2_4_6_7_10 (gp, A1p, c1p, A2p, c2p, Gp, Rp10, ()) _ hz)
             ·skip
              refine freshO_ (c := #[.int .i64 0, .int .i64 0, .string ⟨#[]⟩, .slice none 0 0, .slice none 0 0, .slice none 0 0]) (t := 26) hF (by rfl) rfl ?_ ?_
              ·first | (go_simp; done) | (go_simp; rfl)
              intro Rp9 wz hz
              have hzb := SPO.tk 2 hz
              refine hK.out _ _ (HSp _ hzb) (fun hHeld => ?_)
              clear hK K
              refine norm_ (a' := ?_) ?_ ?_
              rotate_left
              ·show Act.put _ (some 7) _ = _
               simp only [Act.put, List.setIfInBounds_toArray, List.set_cons_zero, List.set_cons_succ, i64_w, i32_w]
               rfl
              exact norm_ (by simp only [putAll, Act.put, List.setIfInBounds_toArray, List.set_cons_zero, List.set_cons_succ, World.size_alloc] <;> rfl) (hJ1_2_4_6_9_10 (gp, A1p, c1p, Gp, Rp9, Rp10, ()) _ (SPO.prm hz (.cons _ (.cons _ (.cons _ (.swap _ _ _))))))
           ·skip
            rintro ⟨gp, A1p, c1p, Gp, Rp9, _⟩ w' hF
            change SPO w [(A, cz Ka Ha sa A3a n3a c3a A4a n4a c4a A5a n5a c5a, 26), (B, cz Kb Hb sb A3b n3b c3b A4b n4b c4b A5b n5b c5b, 26), (Gp, cz Ka Ha sa A3a n3a c3a A4a n4a c4a A5a n5a c5a, 26), (Rp9, zq, 26)] (.slice A1p l.length c1p) l w' at hF
            have hHeld := HSp _ (SPO.tk 2 hF)
            refine norm_ (a' := ?_) ?_ ?_
            rotate_left
            ·simp only [putAll, Act.put, List.setIfInBounds_toArray, List.set_cons_zero, List.set_cons_succ]
             rfl
            refine two_ (i := 7) (j := 10) (Ni := some 30) (Nj := some 8) #[true, true, true, true, true, true, true, true, false, true, false, false, false] #[true, true, true, true, true, true, true, false, false, true, true, false, false] rfl rfl rfl rfl (by kernel_rfl) (by decide) (by decide) (fun K hK => ?_) (fun K hK => ?_)
            ·skip
             obtain ⟨v1, wz, hr, hz0⟩ := SPO.app hF (SPO.one hF 2 rfl HKa.out) (by have := HLN.out; simp; omega)
             have hz1 : SPO w [(A, cz Ka Ha sa A3a n3a c3a A4a n4a c4a A5a n5a c5a, 26), (B, cz Kb Hb sb A3b n3b c3b A4b n4b c4b A5b n5b c5b, 26), (Gp, cz Ka Ha sa A3a n3a c3a A4a n4a c4a A5a n5a c5a, 26), (Rp9, zq, 26)] v1 (l ++ [xa]) wz := hz0
             obtain ⟨A2p, c2p, rfl, -, -⟩ := SPO.row1 hz1
             refine append_step_ (by rfl) rfl rfl rfl (by rfl) (by rfl) hr ?_
             have hz := hz1
             have hzb := SPO.tk 2 hz
             refine hK.out _ _ (HSp _ hzb) (fun hHeld => ?_)
             clear hK K
             refine norm_ (a' := ?_) ?_ ?_
             rotate_left
             ·show Act.put _ (some 30) _ = _
              simp only [Act.put, List.setIfInBounds_toArray, List.set_cons_zero, List.set_cons_succ, i64_w, i32_w]
              rfl
             exact norm_ (by simp only [putAll, Act.put, List.setIfInBounds_toArray, List.set_cons_zero, List.set_cons_succ, World.size_alloc] <;> rfl) (hJ1_2_4_6_7_9 (gp, A1p, c1p, A2p, c2p, Gp, Rp9, ()) _ hz)
            ·skip
             refine freshO_ (c := #[.int .i64 0, .int .i64 0, .string ⟨#[]⟩, .slice none 0 0, .slice none 0 0, .slice none 0 0]) (t := 26) hF (by rfl) rfl ?_ ?_
             ·first | (go_simp; done) | (go_simp; rfl)
             intro Rp10 wz hz
             have hzb := SPO.tk 2 hz
             refine hK.out _ _ (HSp _ hzb) (fun hHeld => ?_)
             clear hK K
             refine norm_ (a' := ?_) ?_ ?_
             rotate_left
             ·show Act.put _ (some 8) _ = _
              simp only [Act.put, List.setIfInBounds_toArray, List.set_cons_zero, List.set_cons_succ, i64_w, i32_w]
              rfl
             exact norm_ (by simp only [putAll, Act.put, List.setIfInBounds_toArray, List.set_cons_zero, List.set_cons_succ, World.size_alloc] <;> rfl) (hJ1_2_4_6_9_10 (gp, A1p, c1p, Gp, Rp9, Rp10, ()) _ hz)
          ·skip
           rintro ⟨gp, A1p, c1p, A2p, c2p, Gp, _⟩ w' hF
           change SPO w [(A, cz Ka Ha sa A3a n3a c3a A4a n4a c4a A5a n5a c5a, 26), (B, cz Kb Hb sb A3b n3b c3b A4b n4b c4b A5b n5b c5b, 26), (Gp, cz Ka Ha sa A3a n3a c3a A4a n4a c4a A5a n5a c5a, 26)] (.slice A2p (l.length + 1) c2p) (l ++ [xa]) w' at hF
           have hHeld := HSp _ (SPO.tk 2 hF)
           refine norm_ (a' := ?_) ?_ ?_
           rotate_left
           ·simp only [putAll, Act.put, List.setIfInBounds_toArray, List.set_cons_zero, List.set_cons_succ]
            rfl
           refine three_ (i := 8) (j := 9) (k := 10) (Ni := some 31) (Nj := some 7) (Nk := some 8) #[true, true, true, true, true, true, true, true, true, false, false, false, false] #[true, true, true, true, true, true, true, true, false, true, false, false, false] #[true, true, true, true, true, true, true, true, false, false, true, false, false] rfl rfl rfl rfl rfl rfl (by kernel_rfl) (by decide) (by decide) (by decide) (fun K hK => ?_) (fun K hK => ?_) (fun K hK => ?_)
           ·skip
            refine goes_ Tryz.func13 (by kernel_rfl) rfl #[.slice A2p (l.length + 1) c2p] (by rfl) rfl rfl (by simp only [List.map_toArray, List.map_cons, List.map_nil]; rfl) ?_
            with_reducible refine ((HAR.out A2p (l.length + 1) c2p _)).mono ?_
            rintro e wz ⟨rfl, hb⟩
            refine ⟨_, rfl, ?_⟩
            have hz := SPO.below hF hb
            have hzb := SPO.tk 2 hz
            refine hK.out _ _ (HSp _ hzb) (fun hHeld => ?_)
            clear hK K
            refine norm_ (a' := ?_) ?_ ?_
            rotate_left
            ·show Act.put _ (some 31) _ = _
             simp only [Act.put, List.setIfInBounds_toArray, List.set_cons_zero, List.set_cons_succ, i64_w, i32_w]
             rfl
            exact norm_ (by simp only [putAll, Act.put, List.setIfInBounds_toArray, List.set_cons_zero, List.set_cons_succ, World.size_alloc] <;> rfl) (hJ1_2_4_6_7_8 (gp, A1p, c1p, A2p, c2p, Gp, ()) _ hz)
           ·skip
            refine freshO_ (c := #[.int .i64 0, .int .i64 0, .string ⟨#[]⟩, .slice none 0 0, .slice none 0 0, .slice none 0 0]) (t := 26) hF (by rfl) rfl ?_ ?_
            ·first | (go_simp; done) | (go_simp; rfl)
            intro Rp9 wz hz
            have hzb := SPO.tk 2 hz
            refine hK.out _ _ (HSp _ hzb) (fun hHeld => ?_)
            clear hK K
            refine norm_ (a' := ?_) ?_ ?_
            rotate_left
            ·show Act.put _ (some 7) _ = _
             simp only [Act.put, List.setIfInBounds_toArray, List.set_cons_zero, List.set_cons_succ, i64_w, i32_w]
             rfl
            exact norm_ (by simp only [putAll, Act.put, List.setIfInBounds_toArray, List.set_cons_zero, List.set_cons_succ, World.size_alloc] <;> rfl) (hJ1_2_4_6_7_9 (gp, A1p, c1p, A2p, c2p, Gp, Rp9, ()) _ hz)
           ·skip
            refine freshO_ (c := #[.int .i64 0, .int .i64 0, .string ⟨#[]⟩, .slice none 0 0, .slice none 0 0, .slice none 0 0]) (t := 26) hF (by rfl) rfl ?_ ?_
            ·first | (go_simp; done) | (go_simp; rfl)
            intro Rp10 wz hz
            have hzb := SPO.tk 2 hz
            refine hK.out _ _ (HSp _ hzb) (fun hHeld => ?_)
            clear hK K
            refine norm_ (a' := ?_) ?_ ?_
            rotate_left
            ·show Act.put _ (some 8) _ = _
             simp only [Act.put, List.setIfInBounds_toArray, List.set_cons_zero, List.set_cons_succ, i64_w, i32_w]
             rfl
            exact norm_ (by simp only [putAll, Act.put, List.setIfInBounds_toArray, List.set_cons_zero, List.set_cons_succ, World.size_alloc] <;> rfl) (hJ1_2_4_6_7_10 (gp, A1p, c1p, A2p, c2p, Gp, Rp10, ()) _ hz)
         ·skip
          rintro ⟨gp, A1p, c1p, Gp, Rp9, Rp10, _⟩ w' hF
          change SPO w [(A, cz Ka Ha sa A3a n3a c3a A4a n4a c4a A5a n5a c5a, 26), (B, cz Kb Hb sb A3b n3b c3b A4b n4b c4b A5b n5b c5b, 26), (Gp, cz Ka Ha sa A3a n3a c3a A4a n4a c4a A5a n5a c5a, 26), (Rp9, zq, 26), (Rp10, zq, 26)] (.slice A1p l.length c1p) l w' at hF
          have hHeld := HSp _ (SPO.tk 2 hF)
          refine norm_ (a' := ?_) ?_ ?_
          rotate_left
          ·simp only [putAll, Act.put, List.setIfInBounds_toArray, List.set_cons_zero, List.set_cons_succ]
           rfl
          refine one_ (i := 7) (N := some 30) #[true, true, true, true, true, true, true, true, false, true, true, false, false] rfl rfl (by kernel_rfl) (by decide) (fun K hK => ?_)
          obtain ⟨v1, wz, hr, hz0⟩ := SPO.app hF (SPO.one hF 2 rfl HKa.out) (by have := HLN.out; simp; omega)
          have hz1 : SPO w [(A, cz Ka Ha sa A3a n3a c3a A4a n4a c4a A5a n5a c5a, 26), (B, cz Kb Hb sb A3b n3b c3b A4b n4b c4b A5b n5b c5b, 26), (Gp, cz Ka Ha sa A3a n3a c3a A4a n4a c4a A5a n5a c5a, 26), (Rp9, zq, 26), (Rp10, zq, 26)] v1 (l ++ [xa]) wz := hz0
          obtain ⟨A2p, c2p, rfl, -, -⟩ := SPO.row1 hz1
          refine append_step_ (by rfl) rfl rfl rfl (by rfl) (by rfl) hr ?_
          have hz := hz1
          have hzb := SPO.tk 2 hz
          refine hK.out _ _ (HSp _ hzb) (fun hHeld => ?_)
          clear hK K
          refine norm_ (a' := ?_) ?_ ?_
          rotate_left
          ·show Act.put _ (some 30) _ = _
           simp only [Act.put, List.setIfInBounds_toArray, List.set_cons_zero, List.set_cons_succ, i64_w, i32_w]
           rfl
          exact norm_ (by simp only [putAll, Act.put, List.setIfInBounds_toArray, List.set_cons_zero, List.set_cons_succ, World.size_alloc] <;> rfl) (hJ1_2_4_6_7_9_10 (gp, A1p, c1p, A2p, c2p, Gp, Rp9, Rp10, ()) _ hz)
        ·skip
         rintro ⟨gp, A1p, c1p, A2p, c2p, Gp, Rp10, _⟩ w' hF
         change SPO w [(A, cz Ka Ha sa A3a n3a c3a A4a n4a c4a A5a n5a c5a, 26), (B, cz Kb Hb sb A3b n3b c3b A4b n4b c4b A5b n5b c5b, 26), (Gp, cz Ka Ha sa A3a n3a c3a A4a n4a c4a A5a n5a c5a, 26), (Rp10, zq, 26)] (.slice A2p (l.length + 1) c2p) (l ++ [xa]) w' at hF
         have hHeld := HSp _ (SPO.tk 2 hF)
         refine norm_ (a' := ?_) ?_ ?_
         rotate_left
         ·simp only [putAll, Act.put, List.setIfInBounds_toArray, List.set_cons_zero, List.set_cons_succ]
          rfl
         refine two_ (i := 8) (j := 9) (Ni := some 31) (Nj := some 7) #[true, true, true, true, true, true, true, true, true, false, true, false, false] #[true, true, true, true, true, true, true, true, false, true, true, false, false] rfl rfl rfl rfl (by kernel_rfl) (by decide) (by decide) (fun K hK => ?_) (fun K hK => ?_)
         ·skip
          refine goes_ Tryz.func13 (by kernel_rfl) rfl #[.slice A2p (l.length + 1) c2p] (by rfl) rfl rfl (by simp only [List.map_toArray, List.map_cons, List.map_nil]; rfl) ?_
          with_reducible refine ((HAR.out A2p (l.length + 1) c2p _)).mono ?_
          rintro e wz ⟨rfl, hb⟩
          refine ⟨_, rfl, ?_⟩
          have hz := SPO.below hF hb
          have hzb := SPO.tk 2 hz
          refine hK.out _ _ (HSp _ hzb) (fun hHeld => ?_)
          clear hK K
          refine norm_ (a' := ?_) ?_ ?_
          rotate_left
          ·show Act.put _ (some 31) _ = _
           simp only [Act.put, List.setIfInBounds_toArray, List.set_cons_zero, List.set_cons_succ, i64_w, i32_w]
           rfl
          exact norm_ (by simp only [putAll, Act.put, List.setIfInBounds_toArray, List.set_cons_zero, List.set_cons_succ, World.size_alloc] <;> rfl) (hJ1_2_4_6_7_8_10 (gp, A1p, c1p, A2p, c2p, Gp, Rp10, ()) _ hz)
         ·skip
          refine freshO_ (c := #[.int .i64 0, .int .i64 0, .string ⟨#[]⟩, .slice none 0 0, .slice none 0 0, .slice none 0 0]) (t := 26) hF (by rfl) rfl ?_ ?_
          ·first | (go_simp; done) | (go_simp; rfl)
          intro Rp9 wz hz
          have hzb := SPO.tk 2 hz
          refine hK.out _ _ (HSp _ hzb) (fun hHeld => ?_)
          clear hK K
          refine norm_ (a' := ?_) ?_ ?_
          rotate_left
          ·show Act.put _ (some 7) _ = _
           simp only [Act.put, List.setIfInBounds_toArray, List.set_cons_zero, List.set_cons_succ, i64_w, i32_w]
           rfl
          exact norm_ (by simp only [putAll, Act.put, List.setIfInBounds_toArray, List.set_cons_zero, List.set_cons_succ, World.size_alloc] <;> rfl) (hJ1_2_4_6_7_9_10 (gp, A1p, c1p, A2p, c2p, Gp, Rp9, Rp10, ()) _ (SPO.prm hz (.cons _ (.cons _ (.cons _ (.swap _ _ _))))))
       ·skip
        rintro ⟨gp, A1p, c1p, A2p, c2p, Gp, Rp9, _⟩ w' hF
        change SPO w [(A, cz Ka Ha sa A3a n3a c3a A4a n4a c4a A5a n5a c5a, 26), (B, cz Kb Hb sb A3b n3b c3b A4b n4b c4b A5b n5b c5b, 26), (Gp, cz Ka Ha sa A3a n3a c3a A4a n4a c4a A5a n5a c5a, 26), (Rp9, zq, 26)] (.slice A2p (l.length + 1) c2p) (l ++ [xa]) w' at hF
        have hHeld := HSp _ (SPO.tk 2 hF)
        refine norm_ (a' := ?_) ?_ ?_
        rotate_left
        ·simp only [putAll, Act.put, List.setIfInBounds_toArray, List.set_cons_zero, List.set_cons_succ]
         rfl
        refine two_ (i := 8) (j := 10) (Ni := some 31) (Nj := some 8) #[true, true, true, true, true, true, true, true, true, true, false, false, false] #[true, true, true, true, true, true, true, true, false, true, true, false, false] rfl rfl rfl rfl (by kernel_rfl) (by decide) (by decide) (fun K hK => ?_) (fun K hK => ?_)
        ·skip
         refine goes_ Tryz.func13 (by kernel_rfl) rfl #[.slice A2p (l.length + 1) c2p] (by rfl) rfl rfl (by simp only [List.map_toArray, List.map_cons, List.map_nil]; rfl) ?_
         with_reducible refine ((HAR.out A2p (l.length + 1) c2p _)).mono ?_
         rintro e wz ⟨rfl, hb⟩
         refine ⟨_, rfl, ?_⟩
         have hz := SPO.below hF hb
         have hzb := SPO.tk 2 hz
         refine hK.out _ _ (HSp _ hzb) (fun hHeld => ?_)
         clear hK K
         refine norm_ (a' := ?_) ?_ ?_
         rotate_left
         ·show Act.put _ (some 31) _ = _
          simp only [Act.put, List.setIfInBounds_toArray, List.set_cons_zero, List.set_cons_succ, i64_w, i32_w]
          rfl
         exact norm_ (by simp only [putAll, Act.put, List.setIfInBounds_toArray, List.set_cons_zero, List.set_cons_succ, World.size_alloc] <;> rfl) (hJ1_2_4_6_7_8_9 (gp, A1p, c1p, A2p, c2p, Gp, Rp9, ()) _ hz)
        ·skip
         refine freshO_ (c := #[.int .i64 0, .int .i64 0, .string ⟨#[]⟩, .slice none 0 0, .slice none 0 0, .slice none 0 0]) (t := 26) hF (by rfl) rfl ?_ ?_
         ·first | (go_simp; done) | (go_simp; rfl)
         intro Rp10 wz hz
         have hzb := SPO.tk 2 hz
         refine hK.out _ _ (HSp _ hzb) (fun hHeld => ?_)
         clear hK K
         refine norm_ (a' := ?_) ?_ ?_
         rotate_left
         ·show Act.put _ (some 8) _ = _
          simp only [Act.put, List.setIfInBounds_toArray, List.set_cons_zero, List.set_cons_succ, i64_w, i32_w]
          rfl
         exact norm_ (by simp only [putAll, Act.put, List.setIfInBounds_toArray, List.set_cons_zero, List.set_cons_succ, World.size_alloc] <;> rfl) (hJ1_2_4_6_7_9_10 (gp, A1p, c1p, A2p, c2p, Gp, Rp9, Rp10, ()) _ hz)
      ·skip
       rintro ⟨gp, A1p, c1p, A2p, c2p, Gp, _⟩ w' hF
       change SPO w [(A, cz Ka Ha sa A3a n3a c3a A4a n4a c4a A5a n5a c5a, 26), (B, cz Kb Hb sb A3b n3b c3b A4b n4b c4b A5b n5b c5b, 26), (Gp, cz Ka Ha sa A3a n3a c3a A4a n4a c4a A5a n5a c5a, 26)] (.slice A2p (l.length + 1) c2p) (l ++ [xa]) w' at hF
       have hHeld := HSp _ (SPO.tk 2 hF)
       refine norm_ (a' := ?_) ?_ ?_
       rotate_left
       ·simp only [putAll, Act.put, List.setIfInBounds_toArray, List.set_cons_zero, List.set_cons_succ]
        rfl
       refine two_ (i := 9) (j := 10) (Ni := some 7) (Nj := some 8) #[true, true, true, true, true, true, true, true, true, true, false, false, false] #[true, true, true, true, true, true, true, true, true, false, true, false, false] rfl rfl rfl rfl (by kernel_rfl) (by decide) (by decide) (fun K hK => ?_) (fun K hK => ?_)
       ·skip
        refine freshO_ (c := #[.int .i64 0, .int .i64 0, .string ⟨#[]⟩, .slice none 0 0, .slice none 0 0, .slice none 0 0]) (t := 26) hF (by rfl) rfl ?_ ?_
        ·first | (go_simp; done) | (go_simp; rfl)
        intro Rp9 wz hz
        have hzb := SPO.tk 2 hz
        refine hK.out _ _ (HSp _ hzb) (fun hHeld => ?_)
        clear hK K
        refine norm_ (a' := ?_) ?_ ?_
        rotate_left
        ·show Act.put _ (some 7) _ = _
         simp only [Act.put, List.setIfInBounds_toArray, List.set_cons_zero, List.set_cons_succ, i64_w, i32_w]
         rfl
        exact norm_ (by simp only [putAll, Act.put, List.setIfInBounds_toArray, List.set_cons_zero, List.set_cons_succ, World.size_alloc] <;> rfl) (hJ1_2_4_6_7_8_9 (gp, A1p, c1p, A2p, c2p, Gp, Rp9, ()) _ hz)
       ·skip
        refine freshO_ (c := #[.int .i64 0, .int .i64 0, .string ⟨#[]⟩, .slice none 0 0, .slice none 0 0, .slice none 0 0]) (t := 26) hF (by rfl) rfl ?_ ?_
        ·first | (go_simp; done) | (go_simp; rfl)
        intro Rp10 wz hz
        have hzb := SPO.tk 2 hz
        refine hK.out _ _ (HSp _ hzb) (fun hHeld => ?_)
        clear hK K
        refine norm_ (a' := ?_) ?_ ?_
        rotate_left
        ·show Act.put _ (some 8) _ = _
         simp only [Act.put, List.setIfInBounds_toArray, List.set_cons_zero, List.set_cons_succ, i64_w, i32_w]
         rfl
        exact norm_ (by simp only [putAll, Act.put, List.setIfInBounds_toArray, List.set_cons_zero, List.set_cons_succ, World.size_alloc] <;> rfl) (hJ1_2_4_6_7_8_10 (gp, A1p, c1p, A2p, c2p, Gp, Rp10, ()) _ hz)
     ·skip
      rintro ⟨gp, A1p, c1p, A2p, c2p, Gp, Rp9, Rp10, _⟩ w' hF
      change SPO w [(A, cz Ka Ha sa A3a n3a c3a A4a n4a c4a A5a n5a c5a, 26), (B, cz Kb Hb sb A3b n3b c3b A4b n4b c4b A5b n5b c5b, 26), (Gp, cz Ka Ha sa A3a n3a c3a A4a n4a c4a A5a n5a c5a, 26), (Rp9, zq, 26), (Rp10, zq, 26)] (.slice A2p (l.length + 1) c2p) (l ++ [xa]) w' at hF
      have hHeld := HSp _ (SPO.tk 2 hF)
      refine norm_ (a' := ?_) ?_ ?_
      rotate_left
      ·simp only [putAll, Act.put, List.setIfInBounds_toArray, List.set_cons_zero, List.set_cons_succ]
       rfl
      refine one_ (i := 8) (N := some 31) #[true, true, true, true, true, true, true, true, true, true, true, false, false] rfl rfl (by kernel_rfl) (by decide) (fun K hK => ?_)
      refine goes_ Tryz.func13 (by kernel_rfl) rfl #[.slice A2p (l.length + 1) c2p] (by rfl) rfl rfl (by simp only [List.map_toArray, List.map_cons, List.map_nil]; rfl) ?_
      with_reducible refine ((HAR.out A2p (l.length + 1) c2p _)).mono ?_
      rintro e wz ⟨rfl, hb⟩
      refine ⟨_, rfl, ?_⟩
      have hz := SPO.below hF hb
      have hzb := SPO.tk 2 hz
      refine hK.out _ _ (HSp _ hzb) (fun hHeld => ?_)
      clear hK K
      refine norm_ (a' := ?_) ?_ ?_
      rotate_left
      ·show Act.put _ (some 31) _ = _
       simp only [Act.put, List.setIfInBounds_toArray, List.set_cons_zero, List.set_cons_succ, i64_w, i32_w]
       rfl
      exact norm_ (by simp only [putAll, Act.put, List.setIfInBounds_toArray, List.set_cons_zero, List.set_cons_succ, World.size_alloc] <;> rfl) (hJ1_2_4_6_7_8_9_10 (gp, A1p, c1p, A2p, c2p, Gp, Rp9, Rp10, ()) _ hz)
    ·skip
     rintro ⟨gp, A1p, c1p, A2p, c2p, Gp, Rp10, _⟩ w' hF
     change SPO w [(A, cz Ka Ha sa A3a n3a c3a A4a n4a c4a A5a n5a c5a, 26), (B, cz Kb Hb sb A3b n3b c3b A4b n4b c4b A5b n5b c5b, 26), (Gp, cz Ka Ha sa A3a n3a c3a A4a n4a c4a A5a n5a c5a, 26), (Rp10, zq, 26)] (.slice A2p (l.length + 1) c2p) (l ++ [xa]) w' at hF
     have hHeld := HSp _ (SPO.tk 2 hF)
     refine norm_ (a' := ?_) ?_ ?_
     rotate_left
     ·simp only [putAll, Act.put, List.setIfInBounds_toArray, List.set_cons_zero, List.set_cons_succ]
      rfl
     refine one_ (i := 9) (N := some 7) #[true, true, true, true, true, true, true, true, true, true, true, false, false] rfl rfl (by kernel_rfl) (by decide) (fun K hK => ?_)
     refine freshO_ (c := #[.int .i64 0, .int .i64 0, .string ⟨#[]⟩, .slice none 0 0, .slice none 0 0, .slice none 0 0]) (t := 26) hF (by rfl) rfl ?_ ?_
     ·first | (go_simp; done) | (go_simp; rfl)
     intro Rp9 wz hz
     have hzb := SPO.tk 2 hz
     refine hK.out _ _ (HSp _ hzb) (fun hHeld => ?_)
     clear hK K
     refine norm_ (a' := ?_) ?_ ?_
     rotate_left
     ·show Act.put _ (some 7) _ = _
      simp only [Act.put, List.setIfInBounds_toArray, List.set_cons_zero, List.set_cons_succ, i64_w, i32_w]
      rfl
     exact norm_ (by simp only [putAll, Act.put, List.setIfInBounds_toArray, List.set_cons_zero, List.set_cons_succ, World.size_alloc] <;> rfl) (hJ1_2_4_6_7_8_9_10 (gp, A1p, c1p, A2p, c2p, Gp, Rp9, Rp10, ()) _ (SPO.prm hz (.cons _ (.cons _ (.cons _ (.swap _ _ _))))))
   ·skip
    rintro ⟨gp, A1p, c1p, A2p, c2p, Gp, Rp9, _⟩ w' hF
    change SPO w [(A, cz Ka Ha sa A3a n3a c3a A4a n4a c4a A5a n5a c5a, 26), (B, cz Kb Hb sb A3b n3b c3b A4b n4b c4b A5b n5b c5b, 26), (Gp, cz Ka Ha sa A3a n3a c3a A4a n4a c4a A5a n5a c5a, 26), (Rp9, zq, 26)] (.slice A2p (l.length + 1) c2p) (l ++ [xa]) w' at hF
    have hHeld := HSp _ (SPO.tk 2 hF)
    refine norm_ (a' := ?_) ?_ ?_
    rotate_left
    ·simp only [putAll, Act.put, List.setIfInBounds_toArray, List.set_cons_zero, List.set_cons_succ]
     rfl
    refine one_ (i := 10) (N := some 8) #[true, true, true, true, true, true, true, true, true, true, true, false, false] rfl rfl (by kernel_rfl) (by decide) (fun K hK => ?_)
    refine freshO_ (c := #[.int .i64 0, .int .i64 0, .string ⟨#[]⟩, .slice none 0 0, .slice none 0 0, .slice none 0 0]) (t := 26) hF (by rfl) rfl ?_ ?_
    ·first | (go_simp; done) | (go_simp; rfl)
    intro Rp10 wz hz
    have hzb := SPO.tk 2 hz
    refine hK.out _ _ (HSp _ hzb) (fun hHeld => ?_)
    clear hK K
    refine norm_ (a' := ?_) ?_ ?_
    rotate_left
    ·show Act.put _ (some 8) _ = _
     simp only [Act.put, List.setIfInBounds_toArray, List.set_cons_zero, List.set_cons_succ, i64_w, i32_w]
     rfl
    exact norm_ (by simp only [putAll, Act.put, List.setIfInBounds_toArray, List.set_cons_zero, List.set_cons_succ, World.size_alloc] <;> rfl) (hJ1_2_4_6_7_8_9_10 (gp, A1p, c1p, A2p, c2p, Gp, Rp9, Rp10, ()) _ hz)
  rintro ⟨gp, A1p, c1p, A2p, c2p, Gp, Rp9, Rp10, _⟩ w' hF
  change SPO w [(A, cz Ka Ha sa A3a n3a c3a A4a n4a c4a A5a n5a c5a, 26), (B, cz Kb Hb sb A3b n3b c3b A4b n4b c4b A5b n5b c5b, 26), (Gp, cz Ka Ha sa A3a n3a c3a A4a n4a c4a A5a n5a c5a, 26), (Rp9, zq, 26), (Rp10, zq, 26)] (.slice A2p (l.length + 1) c2p) (l ++ [xa]) w' at hF
  have hHeld := HSp _ (SPO.tk 2 hF)
  refine norm_ (a' := ?_) ?_ ?_
  rotate_left
  ·simp only [putAll, Act.put, List.setIfInBounds_toArray, List.set_cons_zero, List.set_cons_succ]
   rfl
  refine one_ (i := 11) (N := none) #[true, true, true, true, true, true, true, true, true, true, true, true, false] rfl rfl (by kernel_rfl) (by decide) (fun K hK => ?_)
  obtain ⟨y0, y1, y2, y3, y4, y5, f0, f1, f2, f3, f4, f5⟩ := six_cells (SPO.get hF 3 rfl)
  refine put6O_ (v0 := .int .i64 5) (v1 := .int .i64 0) (v2 := .string ⟨#[]⟩) (v3 := .slice PL l.length cL) (v4 := .slice none 0 0) (v5 := .slice none 0 0) hF 3 rfl (by rfl) rfl ?_ ?_
  ·first | (go_simp; done) | (go_simp; rfl)
  clear y0 y1 y2 y3 y4 y5 f0 f1 f2 f3 f4 f5
  intro wsp0 hsp0
  change SPO w [(A, cz Ka Ha sa A3a n3a c3a A4a n4a c4a A5a n5a c5a, 26), (B, cz Kb Hb sb A3b n3b c3b A4b n4b c4b A5b n5b c5b, 26), (Gp, cz Ka Ha sa A3a n3a c3a A4a n4a c4a A5a n5a c5a, 26), (Rp9, #[.int .i64 5, .int .i64 0, .string ⟨#[]⟩, .slice PL l.length cL, .slice none 0 0, .slice none 0 0], 26), (Rp10, zq, 26)] (.slice A2p (l.length + 1) c2p) (l ++ [xa]) wsp0 at hsp0
  have hzb := SPO.tk 2 hsp0
  refine hK.out _ _ (HSp _ hzb) (fun hHeld => ?_)
  clear hK K
  refine one_ (i := 12) (N := none) #[true, true, true, true, true, true, true, true, true, true, true, true, true] rfl rfl (by kernel_rfl) (by decide) (fun K hK => ?_)
  obtain ⟨y0, y1, y2, y3, y4, y5, f0, f1, f2, f3, f4, f5⟩ := six_cells (SPO.get hsp0 4 rfl)
  refine put6O_ (v0 := .int .i64 5) (v1 := .int .i64 0) (v2 := .string ⟨#[]⟩) (v3 := .slice A2p (l.length + 1) c2p) (v4 := .slice none 0 0) (v5 := .slice none 0 0) hsp0 4 rfl (by rfl) rfl ?_ ?_
  ·first | (go_simp; done) | (go_simp; rfl)
  clear y0 y1 y2 y3 y4 y5 f0 f1 f2 f3 f4 f5
  intro wsp1 hsp1
  change SPO w [(A, cz Ka Ha sa A3a n3a c3a A4a n4a c4a A5a n5a c5a, 26), (B, cz Kb Hb sb A3b n3b c3b A4b n4b c4b A5b n5b c5b, 26), (Gp, cz Ka Ha sa A3a n3a c3a A4a n4a c4a A5a n5a c5a, 26), (Rp9, #[.int .i64 5, .int .i64 0, .string ⟨#[]⟩, .slice PL l.length cL, .slice none 0 0, .slice none 0 0], 26), (Rp10, #[.int .i64 5, .int .i64 0, .string ⟨#[]⟩, .slice A2p (l.length + 1) c2p, .slice none 0 0, .slice none 0 0], 26)] (.slice A2p (l.length + 1) c2p) (l ++ [xa]) wsp1 at hsp1
  have hzb := SPO.tk 2 hsp1
  refine hK.out _ _ (HSp _ hzb) (fun hHeld => ?_)
  clear hK K
  refine done_ (by kernel_rfl) ?_
  obtain ⟨wq, hwq⟩ : ∃ wq, wq = wsp1 := ⟨_, rfl⟩
  rw [← hwq] at hsp1 ⊢
  have HQ := Lib.hid hsp1
  clear hHeld hF hwq hsp1 hsp0
  try go_wp2_with fail
  have HCQ : Hid (∀ w1, Below wq.heap.size wq w1 → ReadsRow (k26.K wq) 6 w1 PL l.length l) := Lib.hid (fun w1 hb => ReadsRow.imp_ (HCL.out wq HQ.out.bel) hb (fun _ _ h => k26.K_below HQ.out.bel h))
  have HKQ := Lib.hid (k26.K_below HQ.out.bel HKb.out)
  have HNQ : Hid (SPN wq [] wq) := Lib.hid (spn_nil wq)
  have HSq : ∀ w', SPN wq [] w' → w'.cell? ⟨B, 0, none⟩ = some (.int .i64 Kb) ∧ w'.cell? ⟨B, 1, none⟩ = some (.int .i64 Hb) ∧ w'.cell? ⟨B, 2, none⟩ = some (.string sb) ∧ w'.cell? ⟨B, 3, none⟩ = some (.slice A3b n3b c3b) ∧ w'.cell? ⟨B, 4, none⟩ = some (.slice A4b n4b c4b) ∧ w'.cell? ⟨B, 5, none⟩ = some (.slice A5b n5b c5b) ∧ SPN wq [] w' := fun w' h => ⟨((six_cells ((SPO.below HQ.out h.1.1).get 1 rfl)).1), ((six_cells ((SPO.below HQ.out h.1.1).get 1 rfl)).2.1), ((six_cells ((SPO.below HQ.out h.1.1).get 1 rfl)).2.2.1), ((six_cells ((SPO.below HQ.out h.1.1).get 1 rfl)).2.2.2.1), ((six_cells ((SPO.below HQ.out h.1.1).get 1 rfl)).2.2.2.2.1), ((six_cells ((SPO.below HQ.out h.1.1).get 1 rfl)).2.2.2.2.2.1), h⟩
  refine start_ (n := 9) (S := fun w' => w'.cell? ⟨B, 0, none⟩ = some (.int .i64 Kb) ∧ w'.cell? ⟨B, 1, none⟩ = some (.int .i64 Hb) ∧ w'.cell? ⟨B, 2, none⟩ = some (.string sb) ∧ w'.cell? ⟨B, 3, none⟩ = some (.slice A3b n3b c3b) ∧ w'.cell? ⟨B, 4, none⟩ = some (.slice A4b n4b c4b) ∧ w'.cell? ⟨B, 5, none⟩ = some (.slice A5b n5b c5b) ∧ SPN wq [] w') (ds := []) #[false, false, false, false, false, false, false, false, false] (by kernel_rfl) rfl rfl (HSq _ (SPN.drew HNQ.out)) (fun hHeld => ?_)
  refine pure_ (i := 1) (N := some 33) (v := ?_) (a' := ?_) #[false, true, false, false, false, false, false, false, false] rfl rfl (by kernel_rfl) (fun _ _ _ h => h) (Or.inl ⟨by rfl, ?_⟩) ?_ ?_
  rotate_left
  ·intro w'
   go_simp
   with_reducible rfl
  rotate_left
  ·simp only [Act.put, List.setIfInBounds_toArray, List.set_cons_zero, List.set_cons_succ, i64_w, i32_w]
   rfl
  refine take_ (i := 3) (N := some 35) (v := ?_) (a' := ?_) #[false, true, false, true, false, false, false, false, false] rfl rfl (by kernel_rfl) (fun _ _ _ h => h) (Or.inl ⟨by rfl, ?_⟩) hHeld ?_ ?_
  rotate_left
  ·rintro w' ⟨s0, s1, s2, s3, s4, s5, s6⟩
   go_simp
   with_reducible rfl
  rotate_left
  ·simp only [Act.put, List.setIfInBounds_toArray, List.set_cons_zero, List.set_cons_succ, i64_w, i32_w]
   rfl
  refine join_ (σ := Nat × Option Addr × Nat × Option Addr × Nat × Nat × Nat × Unit) 1 #[true, true, true, true, true, true, true, true, false] (fun s => [(32, .slice (some ⟨s.1, 0, none⟩) 0 0), (34, .slice s.2.1 l.length s.2.2.1), (36, .slice (some ⟨s.2.2.2.2.2.1, 0, none⟩) 1 1), (37, .slice s.2.2.2.1 (l.length + 1) s.2.2.2.2.1), (38, .agg #[.int .i64 5, .int .i64 0, .string ⟨#[]⟩, .slice s.2.2.2.1 (l.length + 1) s.2.2.2.2.1, .slice none 0 0, .slice none 0 0]), (9, .pointer (some ⟨s.2.2.2.2.2.2.1, 0, none⟩))]) (fun s w' => SPO wq [(s.2.2.2.2.2.1, cz Kb Hb sb A3b n3b c3b A4b n4b c4b A5b n5b c5b, 26), (s.2.2.2.2.2.2.1, zq, 26)] (.slice s.2.2.2.1 (l.length + 1) s.2.2.2.2.1) (l ++ [xb]) w') ?_ ?_
  rotate_left
  ·intro hJ0_2_4_5_6_7
   refine join_ (σ := Nat × Option Addr × Nat × Option Addr × Nat × Nat × Unit) 2 #[true, true, true, true, true, true, true, false, false] (fun s => [(32, .slice (some ⟨s.1, 0, none⟩) 0 0), (34, .slice s.2.1 l.length s.2.2.1), (36, .slice (some ⟨s.2.2.2.2.2.1, 0, none⟩) 1 1), (37, .slice s.2.2.2.1 (l.length + 1) s.2.2.2.2.1), (38, .agg #[.int .i64 5, .int .i64 0, .string ⟨#[]⟩, .slice s.2.2.2.1 (l.length + 1) s.2.2.2.2.1, .slice none 0 0, .slice none 0 0])]) (fun s w' => SPO wq [(s.2.2.2.2.2.1, cz Kb Hb sb A3b n3b c3b A4b n4b c4b A5b n5b c5b, 26)] (.slice s.2.2.2.1 (l.length + 1) s.2.2.2.2.1) (l ++ [xb]) w') ?_ ?_
   rotate_left
   ·intro hJ0_2_4_5_6
    refine join_ (σ := Nat × Option Addr × Nat × Option Addr × Nat × Nat × Nat × Unit) 2 #[true, true, true, true, true, true, false, true, false] (fun s => [(32, .slice (some ⟨s.1, 0, none⟩) 0 0), (34, .slice s.2.1 l.length s.2.2.1), (36, .slice (some ⟨s.2.2.2.2.2.1, 0, none⟩) 1 1), (37, .slice s.2.2.2.1 (l.length + 1) s.2.2.2.2.1), (9, .pointer (some ⟨s.2.2.2.2.2.2.1, 0, none⟩))]) (fun s w' => SPO wq [(s.2.2.2.2.2.1, cz Kb Hb sb A3b n3b c3b A4b n4b c4b A5b n5b c5b, 26), (s.2.2.2.2.2.2.1, zq, 26)] (.slice s.2.2.2.1 (l.length + 1) s.2.2.2.2.1) (l ++ [xb]) w') ?_ ?_
    rotate_left
    ·intro hJ0_2_4_5_7
     refine join_ (σ := Nat × Option Addr × Nat × Option Addr × Nat × Nat × Unit) 3 #[true, true, true, true, true, true, false, false, false] (fun s => [(32, .slice (some ⟨s.1, 0, none⟩) 0 0), (34, .slice s.2.1 l.length s.2.2.1), (36, .slice (some ⟨s.2.2.2.2.2.1, 0, none⟩) 1 1), (37, .slice s.2.2.2.1 (l.length + 1) s.2.2.2.2.1)]) (fun s w' => SPO wq [(s.2.2.2.2.2.1, cz Kb Hb sb A3b n3b c3b A4b n4b c4b A5b n5b c5b, 26)] (.slice s.2.2.2.1 (l.length + 1) s.2.2.2.2.1) (l ++ [xb]) w') ?_ ?_
     rotate_left
     ·intro hJ0_2_4_5
      refine join_ (σ := Nat × Option Addr × Nat × Nat × Nat × Unit) 3 #[true, true, true, true, true, false, false, true, false] (fun s => [(32, .slice (some ⟨s.1, 0, none⟩) 0 0), (34, .slice s.2.1 l.length s.2.2.1), (36, .slice (some ⟨s.2.2.2.1, 0, none⟩) 1 1), (9, .pointer (some ⟨s.2.2.2.2.1, 0, none⟩))]) (fun s w' => SPO wq [(s.2.2.2.1, cz Kb Hb sb A3b n3b c3b A4b n4b c4b A5b n5b c5b, 26), (s.2.2.2.2.1, zq, 26)] (.slice s.2.1 l.length s.2.2.1) l w') ?_ ?_
      rotate_left
      ·intro hJ0_2_4_7
       refine join_ (σ := Nat × Option Addr × Nat × Nat × Unit) 4 #[true, true, true, true, true, false, false, false, false] (fun s => [(32, .slice (some ⟨s.1, 0, none⟩) 0 0), (34, .slice s.2.1 l.length s.2.2.1), (36, .slice (some ⟨s.2.2.2.1, 0, none⟩) 1 1)]) (fun s w' => SPO wq [(s.2.2.2.1, cz Kb Hb sb A3b n3b c3b A4b n4b c4b A5b n5b c5b, 26)] (.slice s.2.1 l.length s.2.2.1) l w') ?_ ?_
       rotate_left
       ·intro hJ0_2_4
        refine join_ (σ := Nat × Option Addr × Nat × Nat × Unit) 4 #[true, true, true, true, false, false, false, true, false] (fun s => [(32, .slice (some ⟨s.1, 0, none⟩) 0 0), (34, .slice s.2.1 l.length s.2.2.1), (9, .pointer (some ⟨s.2.2.2.1, 0, none⟩))]) (fun s w' => SPO wq [(s.2.2.2.1, zq, 26)] (.slice s.2.1 l.length s.2.2.1) l w') ?_ ?_
        rotate_left
        ·intro hJ0_2_7
         refine join_ (σ := Nat × Nat × Nat × Unit) 4 #[true, true, false, true, true, false, false, true, false] (fun s => [(32, .slice (some ⟨s.1, 0, none⟩) 0 0), (36, .slice (some ⟨s.2.1, 0, none⟩) 1 1), (9, .pointer (some ⟨s.2.2.1, 0, none⟩))]) (fun s w' => SPO wq [(s.2.1, cz Kb Hb sb A3b n3b c3b A4b n4b c4b A5b n5b c5b, 26), (s.2.2.1, zq, 26)] (.slice (some ⟨s.1, 0, none⟩) 0 0) [] w') ?_ ?_
         rotate_left
         ·intro hJ0_4_7
          refine join_ (σ := Nat × Option Addr × Nat × Unit) 5 #[true, true, true, true, false, false, false, false, false] (fun s => [(32, .slice (some ⟨s.1, 0, none⟩) 0 0), (34, .slice s.2.1 l.length s.2.2.1)]) (fun s w' => SPO wq [] (.slice s.2.1 l.length s.2.2.1) l w') ?_ ?_
          rotate_left
          ·intro hJ0_2
           refine join_ (σ := Nat × Nat × Unit) 5 #[true, true, false, true, true, false, false, false, false] (fun s => [(32, .slice (some ⟨s.1, 0, none⟩) 0 0), (36, .slice (some ⟨s.2.1, 0, none⟩) 1 1)]) (fun s w' => SPO wq [(s.2.1, cz Kb Hb sb A3b n3b c3b A4b n4b c4b A5b n5b c5b, 26)] (.slice (some ⟨s.1, 0, none⟩) 0 0) [] w') ?_ ?_
           rotate_left
           ·intro hJ0_4
            refine join_ (σ := Nat × Nat × Unit) 5 #[true, true, false, true, false, false, false, true, false] (fun s => [(32, .slice (some ⟨s.1, 0, none⟩) 0 0), (9, .pointer (some ⟨s.2.1, 0, none⟩))]) (fun s w' => SPO wq [(s.2.1, zq, 26)] (.slice (some ⟨s.1, 0, none⟩) 0 0) [] w') ?_ ?_
            rotate_left
            ·intro hJ0_7
             refine join_ (σ := Nat × Nat × Unit) 5 #[false, true, false, true, true, false, false, true, false] (fun s => [(36, .slice (some ⟨s.1, 0, none⟩) 1 1), (9, .pointer (some ⟨s.2.1, 0, none⟩))]) (fun s w' => SPO wq [(s.1, cz Kb Hb sb A3b n3b c3b A4b n4b c4b A5b n5b c5b, 26), (s.2.1, zq, 26)] (.slice none 0 0) [] w') ?_ ?_
             rotate_left
             ·intro hJ4_7
              refine join_ (σ := Nat × Unit) 6 #[true, true, false, true, false, false, false, false, false] (fun s => [(32, .slice (some ⟨s.1, 0, none⟩) 0 0)]) (fun s w' => SPO wq [] (.slice (some ⟨s.1, 0, none⟩) 0 0) [] w') ?_ ?_
              rotate_left
              ·intro hJ0
               refine join_ (σ := Nat × Unit) 6 #[false, true, false, true, true, false, false, false, false] (fun s => [(36, .slice (some ⟨s.1, 0, none⟩) 1 1)]) (fun s w' => SPO wq [(s.1, cz Kb Hb sb A3b n3b c3b A4b n4b c4b A5b n5b c5b, 26)] (.slice none 0 0) [] w') ?_ ?_
               rotate_left
               ·intro hJ4
                refine join_ (σ := Nat × Unit) 6 #[false, true, false, true, false, false, false, true, false] (fun s => [(9, .pointer (some ⟨s.1, 0, none⟩))]) (fun s w' => SPO wq [(s.1, zq, 26)] (.slice none 0 0) [] w') ?_ ?_
                rotate_left
                ·intro hJ7
                 refine three_ (i := 0) (j := 4) (k := 7) (Ni := some 32) (Nj := some 36) (Nk := some 9) #[true, true, false, true, false, false, false, false, false] #[false, true, false, true, true, false, false, false, false] #[false, true, false, true, false, false, false, true, false] rfl rfl rfl rfl rfl rfl (by kernel_rfl) (by decide) (by decide) (by decide) (fun K hK => ?_) (fun K hK => ?_) (fun K hK => ?_)
                 ·skip
                  refine slice0O_ (L := []) (SPO.spn (SPO.start hHeld.2.2.2.2.2.2)) (by rfl) rfl ?_ ?_
                  ·first | (go_simp; done) | (go_simp; rfl)
                  intro gq wz hz
                  have hzb := SPO.tk 0 hz
                  refine hK.out _ _ (HSq _ hzb) (fun hHeld => ?_)
                  clear hK K
                  refine norm_ (a' := ?_) ?_ ?_
                  rotate_left
                  ·show Act.put _ (some 32) _ = _
                   simp only [Act.put, List.setIfInBounds_toArray, List.set_cons_zero, List.set_cons_succ, i64_w, i32_w]
                   rfl
                  exact norm_ (by simp only [putAll, Act.put, List.setIfInBounds_toArray, List.set_cons_zero, List.set_cons_succ, World.size_alloc] <;> rfl) (hJ0 (gq, ()) _ hz)
                 ·skip
                  refine boxO_ (c := #[.int .i64 Kb, .int .i64 Hb, .string sb, .slice A3b n3b c3b, .slice A4b n4b c4b, .slice A5b n5b c5b]) (t := 26) (SPO.start hHeld.2.2.2.2.2.2) (by rfl) rfl ?_ ?_
                  ·first | (go_simp; done) | (go_simp; rfl)
                  intro Gq wz hz
                  have hzb := SPO.tk 0 hz
                  refine hK.out _ _ (HSq _ hzb) (fun hHeld => ?_)
                  clear hK K
                  refine norm_ (a' := ?_) ?_ ?_
                  rotate_left
                  ·show Act.put _ (some 36) _ = _
                   simp only [Act.put, List.setIfInBounds_toArray, List.set_cons_zero, List.set_cons_succ, i64_w, i32_w]
                   rfl
                  exact norm_ (by simp only [putAll, Act.put, List.setIfInBounds_toArray, List.set_cons_zero, List.set_cons_succ, World.size_alloc] <;> rfl) (hJ4 (Gq, ()) _ hz)
                 ·skip
                  refine freshO_ (c := #[.int .i64 0, .int .i64 0, .string ⟨#[]⟩, .slice none 0 0, .slice none 0 0, .slice none 0 0]) (t := 26) (SPO.start hHeld.2.2.2.2.2.2) (by rfl) rfl ?_ ?_
                  ·first | (go_simp; done) | (go_simp; rfl)
                  intro Rq7 wz hz
                  have hzb := SPO.tk 0 hz
                  refine hK.out _ _ (HSq _ hzb) (fun hHeld => ?_)
                  clear hK K
                  refine norm_ (a' := ?_) ?_ ?_
                  rotate_left
                  ·show Act.put _ (some 9) _ = _
                   simp only [Act.put, List.setIfInBounds_toArray, List.set_cons_zero, List.set_cons_succ, i64_w, i32_w]
                   rfl
                  exact norm_ (by simp only [putAll, Act.put, List.setIfInBounds_toArray, List.set_cons_zero, List.set_cons_succ, World.size_alloc] <;> rfl) (hJ7 (Rq7, ()) _ hz)
                ·skip
                 rintro ⟨Rq7, _⟩ w' hF
                 change SPO wq [(Rq7, zq, 26)] (.slice none 0 0) [] w' at hF
                 have hHeld := HSq _ (SPO.tk 0 hF)
                 refine norm_ (a' := ?_) ?_ ?_
                 rotate_left
                 ·simp only [putAll, Act.put, List.setIfInBounds_toArray, List.set_cons_zero, List.set_cons_succ]
                  rfl
                 refine two_ (i := 0) (j := 4) (Ni := some 32) (Nj := some 36) #[true, true, false, true, false, false, false, true, false] #[false, true, false, true, true, false, false, true, false] rfl rfl rfl rfl (by kernel_rfl) (by decide) (by decide) (fun K hK => ?_) (fun K hK => ?_)
                 ·skip
                  refine slice0O_ (L := [(Rq7, zq, 26)]) (SPO.spn hF) (by rfl) rfl ?_ ?_
                  ·first | (go_simp; done) | (go_simp; rfl)
                  intro gq wz hz
                  have hzb := SPO.tk 0 hz
                  refine hK.out _ _ (HSq _ hzb) (fun hHeld => ?_)
                  clear hK K
                  refine norm_ (a' := ?_) ?_ ?_
                  rotate_left
                  ·show Act.put _ (some 32) _ = _
                   simp only [Act.put, List.setIfInBounds_toArray, List.set_cons_zero, List.set_cons_succ, i64_w, i32_w]
                   rfl
                  exact norm_ (by simp only [putAll, Act.put, List.setIfInBounds_toArray, List.set_cons_zero, List.set_cons_succ, World.size_alloc] <;> rfl) (hJ0_7 (gq, Rq7, ()) _ hz)
                 ·skip
                  refine boxO_ (c := #[.int .i64 Kb, .int .i64 Hb, .string sb, .slice A3b n3b c3b, .slice A4b n4b c4b, .slice A5b n5b c5b]) (t := 26) hF (by rfl) rfl ?_ ?_
                  ·first | (go_simp; done) | (go_simp; rfl)
                  intro Gq wz hz
                  have hzb := SPO.tk 0 hz
                  refine hK.out _ _ (HSq _ hzb) (fun hHeld => ?_)
                  clear hK K
                  refine norm_ (a' := ?_) ?_ ?_
                  rotate_left
                  ·show Act.put _ (some 36) _ = _
                   simp only [Act.put, List.setIfInBounds_toArray, List.set_cons_zero, List.set_cons_succ, i64_w, i32_w]
                   rfl
                  exact norm_ (by simp only [putAll, Act.put, List.setIfInBounds_toArray, List.set_cons_zero, List.set_cons_succ, World.size_alloc] <;> rfl) (hJ4_7 (Gq, Rq7, ()) _ (SPO.prm hz (.swap _ _ _)))
               ·skip
                rintro ⟨Gq, _⟩ w' hF
                change SPO wq [(Gq, cz Kb Hb sb A3b n3b c3b A4b n4b c4b A5b n5b c5b, 26)] (.slice none 0 0) [] w' at hF
                have hHeld := HSq _ (SPO.tk 0 hF)
                refine norm_ (a' := ?_) ?_ ?_
                rotate_left
                ·simp only [putAll, Act.put, List.setIfInBounds_toArray, List.set_cons_zero, List.set_cons_succ]
                 rfl
                refine two_ (i := 0) (j := 7) (Ni := some 32) (Nj := some 9) #[true, true, false, true, true, false, false, false, false] #[false, true, false, true, true, false, false, true, false] rfl rfl rfl rfl (by kernel_rfl) (by decide) (by decide) (fun K hK => ?_) (fun K hK => ?_)
                ·skip
                 refine slice0O_ (L := [(Gq, cz Kb Hb sb A3b n3b c3b A4b n4b c4b A5b n5b c5b, 26)]) (SPO.spn hF) (by rfl) rfl ?_ ?_
                 ·first | (go_simp; done) | (go_simp; rfl)
                 intro gq wz hz
                 have hzb := SPO.tk 0 hz
                 refine hK.out _ _ (HSq _ hzb) (fun hHeld => ?_)
                 clear hK K
                 refine norm_ (a' := ?_) ?_ ?_
                 rotate_left
                 ·show Act.put _ (some 32) _ = _
                  simp only [Act.put, List.setIfInBounds_toArray, List.set_cons_zero, List.set_cons_succ, i64_w, i32_w]
                  rfl
                 exact norm_ (by simp only [putAll, Act.put, List.setIfInBounds_toArray, List.set_cons_zero, List.set_cons_succ, World.size_alloc] <;> rfl) (hJ0_4 (gq, Gq, ()) _ hz)
                ·skip
                 refine freshO_ (c := #[.int .i64 0, .int .i64 0, .string ⟨#[]⟩, .slice none 0 0, .slice none 0 0, .slice none 0 0]) (t := 26) hF (by rfl) rfl ?_ ?_
                 ·first | (go_simp; done) | (go_simp; rfl)
                 intro Rq7 wz hz
                 have hzb := SPO.tk 0 hz
                 refine hK.out _ _ (HSq _ hzb) (fun hHeld => ?_)
                 clear hK K
                 refine norm_ (a' := ?_) ?_ ?_
                 rotate_left
                 ·show Act.put _ (some 9) _ = _
                  simp only [Act.put, List.setIfInBounds_toArray, List.set_cons_zero, List.set_cons_succ, i64_w, i32_w]
                  rfl
                 exact norm_ (by simp only [putAll, Act.put, List.setIfInBounds_toArray, List.set_cons_zero, List.set_cons_succ, World.size_alloc] <;> rfl) (hJ4_7 (Gq, Rq7, ()) _ hz)
              ·skip
               rintro ⟨gq, _⟩ w' hF
               change SPO wq [] (.slice (some ⟨gq, 0, none⟩) 0 0) [] w' at hF
               have hHeld := HSq _ (SPO.tk 0 hF)
               refine norm_ (a' := ?_) ?_ ?_
               rotate_left
               ·simp only [putAll, Act.put, List.setIfInBounds_toArray, List.set_cons_zero, List.set_cons_succ]
                rfl
               refine three_ (i := 2) (j := 4) (k := 7) (Ni := some 34) (Nj := some 36) (Nk := some 9) #[true, true, true, true, false, false, false, false, false] #[true, true, false, true, true, false, false, false, false] #[true, true, false, true, false, false, false, true, false] rfl rfl rfl rfl rfl rfl (by kernel_rfl) (by decide) (by decide) (by decide) (fun K hK => ?_) (fun K hK => ?_) (fun K hK => ?_)
               ·skip
                obtain ⟨v1, wz, hr, hz0⟩ := SPO.app hF (HCQ.out _ (SPO.bel hF)) (by have := HLN.out; simp; omega)
                have hz1 : SPO wq [] v1 l wz := hz0
                obtain ⟨A1q, c1q, rfl, -, -⟩ := SPO.row hz1
                refine append_step_ (by rfl) rfl rfl rfl (by rfl) (by rfl) hr ?_
                have hz := hz1
                have hzb := SPO.tk 0 hz
                refine hK.out _ _ (HSq _ hzb) (fun hHeld => ?_)
                clear hK K
                refine norm_ (a' := ?_) ?_ ?_
                rotate_left
                ·show Act.put _ (some 34) _ = _
                 simp only [Act.put, List.setIfInBounds_toArray, List.set_cons_zero, List.set_cons_succ, i64_w, i32_w]
                 rfl
                exact norm_ (by simp only [putAll, Act.put, List.setIfInBounds_toArray, List.set_cons_zero, List.set_cons_succ, World.size_alloc] <;> rfl) (hJ0_2 (gq, A1q, c1q, ()) _ hz)
               ·skip
                refine boxO_ (c := #[.int .i64 Kb, .int .i64 Hb, .string sb, .slice A3b n3b c3b, .slice A4b n4b c4b, .slice A5b n5b c5b]) (t := 26) hF (by rfl) rfl ?_ ?_
                ·first | (go_simp; done) | (go_simp; rfl)
                intro Gq wz hz
                have hzb := SPO.tk 0 hz
                refine hK.out _ _ (HSq _ hzb) (fun hHeld => ?_)
                clear hK K
                refine norm_ (a' := ?_) ?_ ?_
                rotate_left
                ·show Act.put _ (some 36) _ = _
                 simp only [Act.put, List.setIfInBounds_toArray, List.set_cons_zero, List.set_cons_succ, i64_w, i32_w]
                 rfl
                exact norm_ (by simp only [putAll, Act.put, List.setIfInBounds_toArray, List.set_cons_zero, List.set_cons_succ, World.size_alloc] <;> rfl) (hJ0_4 (gq, Gq, ()) _ hz)
               ·skip
                refine freshO_ (c := #[.int .i64 0, .int .i64 0, .string ⟨#[]⟩, .slice none 0 0, .slice none 0 0, .slice none 0 0]) (t := 26) hF (by rfl) rfl ?_ ?_
                ·first | (go_simp; done) | (go_simp; rfl)
                intro Rq7 wz hz
                have hzb := SPO.tk 0 hz
                refine hK.out _ _ (HSq _ hzb) (fun hHeld => ?_)
                clear hK K
                refine norm_ (a' := ?_) ?_ ?_
                rotate_left
                ·show Act.put _ (some 9) _ = _
                 simp only [Act.put, List.setIfInBounds_toArray, List.set_cons_zero, List.set_cons_succ, i64_w, i32_w]
                 rfl
                exact norm_ (by simp only [putAll, Act.put, List.setIfInBounds_toArray, List.set_cons_zero, List.set_cons_succ, World.size_alloc] <;> rfl) (hJ0_7 (gq, Rq7, ()) _ hz)
             ·skip
              rintro ⟨Gq, Rq7, _⟩ w' hF
              change SPO wq [(Gq, cz Kb Hb sb A3b n3b c3b A4b n4b c4b A5b n5b c5b, 26), (Rq7, zq, 26)] (.slice none 0 0) [] w' at hF
              have hHeld := HSq _ (SPO.tk 0 hF)
              refine norm_ (a' := ?_) ?_ ?_
              rotate_left
              ·simp only [putAll, Act.put, List.setIfInBounds_toArray, List.set_cons_zero, List.set_cons_succ]
               rfl
              refine one_ (i := 0) (N := some 32) #[true, true, false, true, true, false, false, true, false] rfl rfl (by kernel_rfl) (by decide) (fun K hK => ?_)
              refine slice0O_ (L := [(Gq, cz Kb Hb sb A3b n3b c3b A4b n4b c4b A5b n5b c5b, 26), (Rq7, zq, 26)]) (SPO.spn hF) (by rfl) rfl ?_ ?_
              ·first | (go_simp; done) | (go_simp; rfl)
              intro gq wz hz
              have hzb := SPO.tk 0 hz
              refine hK.out _ _ (HSq _ hzb) (fun hHeld => ?_)
              clear hK K
              refine norm_ (a' := ?_) ?_ ?_
              rotate_left
              ·show Act.put _ (some 32) _ = _
               simp only [Act.put, List.setIfInBounds_toArray, List.set_cons_zero, List.set_cons_succ, i64_w, i32_w]
               rfl
              exact norm_ (by simp only [putAll, Act.put, List.setIfInBounds_toArray, List.set_cons_zero, List.set_cons_succ, World.size_alloc] <;> rfl) (hJ0_4_7 (gq, Gq, Rq7, ()) _ hz)
            ·skip
             rintro ⟨gq, Rq7, _⟩ w' hF
             change SPO wq [(Rq7, zq, 26)] (.slice (some ⟨gq, 0, none⟩) 0 0) [] w' at hF
             have hHeld := HSq _ (SPO.tk 0 hF)
             refine norm_ (a' := ?_) ?_ ?_
             rotate_left
             ·simp only [putAll, Act.put, List.setIfInBounds_toArray, List.set_cons_zero, List.set_cons_succ]
              rfl
             refine two_ (i := 2) (j := 4) (Ni := some 34) (Nj := some 36) #[true, true, true, true, false, false, false, true, false] #[true, true, false, true, true, false, false, true, false] rfl rfl rfl rfl (by kernel_rfl) (by decide) (by decide) (fun K hK => ?_) (fun K hK => ?_)
             ·skip
              obtain ⟨v1, wz, hr, hz0⟩ := SPO.app hF (HCQ.out _ (SPO.bel hF)) (by have := HLN.out; simp; omega)
              have hz1 : SPO wq [(Rq7, zq, 26)] v1 l wz := hz0
              obtain ⟨A1q, c1q, rfl, -, -⟩ := SPO.row hz1
              refine append_step_ (by rfl) rfl rfl rfl (by rfl) (by rfl) hr ?_
              have hz := hz1
              have hzb := SPO.tk 0 hz
              refine hK.out _ _ (HSq _ hzb) (fun hHeld => ?_)
              clear hK K
              refine norm_ (a' := ?_) ?_ ?_
              rotate_left
              ·show Act.put _ (some 34) _ = _
               simp only [Act.put, List.setIfInBounds_toArray, List.set_cons_zero, List.set_cons_succ, i64_w, i32_w]
               rfl
              exact norm_ (by simp only [putAll, Act.put, List.setIfInBounds_toArray, List.set_cons_zero, List.set_cons_succ, World.size_alloc] <;> rfl) (hJ0_2_7 (gq, A1q, c1q, Rq7, ()) _ hz)
             ·skip
              refine boxO_ (c := #[.int .i64 Kb, .int .i64 Hb, .string sb, .slice A3b n3b c3b, .slice A4b n4b c4b, .slice A5b n5b c5b]) (t := 26) hF (by rfl) rfl ?_ ?_
              ·first | (go_simp; done) | (go_simp; rfl)
              intro Gq wz hz
              have hzb := SPO.tk 0 hz
              refine hK.out _ _ (HSq _ hzb) (fun hHeld => ?_)
              clear hK K
              refine norm_ (a' := ?_) ?_ ?_
              rotate_left
              ·show Act.put _ (some 36) _ = _
               simp only [Act.put, List.setIfInBounds_toArray, List.set_cons_zero, List.set_cons_succ, i64_w, i32_w]
               rfl
              exact norm_ (by simp only [putAll, Act.put, List.setIfInBounds_toArray, List.set_cons_zero, List.set_cons_succ, World.size_alloc] <;> rfl) (hJ0_4_7 (gq, Gq, Rq7, ()) _ (SPO.prm hz (.swap _ _ _)))
           ·skip
            rintro ⟨gq, Gq, _⟩ w' hF
            change SPO wq [(Gq, cz Kb Hb sb A3b n3b c3b A4b n4b c4b A5b n5b c5b, 26)] (.slice (some ⟨gq, 0, none⟩) 0 0) [] w' at hF
            have hHeld := HSq _ (SPO.tk 0 hF)
            refine norm_ (a' := ?_) ?_ ?_
            rotate_left
            ·simp only [putAll, Act.put, List.setIfInBounds_toArray, List.set_cons_zero, List.set_cons_succ]
             rfl
            refine two_ (i := 2) (j := 7) (Ni := some 34) (Nj := some 9) #[true, true, true, true, true, false, false, false, false] #[true, true, false, true, true, false, false, true, false] rfl rfl rfl rfl (by kernel_rfl) (by decide) (by decide) (fun K hK => ?_) (fun K hK => ?_)
            ·skip
             obtain ⟨v1, wz, hr, hz0⟩ := SPO.app hF (HCQ.out _ (SPO.bel hF)) (by have := HLN.out; simp; omega)
             have hz1 : SPO wq [(Gq, cz Kb Hb sb A3b n3b c3b A4b n4b c4b A5b n5b c5b, 26)] v1 l wz := hz0
             obtain ⟨A1q, c1q, rfl, -, -⟩ := SPO.row hz1
             refine append_step_ (by rfl) rfl rfl rfl (by rfl) (by rfl) hr ?_
             have hz := hz1
             have hzb := SPO.tk 0 hz
             refine hK.out _ _ (HSq _ hzb) (fun hHeld => ?_)
             clear hK K
             refine norm_ (a' := ?_) ?_ ?_
             rotate_left
             ·show Act.put _ (some 34) _ = _
              simp only [Act.put, List.setIfInBounds_toArray, List.set_cons_zero, List.set_cons_succ, i64_w, i32_w]
              rfl
             exact norm_ (by simp only [putAll, Act.put, List.setIfInBounds_toArray, List.set_cons_zero, List.set_cons_succ, World.size_alloc] <;> rfl) (hJ0_2_4 (gq, A1q, c1q, Gq, ()) _ hz)
            ·skip
             refine freshO_ (c := #[.int .i64 0, .int .i64 0, .string ⟨#[]⟩, .slice none 0 0, .slice none 0 0, .slice none 0 0]) (t := 26) hF (by rfl) rfl ?_ ?_
             ·first | (go_simp; done) | (go_simp; rfl)
             intro Rq7 wz hz
             have hzb := SPO.tk 0 hz
             refine hK.out _ _ (HSq _ hzb) (fun hHeld => ?_)
             clear hK K
             refine norm_ (a' := ?_) ?_ ?_
             rotate_left
             ·show Act.put _ (some 9) _ = _
              simp only [Act.put, List.setIfInBounds_toArray, List.set_cons_zero, List.set_cons_succ, i64_w, i32_w]
              rfl
             exact norm_ (by simp only [putAll, Act.put, List.setIfInBounds_toArray, List.set_cons_zero, List.set_cons_succ, World.size_alloc] <;> rfl) (hJ0_4_7 (gq, Gq, Rq7, ()) _ hz)
          ·skip
           rintro ⟨gq, A1q, c1q, _⟩ w' hF
           change SPO wq [] (.slice A1q l.length c1q) l w' at hF
           have hHeld := HSq _ (SPO.tk 0 hF)
           refine norm_ (a' := ?_) ?_ ?_
           rotate_left
           ·simp only [putAll, Act.put, List.setIfInBounds_toArray, List.set_cons_zero, List.set_cons_succ]
            rfl
           refine two_ (i := 4) (j := 7) (Ni := some 36) (Nj := some 9) #[true, true, true, true, true, false, false, false, false] #[true, true, true, true, false, false, false, true, false] rfl rfl rfl rfl (by kernel_rfl) (by decide) (by decide) (fun K hK => ?_) (fun K hK => ?_)
           ·skip
            refine boxO_ (c := #[.int .i64 Kb, .int .i64 Hb, .string sb, .slice A3b n3b c3b, .slice A4b n4b c4b, .slice A5b n5b c5b]) (t := 26) hF (by rfl) rfl ?_ ?_
            ·first | (go_simp; done) | (go_simp; rfl)
            intro Gq wz hz
            have hzb := SPO.tk 0 hz
            refine hK.out _ _ (HSq _ hzb) (fun hHeld => ?_)
            clear hK K
            refine norm_ (a' := ?_) ?_ ?_
            rotate_left
            ·show Act.put _ (some 36) _ = _
             simp only [Act.put, List.setIfInBounds_toArray, List.set_cons_zero, List.set_cons_succ, i64_w, i32_w]
             rfl
            exact norm_ (by simp only [putAll, Act.put, List.setIfInBounds_toArray, List.set_cons_zero, List.set_cons_succ, World.size_alloc] <;> rfl) (hJ0_2_4 (gq, A1q, c1q, Gq, ()) _ hz)
           ·skip
            refine freshO_ (c := #[.int .i64 0, .int .i64 0, .string ⟨#[]⟩, .slice none 0 0, .slice none 0 0, .slice none 0 0]) (t := 26) hF (by rfl) rfl ?_ ?_
            ·first | (go_simp; done) | (go_simp; rfl)
            intro Rq7 wz hz
            have hzb := SPO.tk 0 hz
            refine hK.out _ _ (HSq _ hzb) (fun hHeld => ?_)
            clear hK K
            refine norm_ (a' := ?_) ?_ ?_
            rotate_left
            ·show Act.put _ (some 9) _ = _
             simp only [Act.put, List.setIfInBounds_toArray, List.set_cons_zero, List.set_cons_succ, i64_w, i32_w]
             rfl
            exact norm_ (by simp only [putAll, Act.put, List.setIfInBounds_toArray, List.set_cons_zero, List.set_cons_succ, World.size_alloc] <;> rfl) (hJ0_2_7 (gq, A1q, c1q, Rq7, ()) _ hz)
         ·skip
          rintro ⟨gq, Gq, Rq7, _⟩ w' hF
          change SPO wq [(Gq, cz Kb Hb sb A3b n3b c3b A4b n4b c4b A5b n5b c5b, 26), (Rq7, zq, 26)] (.slice (some ⟨gq, 0, none⟩) 0 0) [] w' at hF
          have hHeld := HSq _ (SPO.tk 0 hF)
          refine norm_ (a' := ?_) ?_ ?_
          rotate_left
          ·simp only [putAll, Act.put, List.setIfInBounds_toArray, List.set_cons_zero, List.set_cons_succ]
           rfl
          refine one_ (i := 2) (N := some 34) #[true, true, true, true, true, false, false, true, false] rfl rfl (by kernel_rfl) (by decide) (fun K hK => ?_)
          obtain ⟨v1, wz, hr, hz0⟩ := SPO.app hF (HCQ.out _ (SPO.bel hF)) (by have := HLN.out; simp; omega)
          have hz1 : SPO wq [(Gq, cz Kb Hb sb A3b n3b c3b A4b n4b c4b A5b n5b c5b, 26), (Rq7, zq, 26)] v1 l wz := hz0
          obtain ⟨A1q, c1q, rfl, -, -⟩ := SPO.row hz1
          refine append_step_ (by rfl) rfl rfl rfl (by rfl) (by rfl) hr ?_
          have hz := hz1
          have hzb := SPO.tk 0 hz
          refine hK.out _ _ (HSq _ hzb) (fun hHeld => ?_)
          clear hK K
          refine norm_ (a' := ?_) ?_ ?_
          rotate_left
          ·show Act.put _ (some 34) _ = _
           simp only [Act.put, List.setIfInBounds_toArray, List.set_cons_zero, List.set_cons_succ, i64_w, i32_w]
           rfl
          exact norm_ (by simp only [putAll, Act.put, List.setIfInBounds_toArray, List.set_cons_zero, List.set_cons_succ, World.size_alloc] <;> rfl) (hJ0_2_4_7 (gq, A1q, c1q, Gq, Rq7, ()) _ hz)
        ·skip
         rintro ⟨gq, A1q, c1q, Rq7, _⟩ w' hF
         change SPO wq [(Rq7, zq, 26)] (.slice A1q l.length c1q) l w' at hF
         have hHeld := HSq _ (SPO.tk 0 hF)
         refine norm_ (a' := ?_) ?_ ?_
         rotate_left
         ·simp only [putAll, Act.put, List.setIfInBounds_toArray, List.set_cons_zero, List.set_cons_succ]
          rfl
         refine one_ (i := 4) (N := some 36) #[true, true, true, true, true, false, false, true, false] rfl rfl (by kernel_rfl) (by decide) (fun K hK => ?_)
         refine boxO_ (c := #[.int .i64 Kb, .int .i64 Hb, .string sb, .slice A3b n3b c3b, .slice A4b n4b c4b, .slice A5b n5b c5b]) (t := 26) hF (by rfl) rfl ?_ ?_
         ·first | (go_simp; done) | (go_simp; rfl)
         intro Gq wz hz
         have hzb := SPO.tk 0 hz
         refine hK.out _ _ (HSq _ hzb) (fun hHeld => ?_)
         clear hK K
         refine norm_ (a' := ?_) ?_ ?_
         rotate_left
         ·show Act.put _ (some 36) _ = _
          simp only [Act.put, List.setIfInBounds_toArray, List.set_cons_zero, List.set_cons_succ, i64_w, i32_w]
          rfl
         exact norm_ (by simp only [putAll, Act.put, List.setIfInBounds_toArray, List.set_cons_zero, List.set_cons_succ, World.size_alloc] <;> rfl) (hJ0_2_4_7 (gq, A1q, c1q, Gq, Rq7, ()) _ (SPO.prm hz (.swap _ _ _)))
       ·skip
        rintro ⟨gq, A1q, c1q, Gq, _⟩ w' hF
        change SPO wq [(Gq, cz Kb Hb sb A3b n3b c3b A4b n4b c4b A5b n5b c5b, 26)] (.slice A1q l.length c1q) l w' at hF
        have hHeld := HSq _ (SPO.tk 0 hF)
        refine norm_ (a' := ?_) ?_ ?_
        rotate_left
        ·simp only [putAll, Act.put, List.setIfInBounds_toArray, List.set_cons_zero, List.set_cons_succ]
         rfl
        refine two_ (i := 5) (j := 7) (Ni := some 37) (Nj := some 9) #[true, true, true, true, true, true, false, false, false] #[true, true, true, true, true, false, false, true, false] rfl rfl rfl rfl (by kernel_rfl) (by decide) (by decide) (fun K hK => ?_) (fun K hK => ?_)
        ·skip
         obtain ⟨v1, wz, hr, hz0⟩ := SPO.app hF (SPO.one hF 0 rfl HKQ.out) (by have := HLN.out; simp; omega)
         have hz1 : SPO wq [(Gq, cz Kb Hb sb A3b n3b c3b A4b n4b c4b A5b n5b c5b, 26)] v1 (l ++ [xb]) wz := hz0
         obtain ⟨A2q, c2q, rfl, -, -⟩ := SPO.row1 hz1
         refine append_step_ (by rfl) rfl rfl rfl (by rfl) (by rfl) hr ?_
         have hz := hz1
         have hzb := SPO.tk 0 hz
         refine hK.out _ _ (HSq _ hzb) (fun hHeld => ?_)
         clear hK K
         refine norm_ (a' := ?_) ?_ ?_
         rotate_left
         ·show Act.put _ (some 37) _ = _
          simp only [Act.put, List.setIfInBounds_toArray, List.set_cons_zero, List.set_cons_succ, i64_w, i32_w]
          rfl
         exact norm_ (by simp only [putAll, Act.put, List.setIfInBounds_toArray, List.set_cons_zero, List.set_cons_succ, World.size_alloc] <;> rfl) (hJ0_2_4_5 (gq, A1q, c1q, A2q, c2q, Gq, ()) _ hz)
        ·skip
         refine freshO_ (c := #[.int .i64 0, .int .i64 0, .string ⟨#[]⟩, .slice none 0 0, .slice none 0 0, .slice none 0 0]) (t := 26) hF (by rfl) rfl ?_ ?_
         ·first | (go_simp; done) | (go_simp; rfl)
         intro Rq7 wz hz
         have hzb := SPO.tk 0 hz
         refine hK.out _ _ (HSq _ hzb) (fun hHeld => ?_)
         clear hK K
         refine norm_ (a' := ?_) ?_ ?_
         rotate_left
         ·show Act.put _ (some 9) _ = _
          simp only [Act.put, List.setIfInBounds_toArray, List.set_cons_zero, List.set_cons_succ, i64_w, i32_w]
          rfl
         exact norm_ (by simp only [putAll, Act.put, List.setIfInBounds_toArray, List.set_cons_zero, List.set_cons_succ, World.size_alloc] <;> rfl) (hJ0_2_4_7 (gq, A1q, c1q, Gq, Rq7, ()) _ hz)
      ·skip
       rintro ⟨gq, A1q, c1q, Gq, Rq7, _⟩ w' hF
       change SPO wq [(Gq, cz Kb Hb sb A3b n3b c3b A4b n4b c4b A5b n5b c5b, 26), (Rq7, zq, 26)] (.slice A1q l.length c1q) l w' at hF
       have hHeld := HSq _ (SPO.tk 0 hF)
       refine norm_ (a' := ?_) ?_ ?_
       rotate_left
       ·simp only [putAll, Act.put, List.setIfInBounds_toArray, List.set_cons_zero, List.set_cons_succ]
        rfl
       refine one_ (i := 5) (N := some 37) #[true, true, true, true, true, true, false, true, false] rfl rfl (by kernel_rfl) (by decide) (fun K hK => ?_)
       obtain ⟨v1, wz, hr, hz0⟩ := SPO.app hF (SPO.one hF 0 rfl HKQ.out) (by have := HLN.out; simp; omega)
       have hz1 : SPO wq [(Gq, cz Kb Hb sb A3b n3b c3b A4b n4b c4b A5b n5b c5b, 26), (Rq7, zq, 26)] v1 (l ++ [xb]) wz := hz0
       obtain ⟨A2q, c2q, rfl, -, -⟩ := SPO.row1 hz1
       refine append_step_ (by rfl) rfl rfl rfl (by rfl) (by rfl) hr ?_
       have hz := hz1
       have hzb := SPO.tk 0 hz
       refine hK.out _ _ (HSq _ hzb) (fun hHeld => ?_)
       clear hK K
       refine norm_ (a' := ?_) ?_ ?_
       rotate_left
       ·show Act.put _ (some 37) _ = _
        simp only [Act.put, List.setIfInBounds_toArray, List.set_cons_zero, List.set_cons_succ, i64_w, i32_w]
        rfl
       exact norm_ (by simp only [putAll, Act.put, List.setIfInBounds_toArray, List.set_cons_zero, List.set_cons_succ, World.size_alloc] <;> rfl) (hJ0_2_4_5_7 (gq, A1q, c1q, A2q, c2q, Gq, Rq7, ()) _ hz)
     ·skip
      rintro ⟨gq, A1q, c1q, A2q, c2q, Gq, _⟩ w' hF
      change SPO wq [(Gq, cz Kb Hb sb A3b n3b c3b A4b n4b c4b A5b n5b c5b, 26)] (.slice A2q (l.length + 1) c2q) (l ++ [xb]) w' at hF
      have hHeld := HSq _ (SPO.tk 0 hF)
      refine norm_ (a' := ?_) ?_ ?_
      rotate_left
      ·simp only [putAll, Act.put, List.setIfInBounds_toArray, List.set_cons_zero, List.set_cons_succ]
       rfl
      refine two_ (i := 6) (j := 7) (Ni := some 38) (Nj := some 9) #[true, true, true, true, true, true, true, false, false] #[true, true, true, true, true, true, false, true, false] rfl rfl rfl rfl (by kernel_rfl) (by decide) (by decide) (fun K hK => ?_) (fun K hK => ?_)
      ·skip
       refine goes_ Tryz.func13 (by kernel_rfl) rfl #[.slice A2q (l.length + 1) c2q] (by rfl) rfl rfl (by simp only [List.map_toArray, List.map_cons, List.map_nil]; rfl) ?_
       with_reducible refine ((HAR.out A2q (l.length + 1) c2q _)).mono ?_
       rintro e wz ⟨rfl, hb⟩
       refine ⟨_, rfl, ?_⟩
       have hz := SPO.below hF hb
       have hzb := SPO.tk 0 hz
       refine hK.out _ _ (HSq _ hzb) (fun hHeld => ?_)
       clear hK K
       refine norm_ (a' := ?_) ?_ ?_
       rotate_left
       ·show Act.put _ (some 38) _ = _
        simp only [Act.put, List.setIfInBounds_toArray, List.set_cons_zero, List.set_cons_succ, i64_w, i32_w]
        rfl
       exact norm_ (by simp only [putAll, Act.put, List.setIfInBounds_toArray, List.set_cons_zero, List.set_cons_succ, World.size_alloc] <;> rfl) (hJ0_2_4_5_6 (gq, A1q, c1q, A2q, c2q, Gq, ()) _ hz)
      ·skip
       refine freshO_ (c := #[.int .i64 0, .int .i64 0, .string ⟨#[]⟩, .slice none 0 0, .slice none 0 0, .slice none 0 0]) (t := 26) hF (by rfl) rfl ?_ ?_
       ·first | (go_simp; done) | (go_simp; rfl)
       intro Rq7 wz hz
       have hzb := SPO.tk 0 hz
       refine hK.out _ _ (HSq _ hzb) (fun hHeld => ?_)
       clear hK K
       refine norm_ (a' := ?_) ?_ ?_
       rotate_left
       ·show Act.put _ (some 9) _ = _
        simp only [Act.put, List.setIfInBounds_toArray, List.set_cons_zero, List.set_cons_succ, i64_w, i32_w]
        rfl
       exact norm_ (by simp only [putAll, Act.put, List.setIfInBounds_toArray, List.set_cons_zero, List.set_cons_succ, World.size_alloc] <;> rfl) (hJ0_2_4_5_7 (gq, A1q, c1q, A2q, c2q, Gq, Rq7, ()) _ hz)
    ·skip
     rintro ⟨gq, A1q, c1q, A2q, c2q, Gq, Rq7, _⟩ w' hF
     change SPO wq [(Gq, cz Kb Hb sb A3b n3b c3b A4b n4b c4b A5b n5b c5b, 26), (Rq7, zq, 26)] (.slice A2q (l.length + 1) c2q) (l ++ [xb]) w' at hF
     have hHeld := HSq _ (SPO.tk 0 hF)
     refine norm_ (a' := ?_) ?_ ?_
     rotate_left
     ·simp only [putAll, Act.put, List.setIfInBounds_toArray, List.set_cons_zero, List.set_cons_succ]
      rfl
     refine one_ (i := 6) (N := some 38) #[true, true, true, true, true, true, true, true, false] rfl rfl (by kernel_rfl) (by decide) (fun K hK => ?_)
     refine goes_ Tryz.func13 (by kernel_rfl) rfl #[.slice A2q (l.length + 1) c2q] (by rfl) rfl rfl (by simp only [List.map_toArray, List.map_cons, List.map_nil]; rfl) ?_
     with_reducible refine ((HAR.out A2q (l.length + 1) c2q _)).mono ?_
     rintro e wz ⟨rfl, hb⟩
     refine ⟨_, rfl, ?_⟩
     have hz := SPO.below hF hb
     have hzb := SPO.tk 0 hz
     refine hK.out _ _ (HSq _ hzb) (fun hHeld => ?_)
     clear hK K
     refine norm_ (a' := ?_) ?_ ?_
     rotate_left
     ·show Act.put _ (some 38) _ = _
      simp only [Act.put, List.setIfInBounds_toArray, List.set_cons_zero, List.set_cons_succ, i64_w, i32_w]
      rfl
     exact norm_ (by simp only [putAll, Act.put, List.setIfInBounds_toArray, List.set_cons_zero, List.set_cons_succ, World.size_alloc] <;> rfl) (hJ0_2_4_5_6_7 (gq, A1q, c1q, A2q, c2q, Gq, Rq7, ()) _ hz)
   ·skip
    rintro ⟨gq, A1q, c1q, A2q, c2q, Gq, _⟩ w' hF
    change SPO wq [(Gq, cz Kb Hb sb A3b n3b c3b A4b n4b c4b A5b n5b c5b, 26)] (.slice A2q (l.length + 1) c2q) (l ++ [xb]) w' at hF
    have hHeld := HSq _ (SPO.tk 0 hF)
    refine norm_ (a' := ?_) ?_ ?_
    rotate_left
    ·simp only [putAll, Act.put, List.setIfInBounds_toArray, List.set_cons_zero, List.set_cons_succ]
     rfl
    refine one_ (i := 7) (N := some 9) #[true, true, true, true, true, true, true, true, false] rfl rfl (by kernel_rfl) (by decide) (fun K hK => ?_)
    refine freshO_ (c := #[.int .i64 0, .int .i64 0, .string ⟨#[]⟩, .slice none 0 0, .slice none 0 0, .slice none 0 0]) (t := 26) hF (by rfl) rfl ?_ ?_
    ·first | (go_simp; done) | (go_simp; rfl)
    intro Rq7 wz hz
    have hzb := SPO.tk 0 hz
    refine hK.out _ _ (HSq _ hzb) (fun hHeld => ?_)
    clear hK K
    refine norm_ (a' := ?_) ?_ ?_
    rotate_left
    ·show Act.put _ (some 9) _ = _
     simp only [Act.put, List.setIfInBounds_toArray, List.set_cons_zero, List.set_cons_succ, i64_w, i32_w]
     rfl
    exact norm_ (by simp only [putAll, Act.put, List.setIfInBounds_toArray, List.set_cons_zero, List.set_cons_succ, World.size_alloc] <;> rfl) (hJ0_2_4_5_6_7 (gq, A1q, c1q, A2q, c2q, Gq, Rq7, ()) _ hz)
  rintro ⟨gq, A1q, c1q, A2q, c2q, Gq, Rq7, _⟩ w' hF
  change SPO wq [(Gq, cz Kb Hb sb A3b n3b c3b A4b n4b c4b A5b n5b c5b, 26), (Rq7, zq, 26)] (.slice A2q (l.length + 1) c2q) (l ++ [xb]) w' at hF
  have hHeld := HSq _ (SPO.tk 0 hF)
  refine norm_ (a' := ?_) ?_ ?_
  rotate_left
  ·simp only [putAll, Act.put, List.setIfInBounds_toArray, List.set_cons_zero, List.set_cons_succ]
   rfl
  refine one_ (i := 8) (N := none) #[true, true, true, true, true, true, true, true, true] rfl rfl (by kernel_rfl) (by decide) (fun K hK => ?_)
  obtain ⟨y0, y1, y2, y3, y4, y5, f0, f1, f2, f3, f4, f5⟩ := six_cells (SPO.get hF 1 rfl)
  refine put6O_ (v0 := .int .i64 5) (v1 := .int .i64 0) (v2 := .string ⟨#[]⟩) (v3 := .slice A2q (l.length + 1) c2q) (v4 := .slice none 0 0) (v5 := .slice none 0 0) hF 1 rfl (by rfl) rfl ?_ ?_
  ·first | (go_simp; done) | (go_simp; rfl)
  clear y0 y1 y2 y3 y4 y5 f0 f1 f2 f3 f4 f5
  intro wsq0 hsq0
  change SPO wq [(Gq, cz Kb Hb sb A3b n3b c3b A4b n4b c4b A5b n5b c5b, 26), (Rq7, #[.int .i64 5, .int .i64 0, .string ⟨#[]⟩, .slice A2q (l.length + 1) c2q, .slice none 0 0, .slice none 0 0], 26)] (.slice A2q (l.length + 1) c2q) (l ++ [xb]) wsq0 at hsq0
  have hzb := SPO.tk 0 hsq0
  refine hK.out _ _ (HSq _ hzb) (fun hHeld => ?_)
  clear hK K
  refine done_ (by kernel_rfl) ?_
  obtain ⟨wr, hwr⟩ : ∃ wr, wr = wsq0 := ⟨_, rfl⟩
  rw [← hwr] at hsq0 ⊢
  have HR := Lib.hid hsq0
  clear hHeld hF hwr hsq0
  have HQ2 := Lib.hid (SPO.below HQ.out HR.out.bel)
  have HB1 := Lib.hid HQ2.out.bel
  have HKX := Lib.hid (lst_K HLC.out (Kd.C_below (HCL.out w (Below.refl _ w)) HB1.out))
  have HKY := Lib.hid (SPO.rowL HQ2.out)
  have HKZ := Lib.hid (SPO.rowL HR.out)
  have HSX : Hid (Sz (lV l) ∧ Sz (lV (l ++ [xa])) ∧ Sz (lV (l ++ [xb]))) := Lib.hid ⟨lst_sz HZL.out, lst_sz (fun y hy => (List.mem_append.1 hy).elim (HZL.out y) (fun h => by rw [List.mem_singleton.1 h]; exact HZA.out)), lst_sz (fun y hy => (List.mem_append.1 hy).elim (HZL.out y) (fun h => by rw [List.mem_singleton.1 h]; exact HZB.out))⟩
  have HFI := Lib.hid (fun w1 hb => fit_two wr (HEN.out.below HB1.out) (lV l) HSX.out.1 5 0 ⟨#[]⟩ PL none none l.length cL 0 0 0 0 HKX.out (lV (l ++ [xa])) HSX.out.2.1 5 0 ⟨#[]⟩ A2p none none (l.length + 1) c2p 0 0 0 0 HKY.out w1 hb)
  have HFC := Lib.hid (fun w1 hb => fit_any wr (HEN.out.below HB1.out) (lV (l ++ [xb])) HSX.out.2.2 5 0 ⟨#[]⟩ A2q none none (l.length + 1) c2q 0 0 0 0 HKZ.out w1 hb)
  have y1 := six_cells (HQ2.out.get 3 rfl)
  have y2 := six_cells (HQ2.out.get 4 rfl)
  try go_wp2_with fail
  refine (HFI.out wr (Below.refl _ _)).mono ?_
  rintro e w5 ⟨r, rfl, hr, hb⟩
  have H5 := Lib.hid hb
  clear hb y1 y2
  cases r with
  | false =>
    go_wp2_with fail
    go_ret
    exact ⟨rfl, HB1.out.trans (H5.out.mono HB1.out.size)⟩
  | true =>
  have HW := Lib.hid (hr (by trivial))
  clear hr
  have y3 := six_cells ((SPO.below HR.out H5.out).get 1 rfl)
  go_wp2_with fail
  refine (HFC.out w5 H5.out).mono ?_
  rintro e w6 ⟨r, rfl, hr, hb⟩
  have H6 := Lib.hid (H5.out.trans (hb.mono H5.out.size))
  clear hb y3 H5
  cases r with
  | false =>
    go_wp2_with fail
    go_ret
    exact ⟨rfl, HB1.out.trans (H6.out.mono HB1.out.size)⟩
  | true =>
  have HWZ := Lib.hid (loose (hr (by trivial)))
  clear hr
  have HWX := Lib.hid (loose HW.out.1)
  have HWY := Lib.hid (loose HW.out.2)
  have HWa : Hid (WL xa) := Lib.hid (lst_h3 HWY.out xa (by show xa ∈ l ++ [xa]; simp))
  have HWb : Hid (WL xb) := Lib.hid (lst_h3 HWZ.out xb (by show xb ∈ l ++ [xb]; simp))
  obtain ⟨z, hzz⟩ : ∃ z, z = cmpV xa xb := ⟨_, rfl⟩
  have HXY : Hid (∀ w1, Below wr.heap.size wr w1 → Calls Tryz.prog 16 #[.agg #[.int .i64 5, .int .i64 0, .string ⟨#[]⟩, .slice PL l.length cL, .slice none 0 0, .slice none 0 0], .agg #[.int .i64 5, .int .i64 0, .string ⟨#[]⟩, .slice A2p (l.length + 1) c2p, .slice none 0 0, .slice none 0 0]] w1 fun e w' => e = .returned (.int .i64 (-1)) ∧ Below w1.heap.size w1 w') := Lib.hid (by
    intro w1 hb
    have h := impl_compare wr (lV l) (lV (l ++ [xa])) 5 0 ⟨#[]⟩ PL none none l.length cL 0 0 0 0 5 0 ⟨#[]⟩ A2p none none (l.length + 1) c2p 0 0 0 0 (toGo_any wr _ (lV l) (Nat.lt_succ_self _) HSX.out.1 HWX.out _ HKX.out) (toGo_any wr _ (lV (l ++ [xa])) (Nat.lt_succ_self _) HSX.out.2.1 HWY.out _ HKY.out) (cmpV (lV l) (lV (l ++ [xa]))) (compare_any _ (lV l) (Nat.lt_succ_self _) HWX.out HSX.out.1 (lV (l ++ [xa])) HWY.out HSX.out.2.1) w1 hb
    rw [cmp_pre] at h
    exact h)
  have HYZ : Hid (∀ w1, Below wr.heap.size wr w1 → Calls Tryz.prog 16 #[.agg #[.int .i64 5, .int .i64 0, .string ⟨#[]⟩, .slice A2p (l.length + 1) c2p, .slice none 0 0, .slice none 0 0], .agg #[.int .i64 5, .int .i64 0, .string ⟨#[]⟩, .slice A2q (l.length + 1) c2q, .slice none 0 0, .slice none 0 0]] w1 fun e w' => e = .returned (.int .i64 z) ∧ Below w1.heap.size w1 w') := Lib.hid (by
    intro w1 hb
    have h := impl_compare wr (lV (l ++ [xa])) (lV (l ++ [xb])) 5 0 ⟨#[]⟩ A2p none none (l.length + 1) c2p 0 0 0 0 5 0 ⟨#[]⟩ A2q none none (l.length + 1) c2q 0 0 0 0 (toGo_any wr _ (lV (l ++ [xa])) (Nat.lt_succ_self _) HSX.out.2.1 HWY.out _ HKY.out) (toGo_any wr _ (lV (l ++ [xb])) (Nat.lt_succ_self _) HSX.out.2.2 HWZ.out _ HKZ.out) (cmpV (lV (l ++ [xa])) (lV (l ++ [xb]))) (compare_any _ (lV (l ++ [xa])) (Nat.lt_succ_self _) HWY.out HSX.out.2.1 (lV (l ++ [xb])) HWZ.out HSX.out.2.2) w1 hb
    rw [cmp_last, ← hzz] at h
    exact h)
  have HAB : Hid (∀ w1, Below wr.heap.size wr w1 → Calls Tryz.prog 16 #[.agg #[.int .i64 Ka, .int .i64 Ha, .string sa, .slice A3a n3a c3a, .slice A4a n4a c4a, .slice A5a n5a c5a], .agg #[.int .i64 Kb, .int .i64 Hb, .string sb, .slice A3b n3b c3b, .slice A4b n4b c4b, .slice A5b n5b c5b]] w1 fun e w' => e = .returned (.int .i64 z) ∧ Below w1.heap.size w1 w') := Lib.hid (by
    intro w1 hb
    rw [hzz]
    exact impl_compare w xa xb Ka Ha sa A3a A4a A5a n3a c3a n4a c4a n5a c5a Kb Hb sb A3b A4b A5b n3b c3b n4b c4b n5b c5b (HTa.out HWa.out) (HTb.out HWb.out) (cmpV xa xb) (HPab.out HWa.out HWb.out) w1 (HB1.out.trans (hb.mono HB1.out.size)))
  clear hzz HFI HFC
  go_wp2_with fail
  refine start_ (n := 14) (S := fun w' => w'.cell? ⟨A, 0, none⟩ = some (.int .i64 Ka) ∧ w'.cell? ⟨A, 1, none⟩ = some (.int .i64 Ha) ∧ w'.cell? ⟨A, 2, none⟩ = some (.string sa) ∧ w'.cell? ⟨A, 3, none⟩ = some (.slice A3a n3a c3a) ∧ w'.cell? ⟨A, 4, none⟩ = some (.slice A4a n4a c4a) ∧ w'.cell? ⟨A, 5, none⟩ = some (.slice A5a n5a c5a) ∧ w'.cell? ⟨B, 0, none⟩ = some (.int .i64 Kb) ∧ w'.cell? ⟨B, 1, none⟩ = some (.int .i64 Hb) ∧ w'.cell? ⟨B, 2, none⟩ = some (.string sb) ∧ w'.cell? ⟨B, 3, none⟩ = some (.slice A3b n3b c3b) ∧ w'.cell? ⟨B, 4, none⟩ = some (.slice A4b n4b c4b) ∧ w'.cell? ⟨B, 5, none⟩ = some (.slice A5b n5b c5b) ∧ w'.cell? ⟨Rp9, 0, none⟩ = some (.int .i64 5) ∧ w'.cell? ⟨Rp9, 1, none⟩ = some (.int .i64 0) ∧ w'.cell? ⟨Rp9, 2, none⟩ = some (.string ⟨#[]⟩) ∧ w'.cell? ⟨Rp9, 3, none⟩ = some (.slice PL l.length cL) ∧ w'.cell? ⟨Rp9, 4, none⟩ = some (.slice none 0 0) ∧ w'.cell? ⟨Rp9, 5, none⟩ = some (.slice none 0 0) ∧ w'.cell? ⟨Rp10, 0, none⟩ = some (.int .i64 5) ∧ w'.cell? ⟨Rp10, 1, none⟩ = some (.int .i64 0) ∧ w'.cell? ⟨Rp10, 2, none⟩ = some (.string ⟨#[]⟩) ∧ w'.cell? ⟨Rp10, 3, none⟩ = some (.slice A2p (l.length + 1) c2p) ∧ w'.cell? ⟨Rp10, 4, none⟩ = some (.slice none 0 0) ∧ w'.cell? ⟨Rp10, 5, none⟩ = some (.slice none 0 0) ∧ w'.cell? ⟨Rq7, 0, none⟩ = some (.int .i64 5) ∧ w'.cell? ⟨Rq7, 1, none⟩ = some (.int .i64 0) ∧ w'.cell? ⟨Rq7, 2, none⟩ = some (.string ⟨#[]⟩) ∧ w'.cell? ⟨Rq7, 3, none⟩ = some (.slice A2q (l.length + 1) c2q) ∧ w'.cell? ⟨Rq7, 4, none⟩ = some (.slice none 0 0) ∧ w'.cell? ⟨Rq7, 5, none⟩ = some (.slice none 0 0) ∧ Below wr.heap.size wr w') (ds := []) #[false, false, false, false, false, false, false, false, false, false, false, false, false, false] (by kernel_rfl) rfl rfl ⟨((six_cells ((SPO.below HQ2.out (pw_below_drewN H6.out 1)).get 0 rfl)).1), ((six_cells ((SPO.below HQ2.out (pw_below_drewN H6.out 1)).get 0 rfl)).2.1), ((six_cells ((SPO.below HQ2.out (pw_below_drewN H6.out 1)).get 0 rfl)).2.2.1), ((six_cells ((SPO.below HQ2.out (pw_below_drewN H6.out 1)).get 0 rfl)).2.2.2.1), ((six_cells ((SPO.below HQ2.out (pw_below_drewN H6.out 1)).get 0 rfl)).2.2.2.2.1), ((six_cells ((SPO.below HQ2.out (pw_below_drewN H6.out 1)).get 0 rfl)).2.2.2.2.2.1), ((six_cells ((SPO.below HQ2.out (pw_below_drewN H6.out 1)).get 1 rfl)).1), ((six_cells ((SPO.below HQ2.out (pw_below_drewN H6.out 1)).get 1 rfl)).2.1), ((six_cells ((SPO.below HQ2.out (pw_below_drewN H6.out 1)).get 1 rfl)).2.2.1), ((six_cells ((SPO.below HQ2.out (pw_below_drewN H6.out 1)).get 1 rfl)).2.2.2.1), ((six_cells ((SPO.below HQ2.out (pw_below_drewN H6.out 1)).get 1 rfl)).2.2.2.2.1), ((six_cells ((SPO.below HQ2.out (pw_below_drewN H6.out 1)).get 1 rfl)).2.2.2.2.2.1), ((six_cells ((SPO.below HQ2.out (pw_below_drewN H6.out 1)).get 3 rfl)).1), ((six_cells ((SPO.below HQ2.out (pw_below_drewN H6.out 1)).get 3 rfl)).2.1), ((six_cells ((SPO.below HQ2.out (pw_below_drewN H6.out 1)).get 3 rfl)).2.2.1), ((six_cells ((SPO.below HQ2.out (pw_below_drewN H6.out 1)).get 3 rfl)).2.2.2.1), ((six_cells ((SPO.below HQ2.out (pw_below_drewN H6.out 1)).get 3 rfl)).2.2.2.2.1), ((six_cells ((SPO.below HQ2.out (pw_below_drewN H6.out 1)).get 3 rfl)).2.2.2.2.2.1), ((six_cells ((SPO.below HQ2.out (pw_below_drewN H6.out 1)).get 4 rfl)).1), ((six_cells ((SPO.below HQ2.out (pw_below_drewN H6.out 1)).get 4 rfl)).2.1), ((six_cells ((SPO.below HQ2.out (pw_below_drewN H6.out 1)).get 4 rfl)).2.2.1), ((six_cells ((SPO.below HQ2.out (pw_below_drewN H6.out 1)).get 4 rfl)).2.2.2.1), ((six_cells ((SPO.below HQ2.out (pw_below_drewN H6.out 1)).get 4 rfl)).2.2.2.2.1), ((six_cells ((SPO.below HQ2.out (pw_below_drewN H6.out 1)).get 4 rfl)).2.2.2.2.2.1), ((six_cells ((SPO.below HR.out (pw_below_drewN H6.out 1)).get 1 rfl)).1), ((six_cells ((SPO.below HR.out (pw_below_drewN H6.out 1)).get 1 rfl)).2.1), ((six_cells ((SPO.below HR.out (pw_below_drewN H6.out 1)).get 1 rfl)).2.2.1), ((six_cells ((SPO.below HR.out (pw_below_drewN H6.out 1)).get 1 rfl)).2.2.2.1), ((six_cells ((SPO.below HR.out (pw_below_drewN H6.out 1)).get 1 rfl)).2.2.2.2.1), ((six_cells ((SPO.below HR.out (pw_below_drewN H6.out 1)).get 1 rfl)).2.2.2.2.2.1), (pw_below_drewN H6.out 1)⟩ (fun hHeld => ?_)
  refine take_ (i := 0) (N := some 48) (v := ?_) (a' := ?_) #[true, false, false, false, false, false, false, false, false, false, false, false, false, false] rfl rfl (by kernel_rfl) (fun _ _ _ h => h) (Or.inl ⟨by rfl, ?_⟩) hHeld ?_ ?_
  rotate_left
  · rintro w' ⟨s0, s1, s2, s3, s4, s5, s6, s7, s8, s9, s10, s11, s12, s13, s14, s15, s16, s17, s18, s19, s20, s21, s22, s23, s24, s25, s26, s27, s28, s29, s30⟩
    go_simp
    with_reducible rfl
  rotate_left
  · simp only [Act.put, List.setIfInBounds_toArray, List.set_cons_zero, List.set_cons_succ, i64_w, i32_w]
    rfl
  refine take_ (i := 1) (N := some 49) (v := ?_) (a' := ?_) #[true, true, false, false, false, false, false, false, false, false, false, false, false, false] rfl rfl (by kernel_rfl) (fun _ _ _ h => h) (Or.inl ⟨by rfl, ?_⟩) hHeld ?_ ?_
  rotate_left
  · rintro w' ⟨s0, s1, s2, s3, s4, s5, s6, s7, s8, s9, s10, s11, s12, s13, s14, s15, s16, s17, s18, s19, s20, s21, s22, s23, s24, s25, s26, s27, s28, s29, s30⟩
    go_simp
    with_reducible rfl
  rotate_left
  · simp only [Act.put, List.setIfInBounds_toArray, List.set_cons_zero, List.set_cons_succ, i64_w, i32_w]
    rfl
  refine one_ (i := 2) (N := some 50) #[true, true, true, false, false, false, false, false, false, false, false, false, false, false] rfl rfl (by kernel_rfl) (by decide) (fun K hK => ?_)
  refine goes_ Tryz.func16 (by kernel_rfl) rfl #[.agg #[.int .i64 5, .int .i64 0, .string ⟨#[]⟩, .slice PL l.length cL, .slice none 0 0, .slice none 0 0], .agg #[.int .i64 5, .int .i64 0, .string ⟨#[]⟩, .slice A2p (l.length + 1) c2p, .slice none 0 0, .slice none 0 0]] (by rfl) rfl rfl (by simp only [List.map_toArray, List.map_cons, List.map_nil]; rfl) ?_
  with_reducible refine ((HXY.out _ hHeld.2.2.2.2.2.2.2.2.2.2.2.2.2.2.2.2.2.2.2.2.2.2.2.2.2.2.2.2.2.2)).mono ?_
  rintro e wz2 ⟨rfl, hb2⟩
  refine ⟨_, rfl, ?_⟩
  have hc2 := Below.trans hHeld.2.2.2.2.2.2.2.2.2.2.2.2.2.2.2.2.2.2.2.2.2.2.2.2.2.2.2.2.2.2 (hb2.mono (Below.size hHeld.2.2.2.2.2.2.2.2.2.2.2.2.2.2.2.2.2.2.2.2.2.2.2.2.2.2.2.2.2.2))
  refine hK.out _ _ ⟨((six_cells ((SPO.below HQ2.out hc2).get 0 rfl)).1), ((six_cells ((SPO.below HQ2.out hc2).get 0 rfl)).2.1), ((six_cells ((SPO.below HQ2.out hc2).get 0 rfl)).2.2.1), ((six_cells ((SPO.below HQ2.out hc2).get 0 rfl)).2.2.2.1), ((six_cells ((SPO.below HQ2.out hc2).get 0 rfl)).2.2.2.2.1), ((six_cells ((SPO.below HQ2.out hc2).get 0 rfl)).2.2.2.2.2.1), ((six_cells ((SPO.below HQ2.out hc2).get 1 rfl)).1), ((six_cells ((SPO.below HQ2.out hc2).get 1 rfl)).2.1), ((six_cells ((SPO.below HQ2.out hc2).get 1 rfl)).2.2.1), ((six_cells ((SPO.below HQ2.out hc2).get 1 rfl)).2.2.2.1), ((six_cells ((SPO.below HQ2.out hc2).get 1 rfl)).2.2.2.2.1), ((six_cells ((SPO.below HQ2.out hc2).get 1 rfl)).2.2.2.2.2.1), ((six_cells ((SPO.below HQ2.out hc2).get 3 rfl)).1), ((six_cells ((SPO.below HQ2.out hc2).get 3 rfl)).2.1), ((six_cells ((SPO.below HQ2.out hc2).get 3 rfl)).2.2.1), ((six_cells ((SPO.below HQ2.out hc2).get 3 rfl)).2.2.2.1), ((six_cells ((SPO.below HQ2.out hc2).get 3 rfl)).2.2.2.2.1), ((six_cells ((SPO.below HQ2.out hc2).get 3 rfl)).2.2.2.2.2.1), ((six_cells ((SPO.below HQ2.out hc2).get 4 rfl)).1), ((six_cells ((SPO.below HQ2.out hc2).get 4 rfl)).2.1), ((six_cells ((SPO.below HQ2.out hc2).get 4 rfl)).2.2.1), ((six_cells ((SPO.below HQ2.out hc2).get 4 rfl)).2.2.2.1), ((six_cells ((SPO.below HQ2.out hc2).get 4 rfl)).2.2.2.2.1), ((six_cells ((SPO.below HQ2.out hc2).get 4 rfl)).2.2.2.2.2.1), ((six_cells ((SPO.below HR.out hc2).get 1 rfl)).1), ((six_cells ((SPO.below HR.out hc2).get 1 rfl)).2.1), ((six_cells ((SPO.below HR.out hc2).get 1 rfl)).2.2.1), ((six_cells ((SPO.below HR.out hc2).get 1 rfl)).2.2.2.1), ((six_cells ((SPO.below HR.out hc2).get 1 rfl)).2.2.2.2.1), ((six_cells ((SPO.below HR.out hc2).get 1 rfl)).2.2.2.2.2.1), hc2⟩ (fun hHeld => ?_)
  clear hK K
  refine norm_ (a' := ?_) ?_ ?_
  rotate_left
  · show Act.put _ (some 50) _ = _
    simp only [Act.put, List.setIfInBounds_toArray, List.set_cons_zero, List.set_cons_succ, i64_w, i32_w]
    rfl
  refine pure_ (i := 3) (N := some 51) (v := ?_) (a' := ?_) #[true, true, true, true, false, false, false, false, false, false, false, false, false, false] rfl rfl (by kernel_rfl) (fun _ _ _ h => h) (Or.inl ⟨by rfl, ?_⟩) ?_ ?_
  rotate_left
  · intro w'
    go_simp
    with_reducible rfl
  rotate_left
  · simp only [Act.put, List.setIfInBounds_toArray, List.set_cons_zero, List.set_cons_succ, i64_w, i32_w]
    rfl
  refine pure_ (i := 4) (N := some 52) (v := ?_) (a' := ?_) #[true, true, true, true, true, false, false, false, false, false, false, false, false, false] rfl rfl (by kernel_rfl) (fun _ _ _ h => h) (Or.inl ⟨by rfl, ?_⟩) ?_ ?_
  rotate_left
  · intro w'
    go_simp
    with_reducible rfl
  rotate_left
  · simp only [Act.put, List.setIfInBounds_toArray, List.set_cons_zero, List.set_cons_succ, i64_w, i32_w]
    rfl
  refine take_ (i := 5) (N := some 53) (v := ?_) (a' := ?_) #[true, true, true, true, true, true, false, false, false, false, false, false, false, false] rfl rfl (by kernel_rfl) (fun _ _ _ h => h) (Or.inl ⟨by rfl, ?_⟩) hHeld ?_ ?_
  rotate_left
  · rintro w' ⟨s0, s1, s2, s3, s4, s5, s6, s7, s8, s9, s10, s11, s12, s13, s14, s15, s16, s17, s18, s19, s20, s21, s22, s23, s24, s25, s26, s27, s28, s29, s30⟩
    go_simp
    with_reducible rfl
  rotate_left
  · simp only [Act.put, List.setIfInBounds_toArray, List.set_cons_zero, List.set_cons_succ, i64_w, i32_w]
    rfl
  refine take_ (i := 6) (N := some 54) (v := ?_) (a' := ?_) #[true, true, true, true, true, true, true, false, false, false, false, false, false, false] rfl rfl (by kernel_rfl) (fun _ _ _ h => h) (Or.inl ⟨by rfl, ?_⟩) hHeld ?_ ?_
  rotate_left
  · rintro w' ⟨s0, s1, s2, s3, s4, s5, s6, s7, s8, s9, s10, s11, s12, s13, s14, s15, s16, s17, s18, s19, s20, s21, s22, s23, s24, s25, s26, s27, s28, s29, s30⟩
    go_simp
    with_reducible rfl
  rotate_left
  · simp only [Act.put, List.setIfInBounds_toArray, List.set_cons_zero, List.set_cons_succ, i64_w, i32_w]
    rfl
  refine take_ (i := 8) (N := some 56) (v := ?_) (a' := ?_) #[true, true, true, true, true, true, true, false, true, false, false, false, false, false] rfl rfl (by kernel_rfl) (fun _ _ _ h => h) (Or.inl ⟨by rfl, ?_⟩) hHeld ?_ ?_
  rotate_left
  · rintro w' ⟨s0, s1, s2, s3, s4, s5, s6, s7, s8, s9, s10, s11, s12, s13, s14, s15, s16, s17, s18, s19, s20, s21, s22, s23, s24, s25, s26, s27, s28, s29, s30⟩
    go_simp
    with_reducible rfl
  rotate_left
  · simp only [Act.put, List.setIfInBounds_toArray, List.set_cons_zero, List.set_cons_succ, i64_w, i32_w]
    rfl
  refine take_ (i := 9) (N := some 57) (v := ?_) (a' := ?_) #[true, true, true, true, true, true, true, false, true, true, false, false, false, false] rfl rfl (by kernel_rfl) (fun _ _ _ h => h) (Or.inl ⟨by rfl, ?_⟩) hHeld ?_ ?_
  rotate_left
  · rintro w' ⟨s0, s1, s2, s3, s4, s5, s6, s7, s8, s9, s10, s11, s12, s13, s14, s15, s16, s17, s18, s19, s20, s21, s22, s23, s24, s25, s26, s27, s28, s29, s30⟩
    go_simp
    with_reducible rfl
  rotate_left
  · simp only [Act.put, List.setIfInBounds_toArray, List.set_cons_zero, List.set_cons_succ, i64_w, i32_w]
    rfl
  refine one_ (i := 7) (N := some 55) #[true, true, true, true, true, true, true, true, true, true, false, false, false, false] rfl rfl (by kernel_rfl) (by decide) (fun K hK => ?_)
  refine goes_ Tryz.func16 (by kernel_rfl) rfl #[.agg #[.int .i64 5, .int .i64 0, .string ⟨#[]⟩, .slice A2p (l.length + 1) c2p, .slice none 0 0, .slice none 0 0], .agg #[.int .i64 5, .int .i64 0, .string ⟨#[]⟩, .slice A2q (l.length + 1) c2q, .slice none 0 0, .slice none 0 0]] (by rfl) rfl rfl (by simp only [List.map_toArray, List.map_cons, List.map_nil]; rfl) ?_
  with_reducible refine ((HYZ.out _ hc2)).mono ?_
  rintro e wz7 ⟨rfl, hb7⟩
  refine ⟨_, rfl, ?_⟩
  have hc7 := Below.trans hc2 (hb7.mono (Below.size hc2))
  refine hK.out _ _ ⟨((six_cells ((SPO.below HQ2.out hc7).get 0 rfl)).1), ((six_cells ((SPO.below HQ2.out hc7).get 0 rfl)).2.1), ((six_cells ((SPO.below HQ2.out hc7).get 0 rfl)).2.2.1), ((six_cells ((SPO.below HQ2.out hc7).get 0 rfl)).2.2.2.1), ((six_cells ((SPO.below HQ2.out hc7).get 0 rfl)).2.2.2.2.1), ((six_cells ((SPO.below HQ2.out hc7).get 0 rfl)).2.2.2.2.2.1), ((six_cells ((SPO.below HQ2.out hc7).get 1 rfl)).1), ((six_cells ((SPO.below HQ2.out hc7).get 1 rfl)).2.1), ((six_cells ((SPO.below HQ2.out hc7).get 1 rfl)).2.2.1), ((six_cells ((SPO.below HQ2.out hc7).get 1 rfl)).2.2.2.1), ((six_cells ((SPO.below HQ2.out hc7).get 1 rfl)).2.2.2.2.1), ((six_cells ((SPO.below HQ2.out hc7).get 1 rfl)).2.2.2.2.2.1), ((six_cells ((SPO.below HQ2.out hc7).get 3 rfl)).1), ((six_cells ((SPO.below HQ2.out hc7).get 3 rfl)).2.1), ((six_cells ((SPO.below HQ2.out hc7).get 3 rfl)).2.2.1), ((six_cells ((SPO.below HQ2.out hc7).get 3 rfl)).2.2.2.1), ((six_cells ((SPO.below HQ2.out hc7).get 3 rfl)).2.2.2.2.1), ((six_cells ((SPO.below HQ2.out hc7).get 3 rfl)).2.2.2.2.2.1), ((six_cells ((SPO.below HQ2.out hc7).get 4 rfl)).1), ((six_cells ((SPO.below HQ2.out hc7).get 4 rfl)).2.1), ((six_cells ((SPO.below HQ2.out hc7).get 4 rfl)).2.2.1), ((six_cells ((SPO.below HQ2.out hc7).get 4 rfl)).2.2.2.1), ((six_cells ((SPO.below HQ2.out hc7).get 4 rfl)).2.2.2.2.1), ((six_cells ((SPO.below HQ2.out hc7).get 4 rfl)).2.2.2.2.2.1), ((six_cells ((SPO.below HR.out hc7).get 1 rfl)).1), ((six_cells ((SPO.below HR.out hc7).get 1 rfl)).2.1), ((six_cells ((SPO.below HR.out hc7).get 1 rfl)).2.2.1), ((six_cells ((SPO.below HR.out hc7).get 1 rfl)).2.2.2.1), ((six_cells ((SPO.below HR.out hc7).get 1 rfl)).2.2.2.2.1), ((six_cells ((SPO.below HR.out hc7).get 1 rfl)).2.2.2.2.2.1), hc7⟩ (fun hHeld => ?_)
  clear hK K
  refine norm_ (a' := ?_) ?_ ?_
  rotate_left
  · show Act.put _ (some 55) _ = _
    simp only [Act.put, List.setIfInBounds_toArray, List.set_cons_zero, List.set_cons_succ, i64_w, i32_w]
    rfl
  refine one_ (i := 10) (N := some 58) #[true, true, true, true, true, true, true, true, true, true, true, false, false, false] rfl rfl (by kernel_rfl) (by decide) (fun K hK => ?_)
  refine goes_ Tryz.func16 (by kernel_rfl) rfl #[.agg #[.int .i64 Ka, .int .i64 Ha, .string sa, .slice A3a n3a c3a, .slice A4a n4a c4a, .slice A5a n5a c5a], .agg #[.int .i64 Kb, .int .i64 Hb, .string sb, .slice A3b n3b c3b, .slice A4b n4b c4b, .slice A5b n5b c5b]] (by rfl) rfl rfl (by simp only [List.map_toArray, List.map_cons, List.map_nil]; rfl) ?_
  with_reducible refine ((HAB.out _ hc7)).mono ?_
  rintro e wz10 ⟨rfl, hb10⟩
  refine ⟨_, rfl, ?_⟩
  have hc10 := Below.trans hc7 (hb10.mono (Below.size hc7))
  refine hK.out _ _ ⟨((six_cells ((SPO.below HQ2.out hc10).get 0 rfl)).1), ((six_cells ((SPO.below HQ2.out hc10).get 0 rfl)).2.1), ((six_cells ((SPO.below HQ2.out hc10).get 0 rfl)).2.2.1), ((six_cells ((SPO.below HQ2.out hc10).get 0 rfl)).2.2.2.1), ((six_cells ((SPO.below HQ2.out hc10).get 0 rfl)).2.2.2.2.1), ((six_cells ((SPO.below HQ2.out hc10).get 0 rfl)).2.2.2.2.2.1), ((six_cells ((SPO.below HQ2.out hc10).get 1 rfl)).1), ((six_cells ((SPO.below HQ2.out hc10).get 1 rfl)).2.1), ((six_cells ((SPO.below HQ2.out hc10).get 1 rfl)).2.2.1), ((six_cells ((SPO.below HQ2.out hc10).get 1 rfl)).2.2.2.1), ((six_cells ((SPO.below HQ2.out hc10).get 1 rfl)).2.2.2.2.1), ((six_cells ((SPO.below HQ2.out hc10).get 1 rfl)).2.2.2.2.2.1), ((six_cells ((SPO.below HQ2.out hc10).get 3 rfl)).1), ((six_cells ((SPO.below HQ2.out hc10).get 3 rfl)).2.1), ((six_cells ((SPO.below HQ2.out hc10).get 3 rfl)).2.2.1), ((six_cells ((SPO.below HQ2.out hc10).get 3 rfl)).2.2.2.1), ((six_cells ((SPO.below HQ2.out hc10).get 3 rfl)).2.2.2.2.1), ((six_cells ((SPO.below HQ2.out hc10).get 3 rfl)).2.2.2.2.2.1), ((six_cells ((SPO.below HQ2.out hc10).get 4 rfl)).1), ((six_cells ((SPO.below HQ2.out hc10).get 4 rfl)).2.1), ((six_cells ((SPO.below HQ2.out hc10).get 4 rfl)).2.2.1), ((six_cells ((SPO.below HQ2.out hc10).get 4 rfl)).2.2.2.1), ((six_cells ((SPO.below HQ2.out hc10).get 4 rfl)).2.2.2.2.1), ((six_cells ((SPO.below HQ2.out hc10).get 4 rfl)).2.2.2.2.2.1), ((six_cells ((SPO.below HR.out hc10).get 1 rfl)).1), ((six_cells ((SPO.below HR.out hc10).get 1 rfl)).2.1), ((six_cells ((SPO.below HR.out hc10).get 1 rfl)).2.2.1), ((six_cells ((SPO.below HR.out hc10).get 1 rfl)).2.2.2.1), ((six_cells ((SPO.below HR.out hc10).get 1 rfl)).2.2.2.2.1), ((six_cells ((SPO.below HR.out hc10).get 1 rfl)).2.2.2.2.2.1), hc10⟩ (fun hHeld => ?_)
  clear hK K
  refine norm_ (a' := ?_) ?_ ?_
  rotate_left
  · show Act.put _ (some 58) _ = _
    simp only [Act.put, List.setIfInBounds_toArray, List.set_cons_zero, List.set_cons_succ, i64_w, i32_w]
    rfl
  refine pure_ (i := 11) (N := some 59) (v := ?_) (a' := ?_) #[true, true, true, true, true, true, true, true, true, true, true, true, false, false] rfl rfl (by kernel_rfl) (fun _ _ _ h => h) (Or.inl ⟨by rfl, ?_⟩) ?_ ?_
  rotate_left
  · intro w'
    go_simp
    with_reducible rfl
  rotate_left
  · simp only [Act.put, List.setIfInBounds_toArray, List.set_cons_zero, List.set_cons_succ, i64_w, i32_w]
    rfl
  refine pure_ (i := 12) (N := some 60) (v := ?_) (a' := ?_) #[true, true, true, true, true, true, true, true, true, true, true, true, true, false] rfl rfl (by kernel_rfl) (fun _ _ _ h => h) (Or.inl ⟨by rfl, ?_⟩) ?_ ?_
  rotate_left
  · intro w'
    go_simp
    with_reducible rfl
  rotate_left
  · simp only [Act.put, List.setIfInBounds_toArray, List.set_cons_zero, List.set_cons_succ, i64_w, i32_w]
    rfl
  refine pure_ (i := 13) (N := some 6) (v := ?_) (a' := ?_) #[true, true, true, true, true, true, true, true, true, true, true, true, true, true] rfl rfl (by kernel_rfl) (fun _ _ _ h => h) (Or.inl ⟨by rfl, ?_⟩) ?_ ?_
  rotate_left
  · intro w'
    go_simp
    with_reducible rfl
  rotate_left
  · simp only [Act.put, List.setIfInBounds_toArray, List.set_cons_zero, List.set_cons_succ, i64_w, i32_w]
    rfl
  refine done_ (by kernel_rfl) ?_
  go_wp2_with fail
  go_ret
  exact ⟨rfl, HB1.out.trans (hc10.mono HB1.out.size)⟩
end Go.Proofs.YtcoahpcjhhnkkaaGreatDoor.ValA
