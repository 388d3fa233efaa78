/-
FnContainsKeys: an object contains another one exactly if it has each of its keys, with a value of that kind that contains the other one's.
-/
import Derived.Test.YtcoahpcjhhnkkaaGreatDoorMR
import Derived.Test.YtcoahpcjhhnkkaaGreatDoorMO
set_option linter.unusedSimpArgs false
set_option linter.unusedVariables false
namespace Go.Proofs.YtcoahpcjhhnkkaaGreatDoor.ValA
open Go.RowKit Go.Lib Go.Proofs.YtcoahpcjhhnkkaaGreatDoorW.PrintWords Go.Proofs.YtcoahpcjhhnkkaaGreatDoorW.PrintLast Go.Proofs.YtcoahpcjhhnkkaaGreatDoorW.PrintMore Go.Proofs.YtcoahpcjhhnkkaaGreatDoor.PzzFits1 Go.Proofs.YtcoahpcjhhnkkaaGreatDoor.NumA
attribute [local go_sem] run_val
theorem con_same2 {x y : V} (h : x.f0 = y.f0) : ∃ b, con x y = some b := by
  rw [con_eq, if_neg (by simpa using h)]
  split
  · exact ⟨_, rfl⟩
  split
  · exact ⟨_, rfl⟩
  split
  · exact ⟨_, rfl⟩
  split
  · exact ⟨_, rfl⟩
  exact ⟨_, rfl⟩
theorem con_other2 {x y : V} (h : x.f0 ≠ y.f0) : con x y = none := by rw [con_eq, if_pos h]
theorem SPN.first {w w1 : World} {p q r : Nat × Array Value × TypeId} (h : SPN w [p, q, r] w1) : SPN w [p, q] w1 :=
  ⟨⟨h.1.1, fun x hx => h.1.2 x (by rcases List.mem_cons.1 hx with rfl | hx; exact List.mem_cons_self; rw [List.mem_singleton.1 hx]; exact List.mem_cons_of_mem _ List.mem_cons_self)⟩, h.2.1.sublist (by simp), fun x hx => h.2.2 x (by rcases List.mem_cons.1 hx with rfl | hx; exact List.mem_cons_self; rw [List.mem_singleton.1 hx]; exact List.mem_cons_of_mem _ List.mem_cons_self)⟩
set_option maxRecDepth 100000 in
set_option maxHeartbeats 20000000 in
theorem core_keys (w0 : World) (hE : Env w0) (a : V) (hza : Sz a ∧ Tz a) (A3a A4a A5a : Option Addr) (a3a a4a a5a : Nat) (hKa : k26.K w0 a [.int .i64 a.f0, .int .i64 a.f1, .string a.f2, .slice A3a a.f3.length a3a, .slice A4a a.f4.length a4a, .slice A5a a.f5.length a5a]) (b : V) (hzb : Sz b ∧ Tz b) (A3b A4b A5b : Option Addr) (a3b a4b a5b : Nat) (hKb : k26.K w0 b [.int .i64 b.f0, .int .i64 b.f1, .string b.f2, .slice A3b b.f3.length a3b, .slice A4b b.f4.length a4b, .slice A5b b.f5.length a5b]) :
    Calls Tryz.prog 6 #[.agg #[.int .i64 a.f0, .int .i64 a.f1, .string a.f2, .slice A3a a.f3.length a3a, .slice A4a a.f4.length a4a, .slice A5a a.f5.length a5a], .agg #[.int .i64 b.f0, .int .i64 b.f1, .string b.f2, .slice A3b b.f3.length a3b, .slice A4b b.f4.length a4b, .slice A5b b.f5.length a5b]] w0 fun e w' => e = .returned (.bool true) ∧ Below w0.heap.size w0 w' := by
  obtain ⟨w, hw⟩ : ∃ w, w = w0 := ⟨_, rfl⟩
  obtain ⟨_, _, _, _, _, _, heb, _, _, _, g4, _, g5⟩ := k26_open hKb
  simp only [List.cons.injEq, Value.int.injEq, Value.string.injEq, Value.slice.injEq, true_and, and_true] at heb
  obtain ⟨⟨rfl, rfl⟩, ⟨rfl, rfl⟩, ⟨rfl, rfl⟩⟩ := heb
  have HG := Lib.hid (And.intro g4 g5)
  have HFA := Lib.hid (fun w1 hb => fits1_any w0 a _ _ _ _ _ _ _ _ _ _ _ _ hKa w1 hb)
  have HFB := Lib.hid (fun w1 hb => fits1_any w0 b _ _ _ _ _ _ _ _ _ _ _ _ hKb w1 hb)
  have HFI := Lib.hid (fun w1 hb g hg => fits_two w0 hE a hza.1 _ _ _ _ _ _ _ _ _ _ _ _ hKa b hzb.1 _ _ _ _ _ _ _ _ _ _ _ _ hKb w1 hb g hg)
  have HTA := Lib.hid (fun h => toGo_any w0 _ a (Nat.lt_succ_self _) hza.1 h _ hKa)
  have HTB := Lib.hid (fun h => toGo_any w0 _ b (Nat.lt_succ_self _) hzb.1 h _ hKb)
  have HS := Lib.hid (And.intro hza hzb)
  have HKA := Lib.hid hKa
  clear hE hza hzb hKa hKb g4 g5
  subst hw
  go_enter Tryz.func6, Tryz.ntmps6
  go_wp2_with fail
  obtain ⟨A, hA⟩ : ∃ A, A = w.heap.size := ⟨_, rfl⟩
  obtain ⟨B, hB⟩ : ∃ B, B = w.heap.size + 1 := ⟨_, rfl⟩
  obtain ⟨W0, hW0⟩ : ∃ W0, W0 = (w.alloc (.cells #[.int .i64 a.f0, .int .i64 a.f1, .string a.f2, .slice A3a a.f3.length a3a, .slice A4a a.f4.length a4a, .slice A5a a.f5.length a5a] 26)).alloc (.cells #[.int .i64 b.f0, .int .i64 b.f1, .string b.f2, .slice A3b b.f3.length a3b, .slice A4b b.f4.length a4b, .slice A5b b.f5.length a5b] 26) := ⟨_, rfl⟩
  have hS : SPN w [(A, #[.int .i64 a.f0, .int .i64 a.f1, .string a.f2, .slice A3a a.f3.length a3a, .slice A4a a.f4.length a4a, .slice A5a a.f5.length a5a], 26), (B, #[.int .i64 b.f0, .int .i64 b.f1, .string b.f2, .slice A3b b.f3.length a3b, .slice A4b b.f4.length a4b, .slice A5b b.f5.length a5b], 26)] W0 := by
    have h := ((spn_of (Below.refl _ w)).more #[.int .i64 a.f0, .int .i64 a.f1, .string a.f2, .slice A3a a.f3.length a3a, .slice A4a a.f4.length a4a, .slice A5a a.f5.length a5a] 26).more #[.int .i64 b.f0, .int .i64 b.f1, .string b.f2, .slice A3b b.f3.length a3b, .slice A4b b.f4.length a4b, .slice A5b b.f5.length a5b] 26
    rw [World.size_alloc] at h
    rw [hA, hB, hW0]
    exact h
  rw [← hW0]
  try rw [← hB]
  try rw [← hA]
  have H0 := Lib.hid hS
  clear hS hW0 hA hB
  refine (HFA.out W0 H0.out.1.1).mono ?_
  rintro e w1 ⟨r, rfl, hr, hb⟩
  have H1 := Lib.hid (SPN.below H0.out hb)
  clear hb hr HFA H0
  cases r with
  | false =>
    go_wp2_with fail
    go_ret
    exact ⟨rfl, H1.out.1.1⟩
  | true =>
  have y := six_cells (H1.out.1.get 1 rfl)
  go_wp2_with fail
  refine (HFB.out w1 H1.out.1.1).mono ?_
  rintro e w2 ⟨r, rfl, hr, hb⟩
  have H2 := Lib.hid (SPN.below H1.out hb)
  clear hb hr HFB H1 y
  cases r with
  | false =>
    go_wp2_with fail
    go_ret
    exact ⟨rfl, H2.out.1.1⟩
  | true =>
  have ya := six_cells (H2.out.1.get 0 rfl)
  have yb := six_cells (H2.out.1.get 1 rfl)
  go_wp2_with fail
  refine (HFI.out _ (H2.out.1.1.alloc H2.out.1.1.size _) _ (heap_alloc_new w2 _)).mono ?_
  rintro e w3 ⟨r, rfl, hr, hb⟩
  have H3 := Lib.hid (SPN.below H2.out (((Below.refl _ w2).alloc (Nat.le_refl _) _).trans (hb.mono (by rw [World.size_alloc]; omega))))
  clear hb H2 HFI ya yb
  cases r with
  | false =>
    go_wp2_with fail
    go_ret
    exact ⟨rfl, H3.out.1.1⟩
  | true =>
  have HW := Lib.hid (hr (by trivial))
  clear hr
  have HWA := Lib.hid (loose HW.out.1)
  have HWB := Lib.hid (loose HW.out.2)
  have ya := six_cells (H3.out.1.get 0 rfl)
  have yb := six_cells (H3.out.1.get 1 rfl)
  cases ka : (a.f0 != 6) with
  | true =>
    go_wp2_with fail
    go_ret
    exact ⟨rfl, H3.out.1.1⟩
  | false =>
  cases kb : (b.f0 != 6) with
  | true =>
    go_wp2_with fail
    go_ret
    exact ⟨rfl, H3.out.1.1⟩
  | false =>
  have KA : Hid (a.f0 = 6) := Lib.hid (by simpa using ka)
  have KB : Hid (b.f0 = 6) := Lib.hid (by simpa using kb)
  have HF : Hid (b.f4.length = b.f5.length ∧ b.f4.length ≤ 1000000) := Lib.hid ⟨(wf_facts HWB.out).2.2.2, by cases HWB.out; assumption⟩
  have HT := Lib.hid (HTA.out HWA.out)
  have HTQ := Lib.hid (HTB.out HWB.out)
  clear HTA HTB
  go_wp2_with fail
  clear ya yb
  go_loopg [5, 35] b.f4.length (fun k u i wr => ∃ j : Nat, i = .int .i64 j ∧ k + j = b.f4.length ∧ SPN w [(A, #[.int .i64 a.f0, .int .i64 a.f1, .string a.f2, .slice A3a a.f3.length a3a, .slice A4a a.f4.length a4a, .slice A5a a.f5.length a5a], 26), (B, #[.int .i64 b.f0, .int .i64 b.f1, .string b.f2, .slice A3b b.f3.length a3b, .slice A4b b.f4.length a4b, .slice A5b b.f5.length a5b], 26)] wr ∧ u = .bool (((b.f4.zip b.f5).take j).all fun p => conK a.f4 a.f5 p.1 p.2))
  case atStart => exact ⟨0, rfl, by omega, H3.out, by simp⟩
  case round =>
    obtain ⟨j, rfl, hkj, hbr, rfl⟩ := hrel
    by_cases hlt : j < b.f4.length
    · obtain ⟨ak, rfl, xk⟩ := key_at HG.out.1 hbr.1.1 j hlt
      obtain ⟨ad, C3, e3, C4, e4, C5, e5, rfl, y0, y1, y2, y3, y4, y5, hKy⟩ := elem_at HG.out.2 (Below.refl _ w) j (by have := HF.out.1; omega)
      obtain ⟨key, hkey⟩ : ∃ key, key = rdOf ByteArray.empty b.f4 j := ⟨_, rfl⟩
      obtain ⟨y, hy⟩ : ∃ y, y = rd_T26 b.f5 j := ⟨_, rfl⟩
      have hk4 : b.f4[j]? = some key := by rw [hkey]; exact key_rd b.f4 j hlt
      rw [← hkey] at xk
      rw [← hy] at y0 y1 y2 y3 y4 y5 hKy
      have hym : y ∈ b.f5 := by rw [hy]; exact rd_mem b.f5 j (by have := HF.out.1; omega)
      obtain ⟨bv, hbv⟩ : ∃ bv, bv = ((b.f4.zip b.f5).take j).all fun p => conK a.f4 a.f5 p.1 p.2 := ⟨_, rfl⟩
      rw [← hbv]
      have HJ : Hid ((((b.f4.zip b.f5).take (j + 1)).all fun p => conK a.f4 a.f5 p.1 p.2) = (bv && conK a.f4 a.f5 key y)) := Lib.hid (by rw [hbv, hy]; exact zip_step HF.out.1 (fun s r => conK a.f4 a.f5 s r) hk4)
      have hkz : key.size ≤ 9223372036854775807 := by
        obtain ⟨_, _, z4, _, _⟩ := HS.out.2.1
        exact z4 key (List.mem_of_getElem? hk4)
      have HYS : Hid (WL y ∧ Sz y ∧ Tz y) := Lib.hid (by
        obtain ⟨_, _, _, _, _, _, _, h5⟩ := HWB.out
        obtain ⟨_, _, _, _, z5⟩ := HS.out.2.1
        obtain ⟨_, _, _, t5⟩ := HS.out.2.2
        exact ⟨h5 y hym, z5 y hym, t5 y hym⟩)
      have HY := Lib.hid (And.intro y0 (And.intro y1 (And.intro y2 (And.intro y3 (And.intro y4 (And.intro y5 hKy))))))
      have HR := Lib.hid (And.intro hbr (And.intro hkj hlt))
      have HKZ := Lib.hid hkz
      have hlt2 : (j : Int) < (b.f4.length : Int) := by omega
      have hlt5 : (j : Int) < (b.f5.length : Int) := by have := HF.out.1; omega
      have ya := six_cells (HR.out.1.1.get 0 rfl)
      have yb := six_cells (HR.out.1.1.get 1 rfl)
      clear hkey hy hk4 hym hbv hkz hKy hkj hlt hbr y0 y1 y2 y3 y4 y5
      go_wp2_with fail
      refine (get_any w a HWA.out _ _ _ _ _ _ HKA.out key _ HR.out.1.1.1).mono ?_
      obtain ⟨x, hx⟩ : ∃ x, x = getV a key := ⟨_, rfl⟩
      rw [← hx]
      rintro e w4 ⟨B3, d3, B4, d4, B5, d5, rfl, hKx, hb⟩
      have H4 := Lib.hid (SPN.below HR.out.1 hb)
      have HKX := Lib.hid hKx
      have HX := Lib.hid hx
      clear hb hKx hx ya yb xk
      go_wp2_with fail
      obtain ⟨X, hX⟩ : ∃ X, X = w4.heap.size := ⟨_, rfl⟩
      obtain ⟨W1, hW1⟩ : ∃ W1, W1 = w4.alloc (.cells #[.int .i64 x.f0, .int .i64 x.f1, .string x.f2, .slice B3 x.f3.length d3, .slice B4 x.f4.length d4, .slice B5 x.f5.length d5] 26) := ⟨_, rfl⟩
      have hS : SPN w [(A, #[.int .i64 a.f0, .int .i64 a.f1, .string a.f2, .slice A3a a.f3.length a3a, .slice A4a a.f4.length a4a, .slice A5a a.f5.length a5a], 26), (B, #[.int .i64 b.f0, .int .i64 b.f1, .string b.f2, .slice A3b b.f3.length a3b, .slice (some ak) b.f4.length a4b, .slice (some ad) b.f5.length a5b], 26), (X, #[.int .i64 x.f0, .int .i64 x.f1, .string x.f2, .slice B3 x.f3.length d3, .slice B4 x.f4.length d4, .slice B5 x.f5.length d5], 26)] W1 := by rw [hX, hW1]; exact H4.out.more _ _
      rw [← hW1, ← hX]
      have HP := Lib.hid hS
      clear hS hW1 hX H4
      cases bv with
      | false =>
        have HQ : Hid ((((b.f4.zip b.f5).take (j + 1)).all fun p => conK a.f4 a.f5 p.1 p.2) = false) := Lib.hid (by rw [HJ.out]; rfl)
        refine start_ (n := 30) (S := fun w' => w'.cell? ⟨A, 0, none⟩ = some (.int .i64 a.f0) ∧ w'.cell? ⟨A, 1, none⟩ = some (.int .i64 a.f1) ∧ w'.cell? ⟨A, 2, none⟩ = some (.string a.f2) ∧ w'.cell? ⟨A, 3, none⟩ = some (.slice A3a a.f3.length a3a) ∧ w'.cell? ⟨A, 4, none⟩ = some (.slice A4a a.f4.length a4a) ∧ w'.cell? ⟨A, 5, none⟩ = some (.slice A5a a.f5.length a5a) ∧ w'.cell? ⟨B, 0, none⟩ = some (.int .i64 b.f0) ∧ w'.cell? ⟨B, 1, none⟩ = some (.int .i64 b.f1) ∧ w'.cell? ⟨B, 2, none⟩ = some (.string b.f2) ∧ w'.cell? ⟨B, 3, none⟩ = some (.slice A3b b.f3.length a3b) ∧ w'.cell? ⟨B, 4, none⟩ = some (.slice (some ak) b.f4.length a4b) ∧ w'.cell? ⟨B, 5, none⟩ = some (.slice (some ad) b.f5.length a5b) ∧ w'.cell? ⟨X, 0, none⟩ = some (.int .i64 x.f0) ∧ w'.cell? ⟨X, 1, none⟩ = some (.int .i64 x.f1) ∧ w'.cell? ⟨X, 2, none⟩ = some (.string x.f2) ∧ w'.cell? ⟨X, 3, none⟩ = some (.slice B3 x.f3.length d3) ∧ w'.cell? ⟨X, 4, none⟩ = some (.slice B4 x.f4.length d4) ∧ w'.cell? ⟨X, 5, none⟩ = some (.slice B5 x.f5.length d5) ∧ w'.cell? (ad.add (j * 6)) = some (.int .i64 y.f0) ∧ w'.cell? ⟨(ad.add (j * 6)).block, (ad.add (j * 6)).off + 1, none⟩ = some (.int .i64 y.f1) ∧ w'.cell? ⟨(ad.add (j * 6)).block, (ad.add (j * 6)).off + 2, none⟩ = some (.string y.f2) ∧ w'.cell? ⟨(ad.add (j * 6)).block, (ad.add (j * 6)).off + 3, none⟩ = some (.slice C3 y.f3.length e3) ∧ w'.cell? ⟨(ad.add (j * 6)).block, (ad.add (j * 6)).off + 4, none⟩ = some (.slice C4 y.f4.length e4) ∧ w'.cell? ⟨(ad.add (j * 6)).block, (ad.add (j * 6)).off + 5, none⟩ = some (.slice C5 y.f5.length e5) ∧ SPN w [(A, #[.int .i64 a.f0, .int .i64 a.f1, .string a.f2, .slice A3a a.f3.length a3a, .slice A4a a.f4.length a4a, .slice A5a a.f5.length a5a], 26), (B, #[.int .i64 b.f0, .int .i64 b.f1, .string b.f2, .slice A3b b.f3.length a3b, .slice (some ak) b.f4.length a4b, .slice (some ad) b.f5.length a5b], 26), (X, #[.int .i64 x.f0, .int .i64 x.f1, .string x.f2, .slice B3 x.f3.length d3, .slice B4 x.f4.length d4, .slice B5 x.f5.length d5], 26)] w') (ds := []) #[false, false, false, false, false, false, false, false, false, false, false, false, false, false, false, false, false, false, false, false, false, false, false, false, false, false, false, false, false, false] (by kernel_rfl) rfl rfl ⟨((six_cells (((SPN.drew HP.out).1).get 0 rfl)).1), ((six_cells (((SPN.drew HP.out).1).get 0 rfl)).2.1), ((six_cells (((SPN.drew HP.out).1).get 0 rfl)).2.2.1), ((six_cells (((SPN.drew HP.out).1).get 0 rfl)).2.2.2.1), ((six_cells (((SPN.drew HP.out).1).get 0 rfl)).2.2.2.2.1), ((six_cells (((SPN.drew HP.out).1).get 0 rfl)).2.2.2.2.2.1), ((six_cells (((SPN.drew HP.out).1).get 1 rfl)).1), ((six_cells (((SPN.drew HP.out).1).get 1 rfl)).2.1), ((six_cells (((SPN.drew HP.out).1).get 1 rfl)).2.2.1), ((six_cells (((SPN.drew HP.out).1).get 1 rfl)).2.2.2.1), ((six_cells (((SPN.drew HP.out).1).get 1 rfl)).2.2.2.2.1), ((six_cells (((SPN.drew HP.out).1).get 1 rfl)).2.2.2.2.2.1), ((six_cells (((SPN.drew HP.out).1).get 2 rfl)).1), ((six_cells (((SPN.drew HP.out).1).get 2 rfl)).2.1), ((six_cells (((SPN.drew HP.out).1).get 2 rfl)).2.2.1), ((six_cells (((SPN.drew HP.out).1).get 2 rfl)).2.2.2.1), ((six_cells (((SPN.drew HP.out).1).get 2 rfl)).2.2.2.2.1), ((six_cells (((SPN.drew HP.out).1).get 2 rfl)).2.2.2.2.2.1), (pw_cell_below (SPN.bel (SPN.drew HP.out)) HY.out.1), (pw_cell_below (SPN.bel (SPN.drew HP.out)) HY.out.2.1), (pw_cell_below (SPN.bel (SPN.drew HP.out)) HY.out.2.2.1), (pw_cell_below (SPN.bel (SPN.drew HP.out)) HY.out.2.2.2.1), (pw_cell_below (SPN.bel (SPN.drew HP.out)) HY.out.2.2.2.2.1), (pw_cell_below (SPN.bel (SPN.drew HP.out)) HY.out.2.2.2.2.2.1), (SPN.drew HP.out)⟩ (fun hHeld => ?_)
        refine pure_ (i := 0) (N := some 43) (v := ?_) (a' := ?_) #[true, false, false, false, false, false, false, false, false, false, false, false, false, false, false, false, false, false, false, false, false, false, false, false, false, false, false, false, false, false] rfl rfl (by kernel_rfl) (fun _ _ _ h => h) (Or.inl ⟨by rfl, ?_⟩) ?_ ?_
        rotate_left
        · intro w'
          go_simp
          with_reducible rfl
        rotate_left
        · simp only [Act.put, List.setIfInBounds_toArray, List.set_cons_zero, List.set_cons_succ, i64_w, i32_w]
          rfl
        refine pure_ (i := 1) (N := some 44) (v := ?_) (a' := ?_) #[true, true, false, false, false, false, false, false, false, false, false, false, false, false, false, false, false, false, false, false, false, false, false, false, false, false, false, false, false, false] rfl rfl (by kernel_rfl) (fun _ _ _ h => h) (Or.inl ⟨by rfl, ?_⟩) ?_ ?_
        rotate_left
        · intro w'
          go_simp
          with_reducible rfl
        rotate_left
        · simp only [Act.put, List.setIfInBounds_toArray, List.set_cons_zero, List.set_cons_succ, i64_w, i32_w]
          rfl
        refine pure_ (i := 2) (N := some 45) (v := undef) (a' := ?_) #[true, true, true, false, false, false, false, false, false, false, false, false, false, false, false, false, false, false, false, false, false, false, false, false, false, false, false, false, false, false] rfl rfl (by kernel_rfl) (fun _ _ _ h => h) (Or.inr ⟨by rfl, rfl⟩) ?_ ?_
        rotate_left
        · simp only [Act.put, List.setIfInBounds_toArray, List.set_cons_zero, List.set_cons_succ, i64_w, i32_w]
          rfl
        refine pure_ (i := 3) (N := some 46) (v := undef) (a' := ?_) #[true, true, true, true, false, false, false, false, false, false, false, false, false, false, false, false, false, false, false, false, false, false, false, false, false, false, false, false, false, false] rfl rfl (by kernel_rfl) (fun _ _ _ h => h) (Or.inr ⟨by rfl, rfl⟩) ?_ ?_
        rotate_left
        · simp only [Act.put, List.setIfInBounds_toArray, List.set_cons_zero, List.set_cons_succ, i64_w, i32_w]
          rfl
        refine pure_ (i := 4) (N := some 47) (v := undef) (a' := ?_) #[true, true, true, true, true, false, false, false, false, false, false, false, false, false, false, false, false, false, false, false, false, false, false, false, false, false, false, false, false, false] rfl rfl (by kernel_rfl) (fun _ _ _ h => h) (Or.inr ⟨by rfl, rfl⟩) ?_ ?_
        rotate_left
        · simp only [Act.put, List.setIfInBounds_toArray, List.set_cons_zero, List.set_cons_succ, i64_w, i32_w]
          rfl
        refine pure_ (i := 5) (N := some 48) (v := undef) (a' := ?_) #[true, true, true, true, true, true, false, false, false, false, false, false, false, false, false, false, false, false, false, false, false, false, false, false, false, false, false, false, false, false] rfl rfl (by kernel_rfl) (fun _ _ _ h => h) (Or.inr ⟨by rfl, rfl⟩) ?_ ?_
        rotate_left
        · simp only [Act.put, List.setIfInBounds_toArray, List.set_cons_zero, List.set_cons_succ, i64_w, i32_w]
          rfl
        refine pure_ (i := 6) (N := some 49) (v := undef) (a' := ?_) #[true, true, true, true, true, true, true, false, false, false, false, false, false, false, false, false, false, false, false, false, false, false, false, false, false, false, false, false, false, false] rfl rfl (by kernel_rfl) (fun _ _ _ h => h) (Or.inr ⟨by rfl, rfl⟩) ?_ ?_
        rotate_left
        · simp only [Act.put, List.setIfInBounds_toArray, List.set_cons_zero, List.set_cons_succ, i64_w, i32_w]
          rfl
        refine pure_ (i := 7) (N := some 50) (v := ?_) (a' := ?_) #[true, true, true, true, true, true, true, true, false, false, false, false, false, false, false, false, false, false, false, false, false, false, false, false, false, false, false, false, false, false] rfl rfl (by kernel_rfl) (fun _ _ _ h => h) (Or.inl ⟨by rfl, ?_⟩) ?_ ?_
        rotate_left
        · intro w'
          go_simp
          with_reducible rfl
        rotate_left
        · simp only [Act.put, List.setIfInBounds_toArray, List.set_cons_zero, List.set_cons_succ, i64_w, i32_w]
          rfl
        refine pure_ (i := 8) (N := some 51) (v := ?_) (a' := ?_) #[true, true, true, true, true, true, true, true, true, false, false, false, false, false, false, false, false, false, false, false, false, false, false, false, false, false, false, false, false, false] rfl rfl (by kernel_rfl) (fun _ _ _ h => h) (Or.inl ⟨by rfl, ?_⟩) ?_ ?_
        rotate_left
        · intro w'
          go_simp
          with_reducible rfl
        rotate_left
        · simp only [Act.put, List.setIfInBounds_toArray, List.set_cons_zero, List.set_cons_succ, i64_w, i32_w]
          rfl
        refine pure_ (i := 9) (N := some 52) (v := undef) (a' := ?_) #[true, true, true, true, true, true, true, true, true, true, false, false, false, false, false, false, false, false, false, false, false, false, false, false, false, false, false, false, false, false] rfl rfl (by kernel_rfl) (fun _ _ _ h => h) (Or.inr ⟨by rfl, rfl⟩) ?_ ?_
        rotate_left
        · simp only [Act.put, List.setIfInBounds_toArray, List.set_cons_zero, List.set_cons_succ, i64_w, i32_w]
          rfl
        refine pure_ (i := 10) (N := some 53) (v := undef) (a' := ?_) #[true, true, true, true, true, true, true, true, true, true, true, false, false, false, false, false, false, false, false, false, false, false, false, false, false, false, false, false, false, false] rfl rfl (by kernel_rfl) (fun _ _ _ h => h) (Or.inr ⟨by rfl, rfl⟩) ?_ ?_
        rotate_left
        · simp only [Act.put, List.setIfInBounds_toArray, List.set_cons_zero, List.set_cons_succ, i64_w, i32_w]
          rfl
        refine pure_ (i := 11) (N := some 54) (v := undef) (a' := ?_) #[true, true, true, true, true, true, true, true, true, true, true, true, false, false, false, false, false, false, false, false, false, false, false, false, false, false, false, false, false, false] rfl rfl (by kernel_rfl) (fun _ _ _ h => h) (Or.inr ⟨by rfl, rfl⟩) ?_ ?_
        rotate_left
        · simp only [Act.put, List.setIfInBounds_toArray, List.set_cons_zero, List.set_cons_succ, i64_w, i32_w]
          rfl
        refine pure_ (i := 12) (N := some 55) (v := undef) (a' := ?_) #[true, true, true, true, true, true, true, true, true, true, true, true, true, false, false, false, false, false, false, false, false, false, false, false, false, false, false, false, false, false] rfl rfl (by kernel_rfl) (fun _ _ _ h => h) (Or.inr ⟨by rfl, rfl⟩) ?_ ?_
        rotate_left
        · simp only [Act.put, List.setIfInBounds_toArray, List.set_cons_zero, List.set_cons_succ, i64_w, i32_w]
          rfl
        refine pure_ (i := 13) (N := some 56) (v := undef) (a' := ?_) #[true, true, true, true, true, true, true, true, true, true, true, true, true, true, false, false, false, false, false, false, false, false, false, false, false, false, false, false, false, false] rfl rfl (by kernel_rfl) (fun _ _ _ h => h) (Or.inr ⟨by rfl, rfl⟩) ?_ ?_
        rotate_left
        · simp only [Act.put, List.setIfInBounds_toArray, List.set_cons_zero, List.set_cons_succ, i64_w, i32_w]
          rfl
        refine pure_ (i := 14) (N := some 57) (v := undef) (a' := ?_) #[true, true, true, true, true, true, true, true, true, true, true, true, true, true, true, false, false, false, false, false, false, false, false, false, false, false, false, false, false, false] rfl rfl (by kernel_rfl) (fun _ _ _ h => h) (Or.inr ⟨by rfl, rfl⟩) ?_ ?_
        rotate_left
        · simp only [Act.put, List.setIfInBounds_toArray, List.set_cons_zero, List.set_cons_succ, i64_w, i32_w]
          rfl
        refine pure_ (i := 15) (N := some 58) (v := undef) (a' := ?_) #[true, true, true, true, true, true, true, true, true, true, true, true, true, true, true, true, false, false, false, false, false, false, false, false, false, false, false, false, false, false] rfl rfl (by kernel_rfl) (fun _ _ _ h => h) (Or.inr ⟨by rfl, rfl⟩) ?_ ?_
        rotate_left
        · simp only [Act.put, List.setIfInBounds_toArray, List.set_cons_zero, List.set_cons_succ, i64_w, i32_w]
          rfl
        refine pure_ (i := 16) (N := some 59) (v := undef) (a' := ?_) #[true, true, true, true, true, true, true, true, true, true, true, true, true, true, true, true, true, false, false, false, false, false, false, false, false, false, false, false, false, false] rfl rfl (by kernel_rfl) (fun _ _ _ h => h) (Or.inr ⟨by rfl, rfl⟩) ?_ ?_
        rotate_left
        · simp only [Act.put, List.setIfInBounds_toArray, List.set_cons_zero, List.set_cons_succ, i64_w, i32_w]
          rfl
        refine pure_ (i := 17) (N := some 60) (v := undef) (a' := ?_) #[true, true, true, true, true, true, true, true, true, true, true, true, true, true, true, true, true, true, false, false, false, false, false, false, false, false, false, false, false, false] rfl rfl (by kernel_rfl) (fun _ _ _ h => h) (Or.inr ⟨by rfl, rfl⟩) ?_ ?_
        rotate_left
        · simp only [Act.put, List.setIfInBounds_toArray, List.set_cons_zero, List.set_cons_succ, i64_w, i32_w]
          rfl
        refine pure_ (i := 18) (N := some 61) (v := ?_) (a' := ?_) #[true, true, true, true, true, true, true, true, true, true, true, true, true, true, true, true, true, true, true, false, false, false, false, false, false, false, false, false, false, false] rfl rfl (by kernel_rfl) (fun _ _ _ h => h) (Or.inl ⟨by rfl, ?_⟩) ?_ ?_
        rotate_left
        · intro w'
          go_simp
          with_reducible rfl
        rotate_left
        · simp only [Act.put, List.setIfInBounds_toArray, List.set_cons_zero, List.set_cons_succ, i64_w, i32_w]
          rfl
        refine pure_ (i := 19) (N := some 62) (v := ?_) (a' := ?_) #[true, true, true, true, true, true, true, true, true, true, true, true, true, true, true, true, true, true, true, true, false, false, false, false, false, false, false, false, false, false] rfl rfl (by kernel_rfl) (fun _ _ _ h => h) (Or.inl ⟨by rfl, ?_⟩) ?_ ?_
        rotate_left
        · intro w'
          go_simp
          with_reducible rfl
        rotate_left
        · simp only [Act.put, List.setIfInBounds_toArray, List.set_cons_zero, List.set_cons_succ, i64_w, i32_w]
          rfl
        refine pure_ (i := 20) (N := some 63) (v := undef) (a' := ?_) #[true, true, true, true, true, true, true, true, true, true, true, true, true, true, true, true, true, true, true, true, true, false, false, false, false, false, false, false, false, false] rfl rfl (by kernel_rfl) (fun _ _ _ h => h) (Or.inr ⟨by rfl, rfl⟩) ?_ ?_
        rotate_left
        · simp only [Act.put, List.setIfInBounds_toArray, List.set_cons_zero, List.set_cons_succ, i64_w, i32_w]
          rfl
        refine pure_ (i := 21) (N := some 64) (v := undef) (a' := ?_) #[true, true, true, true, true, true, true, true, true, true, true, true, true, true, true, true, true, true, true, true, true, true, false, false, false, false, false, false, false, false] rfl rfl (by kernel_rfl) (fun _ _ _ h => h) (Or.inr ⟨by rfl, rfl⟩) ?_ ?_
        rotate_left
        · simp only [Act.put, List.setIfInBounds_toArray, List.set_cons_zero, List.set_cons_succ, i64_w, i32_w]
          rfl
        refine pure_ (i := 22) (N := some 65) (v := undef) (a' := ?_) #[true, true, true, true, true, true, true, true, true, true, true, true, true, true, true, true, true, true, true, true, true, true, true, false, false, false, false, false, false, false] rfl rfl (by kernel_rfl) (fun _ _ _ h => h) (Or.inr ⟨by rfl, rfl⟩) ?_ ?_
        rotate_left
        · simp only [Act.put, List.setIfInBounds_toArray, List.set_cons_zero, List.set_cons_succ, i64_w, i32_w]
          rfl
        refine pure_ (i := 23) (N := some 66) (v := undef) (a' := ?_) #[true, true, true, true, true, true, true, true, true, true, true, true, true, true, true, true, true, true, true, true, true, true, true, true, false, false, false, false, false, false] rfl rfl (by kernel_rfl) (fun _ _ _ h => h) (Or.inr ⟨by rfl, rfl⟩) ?_ ?_
        rotate_left
        · simp only [Act.put, List.setIfInBounds_toArray, List.set_cons_zero, List.set_cons_succ, i64_w, i32_w]
          rfl
        refine pure_ (i := 24) (N := some 67) (v := undef) (a' := ?_) #[true, true, true, true, true, true, true, true, true, true, true, true, true, true, true, true, true, true, true, true, true, true, true, true, true, false, false, false, false, false] rfl rfl (by kernel_rfl) (fun _ _ _ h => h) (Or.inr ⟨by rfl, rfl⟩) ?_ ?_
        rotate_left
        · simp only [Act.put, List.setIfInBounds_toArray, List.set_cons_zero, List.set_cons_succ, i64_w, i32_w]
          rfl
        refine pure_ (i := 25) (N := some 68) (v := undef) (a' := ?_) #[true, true, true, true, true, true, true, true, true, true, true, true, true, true, true, true, true, true, true, true, true, true, true, true, true, true, false, false, false, false] rfl rfl (by kernel_rfl) (fun _ _ _ h => h) (Or.inr ⟨by rfl, rfl⟩) ?_ ?_
        rotate_left
        · simp only [Act.put, List.setIfInBounds_toArray, List.set_cons_zero, List.set_cons_succ, i64_w, i32_w]
          rfl
        refine pure_ (i := 26) (N := some 69) (v := undef) (a' := ?_) #[true, true, true, true, true, true, true, true, true, true, true, true, true, true, true, true, true, true, true, true, true, true, true, true, true, true, true, false, false, false] rfl rfl (by kernel_rfl) (fun _ _ _ h => h) (Or.inr ⟨by rfl, rfl⟩) ?_ ?_
        rotate_left
        · simp only [Act.put, List.setIfInBounds_toArray, List.set_cons_zero, List.set_cons_succ, i64_w, i32_w]
          rfl
        refine pure_ (i := 27) (N := some 70) (v := undef) (a' := ?_) #[true, true, true, true, true, true, true, true, true, true, true, true, true, true, true, true, true, true, true, true, true, true, true, true, true, true, true, true, false, false] rfl rfl (by kernel_rfl) (fun _ _ _ h => h) (Or.inr ⟨by rfl, rfl⟩) ?_ ?_
        rotate_left
        · simp only [Act.put, List.setIfInBounds_toArray, List.set_cons_zero, List.set_cons_succ, i64_w, i32_w]
          rfl
        refine pure_ (i := 28) (N := some 71) (v := ?_) (a' := ?_) #[true, true, true, true, true, true, true, true, true, true, true, true, true, true, true, true, true, true, true, true, true, true, true, true, true, true, true, true, true, false] rfl rfl (by kernel_rfl) (fun _ _ _ h => h) (Or.inl ⟨by rfl, ?_⟩) ?_ ?_
        rotate_left
        · intro w'
          go_simp
          with_reducible rfl
        rotate_left
        · simp only [Act.put, List.setIfInBounds_toArray, List.set_cons_zero, List.set_cons_succ, i64_w, i32_w]
          rfl
        refine pure_ (i := 29) (N := some 5) (v := ?_) (a' := ?_) #[true, true, true, true, true, true, true, true, true, true, true, true, true, true, true, true, true, true, true, true, true, true, true, true, true, true, true, true, true, true] rfl rfl (by kernel_rfl) (fun _ _ _ h => h) (Or.inl ⟨by rfl, ?_⟩) ?_ ?_
        rotate_left
        · intro w'
          go_simp
          with_reducible rfl
        rotate_left
        · simp only [Act.put, List.setIfInBounds_toArray, List.set_cons_zero, List.set_cons_succ, i64_w, i32_w]
          rfl
        refine done_ (by kernel_rfl) ?_
        go_wp2_with fail
        go_roundg (gk - 1)
        case measure => have := HR.out.2; omega
        case rel =>
          have hw : wrap64 ((j : Int) + 1) = ((j + 1 : Nat) : Int) := by have := HF.out; have := HR.out.2; unfold wrap64; omega
          try rw [hw]
          exact ⟨j + 1, rfl, by have := HR.out.2; omega, SPN.first hHeld.2.2.2.2.2.2.2.2.2.2.2.2.2.2.2.2.2.2.2.2.2.2.2.2, by rw [HQ.out]⟩
      | true =>
        rcases Classical.em (key ∈ a.f4) with hin | hin
        · have hin2 := hin
          have HH : Hid (∀ w1, Below w.heap.size w w1 → Calls Tryz.prog 24 #[.agg #[.int .i64 a.f0, .int .i64 a.f1, .string a.f2, .slice A3a a.f3.length a3a, .slice A4a a.f4.length a4a, .slice A5a a.f5.length a5a], .agg #[.int .i64 4, .int .i64 0, .string key, .slice none 0 0, .slice none 0 0, .slice none 0 0]] w1 fun e w' => e = .returned (resB true) ∧ Below w1.heap.size w1 w') := Lib.hid (fun w1 hb => by
            have h := has_vals w HWA.out HS.out.1.1 KA.out key HKZ.out HT.out w1 hb
            rw [inK_pos hin] at h
            exact h)
          have HXS : Hid (WL x ∧ Sz x ∧ Tz x) := Lib.hid (by
            obtain ⟨i, _, h5⟩ := get_in HWA.out hin2
            have hm := List.mem_of_getElem? h5
            rw [HX.out]
            obtain ⟨_, _, _, _, _, _, _, w5⟩ := HWA.out
            obtain ⟨_, _, _, _, z5⟩ := HS.out.1.1
            obtain ⟨_, _, _, t5⟩ := HS.out.1.2
            exact ⟨w5 _ hm, z5 _ hm, t5 _ hm⟩)
          have HCK : Hid (conK a.f4 a.f5 key y = (con x y == some true)) := Lib.hid (by rw [HX.out]; exact conK_get HWA.out hin2 y)
          clear hin hin2
          cases hkk : (x.f0 == y.f0) with
          | false =>
            have HQ : Hid ((((b.f4.zip b.f5).take (j + 1)).all fun p => conK a.f4 a.f5 p.1 p.2) = false) := Lib.hid (by rw [HJ.out, HCK.out, con_other2 (by simpa using hkk)]; rfl)
            refine start_ (n := 30) (S := fun w' => w'.cell? ⟨A, 0, none⟩ = some (.int .i64 a.f0) ∧ w'.cell? ⟨A, 1, none⟩ = some (.int .i64 a.f1) ∧ w'.cell? ⟨A, 2, none⟩ = some (.string a.f2) ∧ w'.cell? ⟨A, 3, none⟩ = some (.slice A3a a.f3.length a3a) ∧ w'.cell? ⟨A, 4, none⟩ = some (.slice A4a a.f4.length a4a) ∧ w'.cell? ⟨A, 5, none⟩ = some (.slice A5a a.f5.length a5a) ∧ w'.cell? ⟨B, 0, none⟩ = some (.int .i64 b.f0) ∧ w'.cell? ⟨B, 1, none⟩ = some (.int .i64 b.f1) ∧ w'.cell? ⟨B, 2, none⟩ = some (.string b.f2) ∧ w'.cell? ⟨B, 3, none⟩ = some (.slice A3b b.f3.length a3b) ∧ w'.cell? ⟨B, 4, none⟩ = some (.slice (some ak) b.f4.length a4b) ∧ w'.cell? ⟨B, 5, none⟩ = some (.slice (some ad) b.f5.length a5b) ∧ w'.cell? ⟨X, 0, none⟩ = some (.int .i64 x.f0) ∧ w'.cell? ⟨X, 1, none⟩ = some (.int .i64 x.f1) ∧ w'.cell? ⟨X, 2, none⟩ = some (.string x.f2) ∧ w'.cell? ⟨X, 3, none⟩ = some (.slice B3 x.f3.length d3) ∧ w'.cell? ⟨X, 4, none⟩ = some (.slice B4 x.f4.length d4) ∧ w'.cell? ⟨X, 5, none⟩ = some (.slice B5 x.f5.length d5) ∧ w'.cell? (ad.add (j * 6)) = some (.int .i64 y.f0) ∧ w'.cell? ⟨(ad.add (j * 6)).block, (ad.add (j * 6)).off + 1, none⟩ = some (.int .i64 y.f1) ∧ w'.cell? ⟨(ad.add (j * 6)).block, (ad.add (j * 6)).off + 2, none⟩ = some (.string y.f2) ∧ w'.cell? ⟨(ad.add (j * 6)).block, (ad.add (j * 6)).off + 3, none⟩ = some (.slice C3 y.f3.length e3) ∧ w'.cell? ⟨(ad.add (j * 6)).block, (ad.add (j * 6)).off + 4, none⟩ = some (.slice C4 y.f4.length e4) ∧ w'.cell? ⟨(ad.add (j * 6)).block, (ad.add (j * 6)).off + 5, none⟩ = some (.slice C5 y.f5.length e5) ∧ SPN w [(A, #[.int .i64 a.f0, .int .i64 a.f1, .string a.f2, .slice A3a a.f3.length a3a, .slice A4a a.f4.length a4a, .slice A5a a.f5.length a5a], 26), (B, #[.int .i64 b.f0, .int .i64 b.f1, .string b.f2, .slice A3b b.f3.length a3b, .slice (some ak) b.f4.length a4b, .slice (some ad) b.f5.length a5b], 26), (X, #[.int .i64 x.f0, .int .i64 x.f1, .string x.f2, .slice B3 x.f3.length d3, .slice B4 x.f4.length d4, .slice B5 x.f5.length d5], 26)] w') (ds := []) #[false, false, false, false, false, false, false, false, false, false, false, false, false, false, false, false, false, false, false, false, false, false, false, false, false, false, false, false, false, false] (by kernel_rfl) rfl rfl ⟨((six_cells (((SPN.drew HP.out).1).get 0 rfl)).1), ((six_cells (((SPN.drew HP.out).1).get 0 rfl)).2.1), ((six_cells (((SPN.drew HP.out).1).get 0 rfl)).2.2.1), ((six_cells (((SPN.drew HP.out).1).get 0 rfl)).2.2.2.1), ((six_cells (((SPN.drew HP.out).1).get 0 rfl)).2.2.2.2.1), ((six_cells (((SPN.drew HP.out).1).get 0 rfl)).2.2.2.2.2.1), ((six_cells (((SPN.drew HP.out).1).get 1 rfl)).1), ((six_cells (((SPN.drew HP.out).1).get 1 rfl)).2.1), ((six_cells (((SPN.drew HP.out).1).get 1 rfl)).2.2.1), ((six_cells (((SPN.drew HP.out).1).get 1 rfl)).2.2.2.1), ((six_cells (((SPN.drew HP.out).1).get 1 rfl)).2.2.2.2.1), ((six_cells (((SPN.drew HP.out).1).get 1 rfl)).2.2.2.2.2.1), ((six_cells (((SPN.drew HP.out).1).get 2 rfl)).1), ((six_cells (((SPN.drew HP.out).1).get 2 rfl)).2.1), ((six_cells (((SPN.drew HP.out).1).get 2 rfl)).2.2.1), ((six_cells (((SPN.drew HP.out).1).get 2 rfl)).2.2.2.1), ((six_cells (((SPN.drew HP.out).1).get 2 rfl)).2.2.2.2.1), ((six_cells (((SPN.drew HP.out).1).get 2 rfl)).2.2.2.2.2.1), (pw_cell_below (SPN.bel (SPN.drew HP.out)) HY.out.1), (pw_cell_below (SPN.bel (SPN.drew HP.out)) HY.out.2.1), (pw_cell_below (SPN.bel (SPN.drew HP.out)) HY.out.2.2.1), (pw_cell_below (SPN.bel (SPN.drew HP.out)) HY.out.2.2.2.1), (pw_cell_below (SPN.bel (SPN.drew HP.out)) HY.out.2.2.2.2.1), (pw_cell_below (SPN.bel (SPN.drew HP.out)) HY.out.2.2.2.2.2.1), (SPN.drew HP.out)⟩ (fun hHeld => ?_)
            refine pure_ (i := 0) (N := some 43) (v := ?_) (a' := ?_) #[true, false, false, false, false, false, false, false, false, false, false, false, false, false, false, false, false, false, false, false, false, false, false, false, false, false, false, false, false, false] rfl rfl (by kernel_rfl) (fun _ _ _ h => h) (Or.inl ⟨by rfl, ?_⟩) ?_ ?_
            rotate_left
            · intro w'
              go_simp
              with_reducible rfl
            rotate_left
            · simp only [Act.put, List.setIfInBounds_toArray, List.set_cons_zero, List.set_cons_succ, i64_w, i32_w]
              rfl
            refine pure_ (i := 1) (N := some 44) (v := ?_) (a' := ?_) #[true, true, false, false, false, false, false, false, false, false, false, false, false, false, false, false, false, false, false, false, false, false, false, false, false, false, false, false, false, false] rfl rfl (by kernel_rfl) (fun _ _ _ h => h) (Or.inl ⟨by rfl, ?_⟩) ?_ ?_
            rotate_left
            · intro w'
              go_simp
              with_reducible rfl
            rotate_left
            · simp only [Act.put, List.setIfInBounds_toArray, List.set_cons_zero, List.set_cons_succ, i64_w, i32_w]
              rfl
            refine pure_ (i := 3) (N := some 46) (v := ?_) (a' := ?_) #[true, true, false, true, false, false, false, false, false, false, false, false, false, false, false, false, false, false, false, false, false, false, false, false, false, false, false, false, false, false] rfl rfl (by kernel_rfl) (fun _ _ _ h => h) (Or.inl ⟨by rfl, ?_⟩) ?_ ?_
            rotate_left
            · intro w'
              go_simp
              with_reducible rfl
            rotate_left
            · simp only [Act.put, List.setIfInBounds_toArray, List.set_cons_zero, List.set_cons_succ, i64_w, i32_w]
              rfl
            refine pure_ (i := 4) (N := some 47) (v := ?_) (a' := ?_) #[true, true, false, true, true, false, false, false, false, false, false, false, false, false, false, false, false, false, false, false, false, false, false, false, false, false, false, false, false, false] rfl rfl (by kernel_rfl) (fun _ _ _ h => h) (Or.inl ⟨by rfl, ?_⟩) ?_ ?_
            rotate_left
            · intro w'
              go_simp
              with_reducible rfl
            rotate_left
            · simp only [Act.put, List.setIfInBounds_toArray, List.set_cons_zero, List.set_cons_succ, i64_w, i32_w]
              rfl
            refine take_ (i := 2) (N := some 45) (v := ?_) (a' := ?_) #[true, true, true, true, true, false, false, false, false, false, false, false, false, false, false, false, false, false, false, false, false, false, false, false, false, false, false, false, false, false] rfl rfl (by kernel_rfl) (fun _ _ _ h => h) (Or.inl ⟨by rfl, ?_⟩) hHeld ?_ ?_
            rotate_left
            · rintro w' ⟨s0, s1, s2, s3, s4, s5, s6, s7, s8, s9, s10, s11, s12, s13, s14, s15, s16, s17, s18, s19, s20, s21, s22, s23, s24⟩
              go_simp
              with_reducible rfl
            rotate_left
            · simp only [Act.put, List.setIfInBounds_toArray, List.set_cons_zero, List.set_cons_succ, i64_w, i32_w]
              rfl
            refine one_ (i := 5) (N := some 48) #[true, true, true, true, true, true, false, false, false, false, false, false, false, false, false, false, false, false, false, false, false, false, false, false, false, false, false, false, false, false] rfl rfl (by kernel_rfl) (by decide) (fun K hK => ?_)
            refine goes_ Tryz.func24 (by kernel_rfl) rfl #[.agg #[.int .i64 a.f0, .int .i64 a.f1, .string a.f2, .slice A3a a.f3.length a3a, .slice A4a a.f4.length a4a, .slice A5a a.f5.length a5a], .agg #[.int .i64 4, .int .i64 0, .string key, .slice none 0 0, .slice none 0 0, .slice none 0 0]] (by rfl) rfl rfl (by simp only [List.map_toArray, List.map_cons, List.map_nil]; rfl) ?_
            with_reducible refine ((HH.out _ (SPN.bel hHeld.2.2.2.2.2.2.2.2.2.2.2.2.2.2.2.2.2.2.2.2.2.2.2.2))).mono ?_
            rintro e wy5 ⟨rfl, hb5⟩
            refine ⟨_, rfl, ?_⟩
            have hz5 := SPN.below hHeld.2.2.2.2.2.2.2.2.2.2.2.2.2.2.2.2.2.2.2.2.2.2.2.2 hb5
            refine hK.out _ _ ⟨((six_cells ((hz5.1).get 0 rfl)).1), ((six_cells ((hz5.1).get 0 rfl)).2.1), ((six_cells ((hz5.1).get 0 rfl)).2.2.1), ((six_cells ((hz5.1).get 0 rfl)).2.2.2.1), ((six_cells ((hz5.1).get 0 rfl)).2.2.2.2.1), ((six_cells ((hz5.1).get 0 rfl)).2.2.2.2.2.1), ((six_cells ((hz5.1).get 1 rfl)).1), ((six_cells ((hz5.1).get 1 rfl)).2.1), ((six_cells ((hz5.1).get 1 rfl)).2.2.1), ((six_cells ((hz5.1).get 1 rfl)).2.2.2.1), ((six_cells ((hz5.1).get 1 rfl)).2.2.2.2.1), ((six_cells ((hz5.1).get 1 rfl)).2.2.2.2.2.1), ((six_cells ((hz5.1).get 2 rfl)).1), ((six_cells ((hz5.1).get 2 rfl)).2.1), ((six_cells ((hz5.1).get 2 rfl)).2.2.1), ((six_cells ((hz5.1).get 2 rfl)).2.2.2.1), ((six_cells ((hz5.1).get 2 rfl)).2.2.2.2.1), ((six_cells ((hz5.1).get 2 rfl)).2.2.2.2.2.1), (pw_cell_below (SPN.bel hz5) HY.out.1), (pw_cell_below (SPN.bel hz5) HY.out.2.1), (pw_cell_below (SPN.bel hz5) HY.out.2.2.1), (pw_cell_below (SPN.bel hz5) HY.out.2.2.2.1), (pw_cell_below (SPN.bel hz5) HY.out.2.2.2.2.1), (pw_cell_below (SPN.bel hz5) HY.out.2.2.2.2.2.1), hz5⟩ (fun hHeld => ?_)
            clear hK K
            refine norm_ (a' := ?_) ?_ ?_
            rotate_left
            · show Act.put _ (some 48) _ = _
              simp only [Act.put, List.setIfInBounds_toArray, List.set_cons_zero, List.set_cons_succ, i64_w, i32_w]
              rfl
            refine one_ (i := 6) (N := some 49) #[true, true, true, true, true, true, true, false, false, false, false, false, false, false, false, false, false, false, false, false, false, false, false, false, false, false, false, false, false, false] rfl rfl (by kernel_rfl) (by decide) (fun K hK => ?_)
            refine goes_ Tryz.func19 (by kernel_rfl) rfl #[resB true] (by rfl) rfl rfl (by simp only [List.map_toArray, List.map_cons, List.map_nil]; rfl) ?_
            with_reducible refine ((lc_yes true _)).mono ?_
            rintro e wy6 ⟨rfl, hb6⟩
            refine ⟨_, rfl, ?_⟩
            have hz6 := SPN.below hz5 hb6
            refine hK.out _ _ ⟨((six_cells ((hz6.1).get 0 rfl)).1), ((six_cells ((hz6.1).get 0 rfl)).2.1), ((six_cells ((hz6.1).get 0 rfl)).2.2.1), ((six_cells ((hz6.1).get 0 rfl)).2.2.2.1), ((six_cells ((hz6.1).get 0 rfl)).2.2.2.2.1), ((six_cells ((hz6.1).get 0 rfl)).2.2.2.2.2.1), ((six_cells ((hz6.1).get 1 rfl)).1), ((six_cells ((hz6.1).get 1 rfl)).2.1), ((six_cells ((hz6.1).get 1 rfl)).2.2.1), ((six_cells ((hz6.1).get 1 rfl)).2.2.2.1), ((six_cells ((hz6.1).get 1 rfl)).2.2.2.2.1), ((six_cells ((hz6.1).get 1 rfl)).2.2.2.2.2.1), ((six_cells ((hz6.1).get 2 rfl)).1), ((six_cells ((hz6.1).get 2 rfl)).2.1), ((six_cells ((hz6.1).get 2 rfl)).2.2.1), ((six_cells ((hz6.1).get 2 rfl)).2.2.2.1), ((six_cells ((hz6.1).get 2 rfl)).2.2.2.2.1), ((six_cells ((hz6.1).get 2 rfl)).2.2.2.2.2.1), (pw_cell_below (SPN.bel hz6) HY.out.1), (pw_cell_below (SPN.bel hz6) HY.out.2.1), (pw_cell_below (SPN.bel hz6) HY.out.2.2.1), (pw_cell_below (SPN.bel hz6) HY.out.2.2.2.1), (pw_cell_below (SPN.bel hz6) HY.out.2.2.2.2.1), (pw_cell_below (SPN.bel hz6) HY.out.2.2.2.2.2.1), hz6⟩ (fun hHeld => ?_)
            clear hK K
            refine norm_ (a' := ?_) ?_ ?_
            rotate_left
            · show Act.put _ (some 49) _ = _
              simp only [Act.put, List.setIfInBounds_toArray, List.set_cons_zero, List.set_cons_succ, i64_w, i32_w]
              rfl
            refine pure_ (i := 7) (N := some 50) (v := ?_) (a' := ?_) #[true, true, true, true, true, true, true, true, false, false, false, false, false, false, false, false, false, false, false, false, false, false, false, false, false, false, false, false, false, false] rfl rfl (by kernel_rfl) (fun _ _ _ h => h) (Or.inl ⟨by rfl, ?_⟩) ?_ ?_
            rotate_left
            · intro w'
              go_simp
              with_reducible rfl
            rotate_left
            · simp only [Act.put, List.setIfInBounds_toArray, List.set_cons_zero, List.set_cons_succ, i64_w, i32_w]
              rfl
            refine pure_ (i := 8) (N := some 51) (v := ?_) (a' := ?_) #[true, true, true, true, true, true, true, true, true, false, false, false, false, false, false, false, false, false, false, false, false, false, false, false, false, false, false, false, false, false] rfl rfl (by kernel_rfl) (fun _ _ _ h => h) (Or.inl ⟨by rfl, ?_⟩) ?_ ?_
            rotate_left
            · intro w'
              go_simp
              with_reducible rfl
            rotate_left
            · simp only [Act.put, List.setIfInBounds_toArray, List.set_cons_zero, List.set_cons_succ, i64_w, i32_w]
              rfl
            refine pure_ (i := 9) (N := some 52) (v := ?_) (a' := ?_) #[true, true, true, true, true, true, true, true, true, true, false, false, false, false, false, false, false, false, false, false, false, false, false, false, false, false, false, false, false, false] rfl rfl (by kernel_rfl) (fun _ _ _ h => h) (Or.inl ⟨by rfl, ?_⟩) ?_ ?_
            rotate_left
            · intro w'
              go_simp
              with_reducible rfl
            rotate_left
            · simp only [Act.put, List.setIfInBounds_toArray, List.set_cons_zero, List.set_cons_succ, i64_w, i32_w]
              rfl
            refine pure_ (i := 11) (N := some 54) (v := ?_) (a' := ?_) #[true, true, true, true, true, true, true, true, true, true, false, true, false, false, false, false, false, false, false, false, false, false, false, false, false, false, false, false, false, false] rfl rfl (by kernel_rfl) (fun _ _ _ h => h) (Or.inl ⟨by rfl, ?_⟩) ?_ ?_
            rotate_left
            · intro w'
              go_simp
              with_reducible rfl
            rotate_left
            · simp only [Act.put, List.setIfInBounds_toArray, List.set_cons_zero, List.set_cons_succ, i64_w, i32_w]
              rfl
            refine pure_ (i := 13) (N := some 56) (v := ?_) (a' := ?_) #[true, true, true, true, true, true, true, true, true, true, false, true, false, true, false, false, false, false, false, false, false, false, false, false, false, false, false, false, false, false] rfl rfl (by kernel_rfl) (fun _ _ _ h => h) (Or.inl ⟨by rfl, ?_⟩) ?_ ?_
            rotate_left
            · intro w'
              go_simp
              with_reducible rfl
            rotate_left
            · simp only [Act.put, List.setIfInBounds_toArray, List.set_cons_zero, List.set_cons_succ, i64_w, i32_w]
              rfl
            refine take_ (i := 10) (N := some 53) (v := ?_) (a' := ?_) #[true, true, true, true, true, true, true, true, true, true, true, true, false, true, false, false, false, false, false, false, false, false, false, false, false, false, false, false, false, false] rfl rfl (by kernel_rfl) (fun _ _ _ h => h) (Or.inl ⟨by rfl, ?_⟩) hHeld ?_ ?_
            rotate_left
            · rintro w' ⟨s0, s1, s2, s3, s4, s5, s6, s7, s8, s9, s10, s11, s12, s13, s14, s15, s16, s17, s18, s19, s20, s21, s22, s23, s24⟩
              go_simp
              with_reducible rfl
            rotate_left
            · simp only [Act.put, List.setIfInBounds_toArray, List.set_cons_zero, List.set_cons_succ, i64_w, i32_w]
              rfl
            refine take_ (i := 12) (N := some 55) (v := ?_) (a' := ?_) #[true, true, true, true, true, true, true, true, true, true, true, true, true, true, false, false, false, false, false, false, false, false, false, false, false, false, false, false, false, false] rfl rfl (by kernel_rfl) (fun _ _ _ h => h) (Or.inl ⟨by rfl, ?_⟩) hHeld ?_ ?_
            rotate_left
            · rintro w' ⟨s0, s1, s2, s3, s4, s5, s6, s7, s8, s9, s10, s11, s12, s13, s14, s15, s16, s17, s18, s19, s20, s21, s22, s23, s24⟩
              go_simp
              with_reducible rfl
            rotate_left
            · simp only [Act.put, List.setIfInBounds_toArray, List.set_cons_zero, List.set_cons_succ, i64_w, i32_w]
              rfl
            refine pure_ (i := 14) (N := some 57) (v := ?_) (a' := ?_) #[true, true, true, true, true, true, true, true, true, true, true, true, true, true, true, false, false, false, false, false, false, false, false, false, false, false, false, false, false, false] rfl rfl (by kernel_rfl) (fun _ _ _ h => h) (Or.inl ⟨by rfl, ?_⟩) ?_ ?_
            rotate_left
            · intro w'
              go_simp
              with_reducible rfl
            rotate_left
            · simp only [Act.put, List.setIfInBounds_toArray, List.set_cons_zero, List.set_cons_succ, i64_w, i32_w]
              rfl
            refine pure_ (i := 15) (N := some 58) (v := ?_) (a' := ?_) #[true, true, true, true, true, true, true, true, true, true, true, true, true, true, true, true, false, false, false, false, false, false, false, false, false, false, false, false, false, false] rfl rfl (by kernel_rfl) (fun _ _ _ h => h) (Or.inl ⟨by rfl, ?_⟩) ?_ ?_
            rotate_left
            · intro w'
              go_simp
              with_reducible rfl
            rotate_left
            · simp only [Act.put, List.setIfInBounds_toArray, List.set_cons_zero, List.set_cons_succ, i64_w, i32_w]
              rfl
            refine take_ (i := 16) (N := some 59) (v := ?_) (a' := ?_) #[true, true, true, true, true, true, true, true, true, true, true, true, true, true, true, true, true, false, false, false, false, false, false, false, false, false, false, false, false, false] rfl rfl (by kernel_rfl) (fun _ _ _ h => h) (Or.inl ⟨by rfl, ?_⟩) hHeld ?_ ?_
            rotate_left
            · rintro w' ⟨s0, s1, s2, s3, s4, s5, s6, s7, s8, s9, s10, s11, s12, s13, s14, s15, s16, s17, s18, s19, s20, s21, s22, s23, s24⟩
              go_simp
              with_reducible rfl
            rotate_left
            · simp only [Act.put, List.setIfInBounds_toArray, List.set_cons_zero, List.set_cons_succ, i64_w, i32_w]
              rfl
            refine pure_ (i := 17) (N := some 60) (v := ?_) (a' := ?_) #[true, true, true, true, true, true, true, true, true, true, true, true, true, true, true, true, true, true, false, false, false, false, false, false, false, false, false, false, false, false] rfl rfl (by kernel_rfl) (fun _ _ _ h => h) (Or.inl ⟨by rfl, ?_⟩) ?_ ?_
            rotate_left
            · intro w'
              go_simp
              with_reducible rfl
            rotate_left
            · simp only [Act.put, List.setIfInBounds_toArray, List.set_cons_zero, List.set_cons_succ, i64_w, i32_w]
              rfl
            refine pure_ (i := 18) (N := some 61) (v := ?_) (a' := ?_) #[true, true, true, true, true, true, true, true, true, true, true, true, true, true, true, true, true, true, true, false, false, false, false, false, false, false, false, false, false, false] rfl rfl (by kernel_rfl) (fun _ _ _ h => h) (Or.inl ⟨by rfl, ?_⟩) ?_ ?_
            rotate_left
            · intro w'
              go_simp
              with_reducible rfl
            rotate_left
            · simp only [Act.put, List.setIfInBounds_toArray, List.set_cons_zero, List.set_cons_succ, i64_w, i32_w]
              rfl
            refine pure_ (i := 19) (N := some 62) (v := ?_) (a' := ?_) #[true, true, true, true, true, true, true, true, true, true, true, true, true, true, true, true, true, true, true, true, false, false, false, false, false, false, false, false, false, false] rfl rfl (by kernel_rfl) (fun _ _ _ h => h) (Or.inl ⟨by rfl, ?_⟩) ?_ ?_
            rotate_left
            · intro w'
              go_simp
              with_reducible rfl
            rotate_left
            · simp only [Act.put, List.setIfInBounds_toArray, List.set_cons_zero, List.set_cons_succ, i64_w, i32_w]
              rfl
            refine pure_ (i := 20) (N := some 63) (v := undef) (a' := ?_) #[true, true, true, true, true, true, true, true, true, true, true, true, true, true, true, true, true, true, true, true, true, false, false, false, false, false, false, false, false, false] rfl rfl (by kernel_rfl) (fun _ _ _ h => h) (Or.inr ⟨by rfl, rfl⟩) ?_ ?_
            rotate_left
            · simp only [Act.put, List.setIfInBounds_toArray, List.set_cons_zero, List.set_cons_succ, i64_w, i32_w]
              rfl
            refine pure_ (i := 21) (N := some 64) (v := undef) (a' := ?_) #[true, true, true, true, true, true, true, true, true, true, true, true, true, true, true, true, true, true, true, true, true, true, false, false, false, false, false, false, false, false] rfl rfl (by kernel_rfl) (fun _ _ _ h => h) (Or.inr ⟨by rfl, rfl⟩) ?_ ?_
            rotate_left
            · simp only [Act.put, List.setIfInBounds_toArray, List.set_cons_zero, List.set_cons_succ, i64_w, i32_w]
              rfl
            refine pure_ (i := 22) (N := some 65) (v := undef) (a' := ?_) #[true, true, true, true, true, true, true, true, true, true, true, true, true, true, true, true, true, true, true, true, true, true, true, false, false, false, false, false, false, false] rfl rfl (by kernel_rfl) (fun _ _ _ h => h) (Or.inr ⟨by rfl, rfl⟩) ?_ ?_
            rotate_left
            · simp only [Act.put, List.setIfInBounds_toArray, List.set_cons_zero, List.set_cons_succ, i64_w, i32_w]
              rfl
            refine pure_ (i := 23) (N := some 66) (v := undef) (a' := ?_) #[true, true, true, true, true, true, true, true, true, true, true, true, true, true, true, true, true, true, true, true, true, true, true, true, false, false, false, false, false, false] rfl rfl (by kernel_rfl) (fun _ _ _ h => h) (Or.inr ⟨by rfl, rfl⟩) ?_ ?_
            rotate_left
            · simp only [Act.put, List.setIfInBounds_toArray, List.set_cons_zero, List.set_cons_succ, i64_w, i32_w]
              rfl
            refine pure_ (i := 24) (N := some 67) (v := undef) (a' := ?_) #[true, true, true, true, true, true, true, true, true, true, true, true, true, true, true, true, true, true, true, true, true, true, true, true, true, false, false, false, false, false] rfl rfl (by kernel_rfl) (fun _ _ _ h => h) (Or.inr ⟨by rfl, rfl⟩) ?_ ?_
            rotate_left
            · simp only [Act.put, List.setIfInBounds_toArray, List.set_cons_zero, List.set_cons_succ, i64_w, i32_w]
              rfl
            refine pure_ (i := 25) (N := some 68) (v := undef) (a' := ?_) #[true, true, true, true, true, true, true, true, true, true, true, true, true, true, true, true, true, true, true, true, true, true, true, true, true, true, false, false, false, false] rfl rfl (by kernel_rfl) (fun _ _ _ h => h) (Or.inr ⟨by rfl, rfl⟩) ?_ ?_
            rotate_left
            · simp only [Act.put, List.setIfInBounds_toArray, List.set_cons_zero, List.set_cons_succ, i64_w, i32_w]
              rfl
            refine pure_ (i := 26) (N := some 69) (v := undef) (a' := ?_) #[true, true, true, true, true, true, true, true, true, true, true, true, true, true, true, true, true, true, true, true, true, true, true, true, true, true, true, false, false, false] rfl rfl (by kernel_rfl) (fun _ _ _ h => h) (Or.inr ⟨by rfl, rfl⟩) ?_ ?_
            rotate_left
            · simp only [Act.put, List.setIfInBounds_toArray, List.set_cons_zero, List.set_cons_succ, i64_w, i32_w]
              rfl
            refine pure_ (i := 27) (N := some 70) (v := undef) (a' := ?_) #[true, true, true, true, true, true, true, true, true, true, true, true, true, true, true, true, true, true, true, true, true, true, true, true, true, true, true, true, false, false] rfl rfl (by kernel_rfl) (fun _ _ _ h => h) (Or.inr ⟨by rfl, rfl⟩) ?_ ?_
            rotate_left
            · simp only [Act.put, List.setIfInBounds_toArray, List.set_cons_zero, List.set_cons_succ, i64_w, i32_w]
              rfl
            refine pure_ (i := 28) (N := some 71) (v := ?_) (a' := ?_) #[true, true, true, true, true, true, true, true, true, true, true, true, true, true, true, true, true, true, true, true, true, true, true, true, true, true, true, true, true, false] rfl rfl (by kernel_rfl) (fun _ _ _ h => h) (Or.inl ⟨by rfl, ?_⟩) ?_ ?_
            rotate_left
            · intro w'
              go_simp
              with_reducible rfl
            rotate_left
            · simp only [Act.put, List.setIfInBounds_toArray, List.set_cons_zero, List.set_cons_succ, i64_w, i32_w]
              rfl
            refine pure_ (i := 29) (N := some 5) (v := ?_) (a' := ?_) #[true, true, true, true, true, true, true, true, true, true, true, true, true, true, true, true, true, true, true, true, true, true, true, true, true, true, true, true, true, true] rfl rfl (by kernel_rfl) (fun _ _ _ h => h) (Or.inl ⟨by rfl, ?_⟩) ?_ ?_
            rotate_left
            · intro w'
              go_simp
              with_reducible rfl
            rotate_left
            · simp only [Act.put, List.setIfInBounds_toArray, List.set_cons_zero, List.set_cons_succ, i64_w, i32_w]
              rfl
            refine done_ (by kernel_rfl) ?_
            go_wp2_with fail
            go_roundg (gk - 1)
            case measure => have := HR.out.2; omega
            case rel =>
              have hw : wrap64 ((j : Int) + 1) = ((j + 1 : Nat) : Int) := by have := HF.out; have := HR.out.2; unfold wrap64; omega
              try rw [hw]
              exact ⟨j + 1, rfl, by have := HR.out.2; omega, SPN.first hz6, by rw [HQ.out]⟩
          | true =>
            obtain ⟨bx, hbx⟩ := con_same2 (x := x) (y := y) (by simpa using hkk)
            have HQ : Hid ((((b.f4.zip b.f5).take (j + 1)).all fun p => conK a.f4 a.f5 p.1 p.2) = bx) := Lib.hid (by rw [HJ.out, HCK.out, hbx]; cases bx <;> rfl)
            have HCO : Hid (∀ w1, Below w.heap.size w w1 → Calls Tryz.prog 20 #[.agg #[.int .i64 x.f0, .int .i64 x.f1, .string x.f2, .slice B3 x.f3.length d3, .slice B4 x.f4.length d4, .slice B5 x.f5.length d5], .agg #[.int .i64 y.f0, .int .i64 y.f1, .string y.f2, .slice C3 y.f3.length e3, .slice C4 y.f4.length e4, .slice C5 y.f5.length e5]] w1 fun e w' => e = .returned (resB bx) ∧ Below w1.heap.size w1 w') := Lib.hid (fun w1 hb => con_vals w x y _ _ _ _ _ _ _ _ _ _ _ _ _ _ _ _ _ _ _ _ _ _ _ _ (toGo_any w _ x (Nat.lt_succ_self _) HXS.out.2.1 HXS.out.1 _ HKX.out) (toGo_any w _ y (Nat.lt_succ_self _) HYS.out.2.1 HYS.out.1 _ HY.out.2.2.2.2.2.2) HXS.out.1 HXS.out.2.1 HXS.out.2.2 HYS.out.1 HYS.out.2.1 HYS.out.2.2 bx hbx w1 hb)
            clear hbx
            refine start_ (n := 30) (S := fun w' => w'.cell? ⟨A, 0, none⟩ = some (.int .i64 a.f0) ∧ w'.cell? ⟨A, 1, none⟩ = some (.int .i64 a.f1) ∧ w'.cell? ⟨A, 2, none⟩ = some (.string a.f2) ∧ w'.cell? ⟨A, 3, none⟩ = some (.slice A3a a.f3.length a3a) ∧ w'.cell? ⟨A, 4, none⟩ = some (.slice A4a a.f4.length a4a) ∧ w'.cell? ⟨A, 5, none⟩ = some (.slice A5a a.f5.length a5a) ∧ w'.cell? ⟨B, 0, none⟩ = some (.int .i64 b.f0) ∧ w'.cell? ⟨B, 1, none⟩ = some (.int .i64 b.f1) ∧ w'.cell? ⟨B, 2, none⟩ = some (.string b.f2) ∧ w'.cell? ⟨B, 3, none⟩ = some (.slice A3b b.f3.length a3b) ∧ w'.cell? ⟨B, 4, none⟩ = some (.slice (some ak) b.f4.length a4b) ∧ w'.cell? ⟨B, 5, none⟩ = some (.slice (some ad) b.f5.length a5b) ∧ w'.cell? ⟨X, 0, none⟩ = some (.int .i64 x.f0) ∧ w'.cell? ⟨X, 1, none⟩ = some (.int .i64 x.f1) ∧ w'.cell? ⟨X, 2, none⟩ = some (.string x.f2) ∧ w'.cell? ⟨X, 3, none⟩ = some (.slice B3 x.f3.length d3) ∧ w'.cell? ⟨X, 4, none⟩ = some (.slice B4 x.f4.length d4) ∧ w'.cell? ⟨X, 5, none⟩ = some (.slice B5 x.f5.length d5) ∧ w'.cell? (ad.add (j * 6)) = some (.int .i64 y.f0) ∧ w'.cell? ⟨(ad.add (j * 6)).block, (ad.add (j * 6)).off + 1, none⟩ = some (.int .i64 y.f1) ∧ w'.cell? ⟨(ad.add (j * 6)).block, (ad.add (j * 6)).off + 2, none⟩ = some (.string y.f2) ∧ w'.cell? ⟨(ad.add (j * 6)).block, (ad.add (j * 6)).off + 3, none⟩ = some (.slice C3 y.f3.length e3) ∧ w'.cell? ⟨(ad.add (j * 6)).block, (ad.add (j * 6)).off + 4, none⟩ = some (.slice C4 y.f4.length e4) ∧ w'.cell? ⟨(ad.add (j * 6)).block, (ad.add (j * 6)).off + 5, none⟩ = some (.slice C5 y.f5.length e5) ∧ SPN w [(A, #[.int .i64 a.f0, .int .i64 a.f1, .string a.f2, .slice A3a a.f3.length a3a, .slice A4a a.f4.length a4a, .slice A5a a.f5.length a5a], 26), (B, #[.int .i64 b.f0, .int .i64 b.f1, .string b.f2, .slice A3b b.f3.length a3b, .slice (some ak) b.f4.length a4b, .slice (some ad) b.f5.length a5b], 26), (X, #[.int .i64 x.f0, .int .i64 x.f1, .string x.f2, .slice B3 x.f3.length d3, .slice B4 x.f4.length d4, .slice B5 x.f5.length d5], 26)] w') (ds := []) #[false, false, false, false, false, false, false, false, false, false, false, false, false, false, false, false, false, false, false, false, false, false, false, false, false, false, false, false, false, false] (by kernel_rfl) rfl rfl ⟨((six_cells (((SPN.drew HP.out).1).get 0 rfl)).1), ((six_cells (((SPN.drew HP.out).1).get 0 rfl)).2.1), ((six_cells (((SPN.drew HP.out).1).get 0 rfl)).2.2.1), ((six_cells (((SPN.drew HP.out).1).get 0 rfl)).2.2.2.1), ((six_cells (((SPN.drew HP.out).1).get 0 rfl)).2.2.2.2.1), ((six_cells (((SPN.drew HP.out).1).get 0 rfl)).2.2.2.2.2.1), ((six_cells (((SPN.drew HP.out).1).get 1 rfl)).1), ((six_cells (((SPN.drew HP.out).1).get 1 rfl)).2.1), ((six_cells (((SPN.drew HP.out).1).get 1 rfl)).2.2.1), ((six_cells (((SPN.drew HP.out).1).get 1 rfl)).2.2.2.1), ((six_cells (((SPN.drew HP.out).1).get 1 rfl)).2.2.2.2.1), ((six_cells (((SPN.drew HP.out).1).get 1 rfl)).2.2.2.2.2.1), ((six_cells (((SPN.drew HP.out).1).get 2 rfl)).1), ((six_cells (((SPN.drew HP.out).1).get 2 rfl)).2.1), ((six_cells (((SPN.drew HP.out).1).get 2 rfl)).2.2.1), ((six_cells (((SPN.drew HP.out).1).get 2 rfl)).2.2.2.1), ((six_cells (((SPN.drew HP.out).1).get 2 rfl)).2.2.2.2.1), ((six_cells (((SPN.drew HP.out).1).get 2 rfl)).2.2.2.2.2.1), (pw_cell_below (SPN.bel (SPN.drew HP.out)) HY.out.1), (pw_cell_below (SPN.bel (SPN.drew HP.out)) HY.out.2.1), (pw_cell_below (SPN.bel (SPN.drew HP.out)) HY.out.2.2.1), (pw_cell_below (SPN.bel (SPN.drew HP.out)) HY.out.2.2.2.1), (pw_cell_below (SPN.bel (SPN.drew HP.out)) HY.out.2.2.2.2.1), (pw_cell_below (SPN.bel (SPN.drew HP.out)) HY.out.2.2.2.2.2.1), (SPN.drew HP.out)⟩ (fun hHeld => ?_)
            refine pure_ (i := 0) (N := some 43) (v := ?_) (a' := ?_) #[true, false, false, false, false, false, false, false, false, false, false, false, false, false, false, false, false, false, false, false, false, false, false, false, false, false, false, false, false, false] rfl rfl (by kernel_rfl) (fun _ _ _ h => h) (Or.inl ⟨by rfl, ?_⟩) ?_ ?_
            rotate_left
            · intro w'
              go_simp
              with_reducible rfl
            rotate_left
            · simp only [Act.put, List.setIfInBounds_toArray, List.set_cons_zero, List.set_cons_succ, i64_w, i32_w]
              rfl
            refine pure_ (i := 1) (N := some 44) (v := ?_) (a' := ?_) #[true, true, false, false, false, false, false, false, false, false, false, false, false, false, false, false, false, false, false, false, false, false, false, false, false, false, false, false, false, false] rfl rfl (by kernel_rfl) (fun _ _ _ h => h) (Or.inl ⟨by rfl, ?_⟩) ?_ ?_
            rotate_left
            · intro w'
              go_simp
              with_reducible rfl
            rotate_left
            · simp only [Act.put, List.setIfInBounds_toArray, List.set_cons_zero, List.set_cons_succ, i64_w, i32_w]
              rfl
            refine pure_ (i := 3) (N := some 46) (v := ?_) (a' := ?_) #[true, true, false, true, false, false, false, false, false, false, false, false, false, false, false, false, false, false, false, false, false, false, false, false, false, false, false, false, false, false] rfl rfl (by kernel_rfl) (fun _ _ _ h => h) (Or.inl ⟨by rfl, ?_⟩) ?_ ?_
            rotate_left
            · intro w'
              go_simp
              with_reducible rfl
            rotate_left
            · simp only [Act.put, List.setIfInBounds_toArray, List.set_cons_zero, List.set_cons_succ, i64_w, i32_w]
              rfl
            refine pure_ (i := 4) (N := some 47) (v := ?_) (a' := ?_) #[true, true, false, true, true, false, false, false, false, false, false, false, false, false, false, false, false, false, false, false, false, false, false, false, false, false, false, false, false, false] rfl rfl (by kernel_rfl) (fun _ _ _ h => h) (Or.inl ⟨by rfl, ?_⟩) ?_ ?_
            rotate_left
            · intro w'
              go_simp
              with_reducible rfl
            rotate_left
            · simp only [Act.put, List.setIfInBounds_toArray, List.set_cons_zero, List.set_cons_succ, i64_w, i32_w]
              rfl
            refine take_ (i := 2) (N := some 45) (v := ?_) (a' := ?_) #[true, true, true, true, true, false, false, false, false, false, false, false, false, false, false, false, false, false, false, false, false, false, false, false, false, false, false, false, false, false] rfl rfl (by kernel_rfl) (fun _ _ _ h => h) (Or.inl ⟨by rfl, ?_⟩) hHeld ?_ ?_
            rotate_left
            · rintro w' ⟨s0, s1, s2, s3, s4, s5, s6, s7, s8, s9, s10, s11, s12, s13, s14, s15, s16, s17, s18, s19, s20, s21, s22, s23, s24⟩
              go_simp
              with_reducible rfl
            rotate_left
            · simp only [Act.put, List.setIfInBounds_toArray, List.set_cons_zero, List.set_cons_succ, i64_w, i32_w]
              rfl
            refine one_ (i := 5) (N := some 48) #[true, true, true, true, true, true, false, false, false, false, false, false, false, false, false, false, false, false, false, false, false, false, false, false, false, false, false, false, false, false] rfl rfl (by kernel_rfl) (by decide) (fun K hK => ?_)
            refine goes_ Tryz.func24 (by kernel_rfl) rfl #[.agg #[.int .i64 a.f0, .int .i64 a.f1, .string a.f2, .slice A3a a.f3.length a3a, .slice A4a a.f4.length a4a, .slice A5a a.f5.length a5a], .agg #[.int .i64 4, .int .i64 0, .string key, .slice none 0 0, .slice none 0 0, .slice none 0 0]] (by rfl) rfl rfl (by simp only [List.map_toArray, List.map_cons, List.map_nil]; rfl) ?_
            with_reducible refine ((HH.out _ (SPN.bel hHeld.2.2.2.2.2.2.2.2.2.2.2.2.2.2.2.2.2.2.2.2.2.2.2.2))).mono ?_
            rintro e wy5 ⟨rfl, hb5⟩
            refine ⟨_, rfl, ?_⟩
            have hz5 := SPN.below hHeld.2.2.2.2.2.2.2.2.2.2.2.2.2.2.2.2.2.2.2.2.2.2.2.2 hb5
            refine hK.out _ _ ⟨((six_cells ((hz5.1).get 0 rfl)).1), ((six_cells ((hz5.1).get 0 rfl)).2.1), ((six_cells ((hz5.1).get 0 rfl)).2.2.1), ((six_cells ((hz5.1).get 0 rfl)).2.2.2.1), ((six_cells ((hz5.1).get 0 rfl)).2.2.2.2.1), ((six_cells ((hz5.1).get 0 rfl)).2.2.2.2.2.1), ((six_cells ((hz5.1).get 1 rfl)).1), ((six_cells ((hz5.1).get 1 rfl)).2.1), ((six_cells ((hz5.1).get 1 rfl)).2.2.1), ((six_cells ((hz5.1).get 1 rfl)).2.2.2.1), ((six_cells ((hz5.1).get 1 rfl)).2.2.2.2.1), ((six_cells ((hz5.1).get 1 rfl)).2.2.2.2.2.1), ((six_cells ((hz5.1).get 2 rfl)).1), ((six_cells ((hz5.1).get 2 rfl)).2.1), ((six_cells ((hz5.1).get 2 rfl)).2.2.1), ((six_cells ((hz5.1).get 2 rfl)).2.2.2.1), ((six_cells ((hz5.1).get 2 rfl)).2.2.2.2.1), ((six_cells ((hz5.1).get 2 rfl)).2.2.2.2.2.1), (pw_cell_below (SPN.bel hz5) HY.out.1), (pw_cell_below (SPN.bel hz5) HY.out.2.1), (pw_cell_below (SPN.bel hz5) HY.out.2.2.1), (pw_cell_below (SPN.bel hz5) HY.out.2.2.2.1), (pw_cell_below (SPN.bel hz5) HY.out.2.2.2.2.1), (pw_cell_below (SPN.bel hz5) HY.out.2.2.2.2.2.1), hz5⟩ (fun hHeld => ?_)
            clear hK K
            refine norm_ (a' := ?_) ?_ ?_
            rotate_left
            · show Act.put _ (some 48) _ = _
              simp only [Act.put, List.setIfInBounds_toArray, List.set_cons_zero, List.set_cons_succ, i64_w, i32_w]
              rfl
            refine one_ (i := 6) (N := some 49) #[true, true, true, true, true, true, true, false, false, false, false, false, false, false, false, false, false, false, false, false, false, false, false, false, false, false, false, false, false, false] rfl rfl (by kernel_rfl) (by decide) (fun K hK => ?_)
            refine goes_ Tryz.func19 (by kernel_rfl) rfl #[resB true] (by rfl) rfl rfl (by simp only [List.map_toArray, List.map_cons, List.map_nil]; rfl) ?_
            with_reducible refine ((lc_yes true _)).mono ?_
            rintro e wy6 ⟨rfl, hb6⟩
            refine ⟨_, rfl, ?_⟩
            have hz6 := SPN.below hz5 hb6
            refine hK.out _ _ ⟨((six_cells ((hz6.1).get 0 rfl)).1), ((six_cells ((hz6.1).get 0 rfl)).2.1), ((six_cells ((hz6.1).get 0 rfl)).2.2.1), ((six_cells ((hz6.1).get 0 rfl)).2.2.2.1), ((six_cells ((hz6.1).get 0 rfl)).2.2.2.2.1), ((six_cells ((hz6.1).get 0 rfl)).2.2.2.2.2.1), ((six_cells ((hz6.1).get 1 rfl)).1), ((six_cells ((hz6.1).get 1 rfl)).2.1), ((six_cells ((hz6.1).get 1 rfl)).2.2.1), ((six_cells ((hz6.1).get 1 rfl)).2.2.2.1), ((six_cells ((hz6.1).get 1 rfl)).2.2.2.2.1), ((six_cells ((hz6.1).get 1 rfl)).2.2.2.2.2.1), ((six_cells ((hz6.1).get 2 rfl)).1), ((six_cells ((hz6.1).get 2 rfl)).2.1), ((six_cells ((hz6.1).get 2 rfl)).2.2.1), ((six_cells ((hz6.1).get 2 rfl)).2.2.2.1), ((six_cells ((hz6.1).get 2 rfl)).2.2.2.2.1), ((six_cells ((hz6.1).get 2 rfl)).2.2.2.2.2.1), (pw_cell_below (SPN.bel hz6) HY.out.1), (pw_cell_below (SPN.bel hz6) HY.out.2.1), (pw_cell_below (SPN.bel hz6) HY.out.2.2.1), (pw_cell_below (SPN.bel hz6) HY.out.2.2.2.1), (pw_cell_below (SPN.bel hz6) HY.out.2.2.2.2.1), (pw_cell_below (SPN.bel hz6) HY.out.2.2.2.2.2.1), hz6⟩ (fun hHeld => ?_)
            clear hK K
            refine norm_ (a' := ?_) ?_ ?_
            rotate_left
            · show Act.put _ (some 49) _ = _
              simp only [Act.put, List.setIfInBounds_toArray, List.set_cons_zero, List.set_cons_succ, i64_w, i32_w]
              rfl
            refine pure_ (i := 7) (N := some 50) (v := ?_) (a' := ?_) #[true, true, true, true, true, true, true, true, false, false, false, false, false, false, false, false, false, false, false, false, false, false, false, false, false, false, false, false, false, false] rfl rfl (by kernel_rfl) (fun _ _ _ h => h) (Or.inl ⟨by rfl, ?_⟩) ?_ ?_
            rotate_left
            · intro w'
              go_simp
              with_reducible rfl
            rotate_left
            · simp only [Act.put, List.setIfInBounds_toArray, List.set_cons_zero, List.set_cons_succ, i64_w, i32_w]
              rfl
            refine pure_ (i := 8) (N := some 51) (v := ?_) (a' := ?_) #[true, true, true, true, true, true, true, true, true, false, false, false, false, false, false, false, false, false, false, false, false, false, false, false, false, false, false, false, false, false] rfl rfl (by kernel_rfl) (fun _ _ _ h => h) (Or.inl ⟨by rfl, ?_⟩) ?_ ?_
            rotate_left
            · intro w'
              go_simp
              with_reducible rfl
            rotate_left
            · simp only [Act.put, List.setIfInBounds_toArray, List.set_cons_zero, List.set_cons_succ, i64_w, i32_w]
              rfl
            refine pure_ (i := 9) (N := some 52) (v := ?_) (a' := ?_) #[true, true, true, true, true, true, true, true, true, true, false, false, false, false, false, false, false, false, false, false, false, false, false, false, false, false, false, false, false, false] rfl rfl (by kernel_rfl) (fun _ _ _ h => h) (Or.inl ⟨by rfl, ?_⟩) ?_ ?_
            rotate_left
            · intro w'
              go_simp
              with_reducible rfl
            rotate_left
            · simp only [Act.put, List.setIfInBounds_toArray, List.set_cons_zero, List.set_cons_succ, i64_w, i32_w]
              rfl
            refine pure_ (i := 11) (N := some 54) (v := ?_) (a' := ?_) #[true, true, true, true, true, true, true, true, true, true, false, true, false, false, false, false, false, false, false, false, false, false, false, false, false, false, false, false, false, false] rfl rfl (by kernel_rfl) (fun _ _ _ h => h) (Or.inl ⟨by rfl, ?_⟩) ?_ ?_
            rotate_left
            · intro w'
              go_simp
              with_reducible rfl
            rotate_left
            · simp only [Act.put, List.setIfInBounds_toArray, List.set_cons_zero, List.set_cons_succ, i64_w, i32_w]
              rfl
            refine pure_ (i := 13) (N := some 56) (v := ?_) (a' := ?_) #[true, true, true, true, true, true, true, true, true, true, false, true, false, true, false, false, false, false, false, false, false, false, false, false, false, false, false, false, false, false] rfl rfl (by kernel_rfl) (fun _ _ _ h => h) (Or.inl ⟨by rfl, ?_⟩) ?_ ?_
            rotate_left
            · intro w'
              go_simp
              with_reducible rfl
            rotate_left
            · simp only [Act.put, List.setIfInBounds_toArray, List.set_cons_zero, List.set_cons_succ, i64_w, i32_w]
              rfl
            refine take_ (i := 10) (N := some 53) (v := ?_) (a' := ?_) #[true, true, true, true, true, true, true, true, true, true, true, true, false, true, false, false, false, false, false, false, false, false, false, false, false, false, false, false, false, false] rfl rfl (by kernel_rfl) (fun _ _ _ h => h) (Or.inl ⟨by rfl, ?_⟩) hHeld ?_ ?_
            rotate_left
            · rintro w' ⟨s0, s1, s2, s3, s4, s5, s6, s7, s8, s9, s10, s11, s12, s13, s14, s15, s16, s17, s18, s19, s20, s21, s22, s23, s24⟩
              go_simp
              with_reducible rfl
            rotate_left
            · simp only [Act.put, List.setIfInBounds_toArray, List.set_cons_zero, List.set_cons_succ, i64_w, i32_w]
              rfl
            refine take_ (i := 12) (N := some 55) (v := ?_) (a' := ?_) #[true, true, true, true, true, true, true, true, true, true, true, true, true, true, false, false, false, false, false, false, false, false, false, false, false, false, false, false, false, false] rfl rfl (by kernel_rfl) (fun _ _ _ h => h) (Or.inl ⟨by rfl, ?_⟩) hHeld ?_ ?_
            rotate_left
            · rintro w' ⟨s0, s1, s2, s3, s4, s5, s6, s7, s8, s9, s10, s11, s12, s13, s14, s15, s16, s17, s18, s19, s20, s21, s22, s23, s24⟩
              go_simp
              with_reducible rfl
            rotate_left
            · simp only [Act.put, List.setIfInBounds_toArray, List.set_cons_zero, List.set_cons_succ, i64_w, i32_w]
              rfl
            refine pure_ (i := 14) (N := some 57) (v := ?_) (a' := ?_) #[true, true, true, true, true, true, true, true, true, true, true, true, true, true, true, false, false, false, false, false, false, false, false, false, false, false, false, false, false, false] rfl rfl (by kernel_rfl) (fun _ _ _ h => h) (Or.inl ⟨by rfl, ?_⟩) ?_ ?_
            rotate_left
            · intro w'
              go_simp
              with_reducible rfl
            rotate_left
            · simp only [Act.put, List.setIfInBounds_toArray, List.set_cons_zero, List.set_cons_succ, i64_w, i32_w]
              rfl
            refine pure_ (i := 15) (N := some 58) (v := ?_) (a' := ?_) #[true, true, true, true, true, true, true, true, true, true, true, true, true, true, true, true, false, false, false, false, false, false, false, false, false, false, false, false, false, false] rfl rfl (by kernel_rfl) (fun _ _ _ h => h) (Or.inl ⟨by rfl, ?_⟩) ?_ ?_
            rotate_left
            · intro w'
              go_simp
              with_reducible rfl
            rotate_left
            · simp only [Act.put, List.setIfInBounds_toArray, List.set_cons_zero, List.set_cons_succ, i64_w, i32_w]
              rfl
            refine take_ (i := 16) (N := some 59) (v := ?_) (a' := ?_) #[true, true, true, true, true, true, true, true, true, true, true, true, true, true, true, true, true, false, false, false, false, false, false, false, false, false, false, false, false, false] rfl rfl (by kernel_rfl) (fun _ _ _ h => h) (Or.inl ⟨by rfl, ?_⟩) hHeld ?_ ?_
            rotate_left
            · rintro w' ⟨s0, s1, s2, s3, s4, s5, s6, s7, s8, s9, s10, s11, s12, s13, s14, s15, s16, s17, s18, s19, s20, s21, s22, s23, s24⟩
              go_simp
              with_reducible rfl
            rotate_left
            · simp only [Act.put, List.setIfInBounds_toArray, List.set_cons_zero, List.set_cons_succ, i64_w, i32_w]
              rfl
            refine pure_ (i := 17) (N := some 60) (v := ?_) (a' := ?_) #[true, true, true, true, true, true, true, true, true, true, true, true, true, true, true, true, true, true, false, false, false, false, false, false, false, false, false, false, false, false] rfl rfl (by kernel_rfl) (fun _ _ _ h => h) (Or.inl ⟨by rfl, ?_⟩) ?_ ?_
            rotate_left
            · intro w'
              go_simp
              with_reducible rfl
            rotate_left
            · simp only [Act.put, List.setIfInBounds_toArray, List.set_cons_zero, List.set_cons_succ, i64_w, i32_w]
              rfl
            refine pure_ (i := 18) (N := some 61) (v := ?_) (a' := ?_) #[true, true, true, true, true, true, true, true, true, true, true, true, true, true, true, true, true, true, true, false, false, false, false, false, false, false, false, false, false, false] rfl rfl (by kernel_rfl) (fun _ _ _ h => h) (Or.inl ⟨by rfl, ?_⟩) ?_ ?_
            rotate_left
            · intro w'
              go_simp
              with_reducible rfl
            rotate_left
            · simp only [Act.put, List.setIfInBounds_toArray, List.set_cons_zero, List.set_cons_succ, i64_w, i32_w]
              rfl
            refine pure_ (i := 19) (N := some 62) (v := ?_) (a' := ?_) #[true, true, true, true, true, true, true, true, true, true, true, true, true, true, true, true, true, true, true, true, false, false, false, false, false, false, false, false, false, false] rfl rfl (by kernel_rfl) (fun _ _ _ h => h) (Or.inl ⟨by rfl, ?_⟩) ?_ ?_
            rotate_left
            · intro w'
              go_simp
              with_reducible rfl
            rotate_left
            · simp only [Act.put, List.setIfInBounds_toArray, List.set_cons_zero, List.set_cons_succ, i64_w, i32_w]
              rfl
            refine pure_ (i := 21) (N := some 64) (v := ?_) (a' := ?_) #[true, true, true, true, true, true, true, true, true, true, true, true, true, true, true, true, true, true, true, true, false, true, false, false, false, false, false, false, false, false] rfl rfl (by kernel_rfl) (fun _ _ _ h => h) (Or.inl ⟨by rfl, ?_⟩) ?_ ?_
            rotate_left
            · intro w'
              go_simp
              with_reducible rfl
            rotate_left
            · simp only [Act.put, List.setIfInBounds_toArray, List.set_cons_zero, List.set_cons_succ, i64_w, i32_w]
              rfl
            refine pure_ (i := 23) (N := some 66) (v := ?_) (a' := ?_) #[true, true, true, true, true, true, true, true, true, true, true, true, true, true, true, true, true, true, true, true, false, true, false, true, false, false, false, false, false, false] rfl rfl (by kernel_rfl) (fun _ _ _ h => h) (Or.inl ⟨by rfl, ?_⟩) ?_ ?_
            rotate_left
            · intro w'
              go_simp
              with_reducible rfl
            rotate_left
            · simp only [Act.put, List.setIfInBounds_toArray, List.set_cons_zero, List.set_cons_succ, i64_w, i32_w]
              rfl
            refine take_ (i := 20) (N := some 63) (v := ?_) (a' := ?_) #[true, true, true, true, true, true, true, true, true, true, true, true, true, true, true, true, true, true, true, true, true, true, false, true, false, false, false, false, false, false] rfl rfl (by kernel_rfl) (fun _ _ _ h => h) (Or.inl ⟨by rfl, ?_⟩) hHeld ?_ ?_
            rotate_left
            · rintro w' ⟨s0, s1, s2, s3, s4, s5, s6, s7, s8, s9, s10, s11, s12, s13, s14, s15, s16, s17, s18, s19, s20, s21, s22, s23, s24⟩
              go_simp
              with_reducible rfl
            rotate_left
            · simp only [Act.put, List.setIfInBounds_toArray, List.set_cons_zero, List.set_cons_succ, i64_w, i32_w]
              rfl
            refine take_ (i := 22) (N := some 65) (v := ?_) (a' := ?_) #[true, true, true, true, true, true, true, true, true, true, true, true, true, true, true, true, true, true, true, true, true, true, true, true, false, false, false, false, false, false] rfl rfl (by kernel_rfl) (fun _ _ _ h => h) (Or.inl ⟨by rfl, ?_⟩) hHeld ?_ ?_
            rotate_left
            · rintro w' ⟨s0, s1, s2, s3, s4, s5, s6, s7, s8, s9, s10, s11, s12, s13, s14, s15, s16, s17, s18, s19, s20, s21, s22, s23, s24⟩
              go_simp
              with_reducible rfl
            rotate_left
            · simp only [Act.put, List.setIfInBounds_toArray, List.set_cons_zero, List.set_cons_succ, i64_w, i32_w]
              rfl
            refine pure_ (i := 24) (N := some 67) (v := ?_) (a' := ?_) #[true, true, true, true, true, true, true, true, true, true, true, true, true, true, true, true, true, true, true, true, true, true, true, true, true, false, false, false, false, false] rfl rfl (by kernel_rfl) (fun _ _ _ h => h) (Or.inl ⟨by rfl, ?_⟩) ?_ ?_
            rotate_left
            · intro w'
              go_simp
              with_reducible rfl
            rotate_left
            · simp only [Act.put, List.setIfInBounds_toArray, List.set_cons_zero, List.set_cons_succ, i64_w, i32_w]
              rfl
            refine take_ (i := 25) (N := some 68) (v := ?_) (a' := ?_) #[true, true, true, true, true, true, true, true, true, true, true, true, true, true, true, true, true, true, true, true, true, true, true, true, true, true, false, false, false, false] rfl rfl (by kernel_rfl) (fun _ _ _ h => h) (Or.inl ⟨by rfl, ?_⟩) hHeld ?_ ?_
            rotate_left
            · rintro w' ⟨s0, s1, s2, s3, s4, s5, s6, s7, s8, s9, s10, s11, s12, s13, s14, s15, s16, s17, s18, s19, s20, s21, s22, s23, s24⟩
              go_simp
              with_reducible rfl
            rotate_left
            · simp only [Act.put, List.setIfInBounds_toArray, List.set_cons_zero, List.set_cons_succ, i64_w, i32_w]
              rfl
            refine one_ (i := 26) (N := some 69) #[true, true, true, true, true, true, true, true, true, true, true, true, true, true, true, true, true, true, true, true, true, true, true, true, true, true, true, false, false, false] rfl rfl (by kernel_rfl) (by decide) (fun K hK => ?_)
            refine goes_ Tryz.func20 (by kernel_rfl) rfl #[.agg #[.int .i64 x.f0, .int .i64 x.f1, .string x.f2, .slice B3 x.f3.length d3, .slice B4 x.f4.length d4, .slice B5 x.f5.length d5], .agg #[.int .i64 y.f0, .int .i64 y.f1, .string y.f2, .slice C3 y.f3.length e3, .slice C4 y.f4.length e4, .slice C5 y.f5.length e5]] (by rfl) rfl rfl (by simp only [List.map_toArray, List.map_cons, List.map_nil]; rfl) ?_
            with_reducible refine ((HCO.out _ (SPN.bel hz6))).mono ?_
            rintro e wy26 ⟨rfl, hb26⟩
            refine ⟨_, rfl, ?_⟩
            have hz26 := SPN.below hz6 hb26
            refine hK.out _ _ ⟨((six_cells ((hz26.1).get 0 rfl)).1), ((six_cells ((hz26.1).get 0 rfl)).2.1), ((six_cells ((hz26.1).get 0 rfl)).2.2.1), ((six_cells ((hz26.1).get 0 rfl)).2.2.2.1), ((six_cells ((hz26.1).get 0 rfl)).2.2.2.2.1), ((six_cells ((hz26.1).get 0 rfl)).2.2.2.2.2.1), ((six_cells ((hz26.1).get 1 rfl)).1), ((six_cells ((hz26.1).get 1 rfl)).2.1), ((six_cells ((hz26.1).get 1 rfl)).2.2.1), ((six_cells ((hz26.1).get 1 rfl)).2.2.2.1), ((six_cells ((hz26.1).get 1 rfl)).2.2.2.2.1), ((six_cells ((hz26.1).get 1 rfl)).2.2.2.2.2.1), ((six_cells ((hz26.1).get 2 rfl)).1), ((six_cells ((hz26.1).get 2 rfl)).2.1), ((six_cells ((hz26.1).get 2 rfl)).2.2.1), ((six_cells ((hz26.1).get 2 rfl)).2.2.2.1), ((six_cells ((hz26.1).get 2 rfl)).2.2.2.2.1), ((six_cells ((hz26.1).get 2 rfl)).2.2.2.2.2.1), (pw_cell_below (SPN.bel hz26) HY.out.1), (pw_cell_below (SPN.bel hz26) HY.out.2.1), (pw_cell_below (SPN.bel hz26) HY.out.2.2.1), (pw_cell_below (SPN.bel hz26) HY.out.2.2.2.1), (pw_cell_below (SPN.bel hz26) HY.out.2.2.2.2.1), (pw_cell_below (SPN.bel hz26) HY.out.2.2.2.2.2.1), hz26⟩ (fun hHeld => ?_)
            clear hK K
            refine norm_ (a' := ?_) ?_ ?_
            rotate_left
            · show Act.put _ (some 69) _ = _
              simp only [Act.put, List.setIfInBounds_toArray, List.set_cons_zero, List.set_cons_succ, i64_w, i32_w]
              rfl
            refine one_ (i := 27) (N := some 70) #[true, true, true, true, true, true, true, true, true, true, true, true, true, true, true, true, true, true, true, true, true, true, true, true, true, true, true, true, false, false] rfl rfl (by kernel_rfl) (by decide) (fun K hK => ?_)
            refine goes_ Tryz.func19 (by kernel_rfl) rfl #[resB bx] (by rfl) rfl rfl (by simp only [List.map_toArray, List.map_cons, List.map_nil]; rfl) ?_
            with_reducible refine ((lc_yes bx _)).mono ?_
            rintro e wy27 ⟨rfl, hb27⟩
            refine ⟨_, rfl, ?_⟩
            have hz27 := SPN.below hz26 hb27
            refine hK.out _ _ ⟨((six_cells ((hz27.1).get 0 rfl)).1), ((six_cells ((hz27.1).get 0 rfl)).2.1), ((six_cells ((hz27.1).get 0 rfl)).2.2.1), ((six_cells ((hz27.1).get 0 rfl)).2.2.2.1), ((six_cells ((hz27.1).get 0 rfl)).2.2.2.2.1), ((six_cells ((hz27.1).get 0 rfl)).2.2.2.2.2.1), ((six_cells ((hz27.1).get 1 rfl)).1), ((six_cells ((hz27.1).get 1 rfl)).2.1), ((six_cells ((hz27.1).get 1 rfl)).2.2.1), ((six_cells ((hz27.1).get 1 rfl)).2.2.2.1), ((six_cells ((hz27.1).get 1 rfl)).2.2.2.2.1), ((six_cells ((hz27.1).get 1 rfl)).2.2.2.2.2.1), ((six_cells ((hz27.1).get 2 rfl)).1), ((six_cells ((hz27.1).get 2 rfl)).2.1), ((six_cells ((hz27.1).get 2 rfl)).2.2.1), ((six_cells ((hz27.1).get 2 rfl)).2.2.2.1), ((six_cells ((hz27.1).get 2 rfl)).2.2.2.2.1), ((six_cells ((hz27.1).get 2 rfl)).2.2.2.2.2.1), (pw_cell_below (SPN.bel hz27) HY.out.1), (pw_cell_below (SPN.bel hz27) HY.out.2.1), (pw_cell_below (SPN.bel hz27) HY.out.2.2.1), (pw_cell_below (SPN.bel hz27) HY.out.2.2.2.1), (pw_cell_below (SPN.bel hz27) HY.out.2.2.2.2.1), (pw_cell_below (SPN.bel hz27) HY.out.2.2.2.2.2.1), hz27⟩ (fun hHeld => ?_)
            clear hK K
            refine norm_ (a' := ?_) ?_ ?_
            rotate_left
            · show Act.put _ (some 70) _ = _
              simp only [Act.put, List.setIfInBounds_toArray, List.set_cons_zero, List.set_cons_succ, i64_w, i32_w]
              rfl
            refine pure_ (i := 28) (N := some 71) (v := ?_) (a' := ?_) #[true, true, true, true, true, true, true, true, true, true, true, true, true, true, true, true, true, true, true, true, true, true, true, true, true, true, true, true, true, false] rfl rfl (by kernel_rfl) (fun _ _ _ h => h) (Or.inl ⟨by rfl, ?_⟩) ?_ ?_
            rotate_left
            · intro w'
              go_simp
              with_reducible rfl
            rotate_left
            · simp only [Act.put, List.setIfInBounds_toArray, List.set_cons_zero, List.set_cons_succ, i64_w, i32_w]
              rfl
            refine pure_ (i := 29) (N := some 5) (v := ?_) (a' := ?_) #[true, true, true, true, true, true, true, true, true, true, true, true, true, true, true, true, true, true, true, true, true, true, true, true, true, true, true, true, true, true] rfl rfl (by kernel_rfl) (fun _ _ _ h => h) (Or.inl ⟨by rfl, ?_⟩) ?_ ?_
            rotate_left
            · intro w'
              go_simp
              with_reducible rfl
            rotate_left
            · simp only [Act.put, List.setIfInBounds_toArray, List.set_cons_zero, List.set_cons_succ, i64_w, i32_w]
              rfl
            refine done_ (by kernel_rfl) ?_
            go_wp2_with fail
            go_roundg (gk - 1)
            case measure => have := HR.out.2; omega
            case rel =>
              have hw : wrap64 ((j : Int) + 1) = ((j + 1 : Nat) : Int) := by have := HF.out; have := HR.out.2; unfold wrap64; omega
              try rw [hw]
              exact ⟨j + 1, rfl, by have := HR.out.2; omega, SPN.first hz27, by rw [HQ.out]⟩
        · have HH : Hid (∀ w1, Below w.heap.size w w1 → Calls Tryz.prog 24 #[.agg #[.int .i64 a.f0, .int .i64 a.f1, .string a.f2, .slice A3a a.f3.length a3a, .slice A4a a.f4.length a4a, .slice A5a a.f5.length a5a], .agg #[.int .i64 4, .int .i64 0, .string key, .slice none 0 0, .slice none 0 0, .slice none 0 0]] w1 fun e w' => e = .returned (resB false) ∧ Below w1.heap.size w1 w') := Lib.hid (fun w1 hb => by
            have h := has_vals w HWA.out HS.out.1.1 KA.out key HKZ.out HT.out w1 hb
            rw [inK_neg hin] at h
            exact h)
          have HQ : Hid ((((b.f4.zip b.f5).take (j + 1)).all fun p => conK a.f4 a.f5 p.1 p.2) = false) := Lib.hid (by rw [HJ.out, conK_none _ _ _ _ hin]; rfl)
          clear hin
          refine start_ (n := 30) (S := fun w' => w'.cell? ⟨A, 0, none⟩ = some (.int .i64 a.f0) ∧ w'.cell? ⟨A, 1, none⟩ = some (.int .i64 a.f1) ∧ w'.cell? ⟨A, 2, none⟩ = some (.string a.f2) ∧ w'.cell? ⟨A, 3, none⟩ = some (.slice A3a a.f3.length a3a) ∧ w'.cell? ⟨A, 4, none⟩ = some (.slice A4a a.f4.length a4a) ∧ w'.cell? ⟨A, 5, none⟩ = some (.slice A5a a.f5.length a5a) ∧ w'.cell? ⟨B, 0, none⟩ = some (.int .i64 b.f0) ∧ w'.cell? ⟨B, 1, none⟩ = some (.int .i64 b.f1) ∧ w'.cell? ⟨B, 2, none⟩ = some (.string b.f2) ∧ w'.cell? ⟨B, 3, none⟩ = some (.slice A3b b.f3.length a3b) ∧ w'.cell? ⟨B, 4, none⟩ = some (.slice (some ak) b.f4.length a4b) ∧ w'.cell? ⟨B, 5, none⟩ = some (.slice (some ad) b.f5.length a5b) ∧ w'.cell? ⟨X, 0, none⟩ = some (.int .i64 x.f0) ∧ w'.cell? ⟨X, 1, none⟩ = some (.int .i64 x.f1) ∧ w'.cell? ⟨X, 2, none⟩ = some (.string x.f2) ∧ w'.cell? ⟨X, 3, none⟩ = some (.slice B3 x.f3.length d3) ∧ w'.cell? ⟨X, 4, none⟩ = some (.slice B4 x.f4.length d4) ∧ w'.cell? ⟨X, 5, none⟩ = some (.slice B5 x.f5.length d5) ∧ w'.cell? (ad.add (j * 6)) = some (.int .i64 y.f0) ∧ w'.cell? ⟨(ad.add (j * 6)).block, (ad.add (j * 6)).off + 1, none⟩ = some (.int .i64 y.f1) ∧ w'.cell? ⟨(ad.add (j * 6)).block, (ad.add (j * 6)).off + 2, none⟩ = some (.string y.f2) ∧ w'.cell? ⟨(ad.add (j * 6)).block, (ad.add (j * 6)).off + 3, none⟩ = some (.slice C3 y.f3.length e3) ∧ w'.cell? ⟨(ad.add (j * 6)).block, (ad.add (j * 6)).off + 4, none⟩ = some (.slice C4 y.f4.length e4) ∧ w'.cell? ⟨(ad.add (j * 6)).block, (ad.add (j * 6)).off + 5, none⟩ = some (.slice C5 y.f5.length e5) ∧ SPN w [(A, #[.int .i64 a.f0, .int .i64 a.f1, .string a.f2, .slice A3a a.f3.length a3a, .slice A4a a.f4.length a4a, .slice A5a a.f5.length a5a], 26), (B, #[.int .i64 b.f0, .int .i64 b.f1, .string b.f2, .slice A3b b.f3.length a3b, .slice (some ak) b.f4.length a4b, .slice (some ad) b.f5.length a5b], 26), (X, #[.int .i64 x.f0, .int .i64 x.f1, .string x.f2, .slice B3 x.f3.length d3, .slice B4 x.f4.length d4, .slice B5 x.f5.length d5], 26)] w') (ds := []) #[false, false, false, false, false, false, false, false, false, false, false, false, false, false, false, false, false, false, false, false, false, false, false, false, false, false, false, false, false, false] (by kernel_rfl) rfl rfl ⟨((six_cells (((SPN.drew HP.out).1).get 0 rfl)).1), ((six_cells (((SPN.drew HP.out).1).get 0 rfl)).2.1), ((six_cells (((SPN.drew HP.out).1).get 0 rfl)).2.2.1), ((six_cells (((SPN.drew HP.out).1).get 0 rfl)).2.2.2.1), ((six_cells (((SPN.drew HP.out).1).get 0 rfl)).2.2.2.2.1), ((six_cells (((SPN.drew HP.out).1).get 0 rfl)).2.2.2.2.2.1), ((six_cells (((SPN.drew HP.out).1).get 1 rfl)).1), ((six_cells (((SPN.drew HP.out).1).get 1 rfl)).2.1), ((six_cells (((SPN.drew HP.out).1).get 1 rfl)).2.2.1), ((six_cells (((SPN.drew HP.out).1).get 1 rfl)).2.2.2.1), ((six_cells (((SPN.drew HP.out).1).get 1 rfl)).2.2.2.2.1), ((six_cells (((SPN.drew HP.out).1).get 1 rfl)).2.2.2.2.2.1), ((six_cells (((SPN.drew HP.out).1).get 2 rfl)).1), ((six_cells (((SPN.drew HP.out).1).get 2 rfl)).2.1), ((six_cells (((SPN.drew HP.out).1).get 2 rfl)).2.2.1), ((six_cells (((SPN.drew HP.out).1).get 2 rfl)).2.2.2.1), ((six_cells (((SPN.drew HP.out).1).get 2 rfl)).2.2.2.2.1), ((six_cells (((SPN.drew HP.out).1).get 2 rfl)).2.2.2.2.2.1), (pw_cell_below (SPN.bel (SPN.drew HP.out)) HY.out.1), (pw_cell_below (SPN.bel (SPN.drew HP.out)) HY.out.2.1), (pw_cell_below (SPN.bel (SPN.drew HP.out)) HY.out.2.2.1), (pw_cell_below (SPN.bel (SPN.drew HP.out)) HY.out.2.2.2.1), (pw_cell_below (SPN.bel (SPN.drew HP.out)) HY.out.2.2.2.2.1), (pw_cell_below (SPN.bel (SPN.drew HP.out)) HY.out.2.2.2.2.2.1), (SPN.drew HP.out)⟩ (fun hHeld => ?_)
          refine pure_ (i := 0) (N := some 43) (v := ?_) (a' := ?_) #[true, false, false, false, false, false, false, false, false, false, false, false, false, false, false, false, false, false, false, false, false, false, false, false, false, false, false, false, false, false] rfl rfl (by kernel_rfl) (fun _ _ _ h => h) (Or.inl ⟨by rfl, ?_⟩) ?_ ?_
          rotate_left
          · intro w'
            go_simp
            with_reducible rfl
          rotate_left
          · simp only [Act.put, List.setIfInBounds_toArray, List.set_cons_zero, List.set_cons_succ, i64_w, i32_w]
            rfl
          refine pure_ (i := 1) (N := some 44) (v := ?_) (a' := ?_) #[true, true, false, false, false, false, false, false, false, false, false, false, false, false, false, false, false, false, false, false, false, false, false, false, false, false, false, false, false, false] rfl rfl (by kernel_rfl) (fun _ _ _ h => h) (Or.inl ⟨by rfl, ?_⟩) ?_ ?_
          rotate_left
          · intro w'
            go_simp
            with_reducible rfl
          rotate_left
          · simp only [Act.put, List.setIfInBounds_toArray, List.set_cons_zero, List.set_cons_succ, i64_w, i32_w]
            rfl
          refine pure_ (i := 3) (N := some 46) (v := ?_) (a' := ?_) #[true, true, false, true, false, false, false, false, false, false, false, false, false, false, false, false, false, false, false, false, false, false, false, false, false, false, false, false, false, false] rfl rfl (by kernel_rfl) (fun _ _ _ h => h) (Or.inl ⟨by rfl, ?_⟩) ?_ ?_
          rotate_left
          · intro w'
            go_simp
            with_reducible rfl
          rotate_left
          · simp only [Act.put, List.setIfInBounds_toArray, List.set_cons_zero, List.set_cons_succ, i64_w, i32_w]
            rfl
          refine pure_ (i := 4) (N := some 47) (v := ?_) (a' := ?_) #[true, true, false, true, true, false, false, false, false, false, false, false, false, false, false, false, false, false, false, false, false, false, false, false, false, false, false, false, false, false] rfl rfl (by kernel_rfl) (fun _ _ _ h => h) (Or.inl ⟨by rfl, ?_⟩) ?_ ?_
          rotate_left
          · intro w'
            go_simp
            with_reducible rfl
          rotate_left
          · simp only [Act.put, List.setIfInBounds_toArray, List.set_cons_zero, List.set_cons_succ, i64_w, i32_w]
            rfl
          refine take_ (i := 2) (N := some 45) (v := ?_) (a' := ?_) #[true, true, true, true, true, false, false, false, false, false, false, false, false, false, false, false, false, false, false, false, false, false, false, false, false, false, false, false, false, false] rfl rfl (by kernel_rfl) (fun _ _ _ h => h) (Or.inl ⟨by rfl, ?_⟩) hHeld ?_ ?_
          rotate_left
          · rintro w' ⟨s0, s1, s2, s3, s4, s5, s6, s7, s8, s9, s10, s11, s12, s13, s14, s15, s16, s17, s18, s19, s20, s21, s22, s23, s24⟩
            go_simp
            with_reducible rfl
          rotate_left
          · simp only [Act.put, List.setIfInBounds_toArray, List.set_cons_zero, List.set_cons_succ, i64_w, i32_w]
            rfl
          refine one_ (i := 5) (N := some 48) #[true, true, true, true, true, true, false, false, false, false, false, false, false, false, false, false, false, false, false, false, false, false, false, false, false, false, false, false, false, false] rfl rfl (by kernel_rfl) (by decide) (fun K hK => ?_)
          refine goes_ Tryz.func24 (by kernel_rfl) rfl #[.agg #[.int .i64 a.f0, .int .i64 a.f1, .string a.f2, .slice A3a a.f3.length a3a, .slice A4a a.f4.length a4a, .slice A5a a.f5.length a5a], .agg #[.int .i64 4, .int .i64 0, .string key, .slice none 0 0, .slice none 0 0, .slice none 0 0]] (by rfl) rfl rfl (by simp only [List.map_toArray, List.map_cons, List.map_nil]; rfl) ?_
          with_reducible refine ((HH.out _ (SPN.bel hHeld.2.2.2.2.2.2.2.2.2.2.2.2.2.2.2.2.2.2.2.2.2.2.2.2))).mono ?_
          rintro e wy5 ⟨rfl, hb5⟩
          refine ⟨_, rfl, ?_⟩
          have hz5 := SPN.below hHeld.2.2.2.2.2.2.2.2.2.2.2.2.2.2.2.2.2.2.2.2.2.2.2.2 hb5
          refine hK.out _ _ ⟨((six_cells ((hz5.1).get 0 rfl)).1), ((six_cells ((hz5.1).get 0 rfl)).2.1), ((six_cells ((hz5.1).get 0 rfl)).2.2.1), ((six_cells ((hz5.1).get 0 rfl)).2.2.2.1), ((six_cells ((hz5.1).get 0 rfl)).2.2.2.2.1), ((six_cells ((hz5.1).get 0 rfl)).2.2.2.2.2.1), ((six_cells ((hz5.1).get 1 rfl)).1), ((six_cells ((hz5.1).get 1 rfl)).2.1), ((six_cells ((hz5.1).get 1 rfl)).2.2.1), ((six_cells ((hz5.1).get 1 rfl)).2.2.2.1), ((six_cells ((hz5.1).get 1 rfl)).2.2.2.2.1), ((six_cells ((hz5.1).get 1 rfl)).2.2.2.2.2.1), ((six_cells ((hz5.1).get 2 rfl)).1), ((six_cells ((hz5.1).get 2 rfl)).2.1), ((six_cells ((hz5.1).get 2 rfl)).2.2.1), ((six_cells ((hz5.1).get 2 rfl)).2.2.2.1), ((six_cells ((hz5.1).get 2 rfl)).2.2.2.2.1), ((six_cells ((hz5.1).get 2 rfl)).2.2.2.2.2.1), (pw_cell_below (SPN.bel hz5) HY.out.1), (pw_cell_below (SPN.bel hz5) HY.out.2.1), (pw_cell_below (SPN.bel hz5) HY.out.2.2.1), (pw_cell_below (SPN.bel hz5) HY.out.2.2.2.1), (pw_cell_below (SPN.bel hz5) HY.out.2.2.2.2.1), (pw_cell_below (SPN.bel hz5) HY.out.2.2.2.2.2.1), hz5⟩ (fun hHeld => ?_)
          clear hK K
          refine norm_ (a' := ?_) ?_ ?_
          rotate_left
          · show Act.put _ (some 48) _ = _
            simp only [Act.put, List.setIfInBounds_toArray, List.set_cons_zero, List.set_cons_succ, i64_w, i32_w]
            rfl
          refine one_ (i := 6) (N := some 49) #[true, true, true, true, true, true, true, false, false, false, false, false, false, false, false, false, false, false, false, false, false, false, false, false, false, false, false, false, false, false] rfl rfl (by kernel_rfl) (by decide) (fun K hK => ?_)
          refine goes_ Tryz.func19 (by kernel_rfl) rfl #[resB false] (by rfl) rfl rfl (by simp only [List.map_toArray, List.map_cons, List.map_nil]; rfl) ?_
          with_reducible refine ((lc_yes false _)).mono ?_
          rintro e wy6 ⟨rfl, hb6⟩
          refine ⟨_, rfl, ?_⟩
          have hz6 := SPN.below hz5 hb6
          refine hK.out _ _ ⟨((six_cells ((hz6.1).get 0 rfl)).1), ((six_cells ((hz6.1).get 0 rfl)).2.1), ((six_cells ((hz6.1).get 0 rfl)).2.2.1), ((six_cells ((hz6.1).get 0 rfl)).2.2.2.1), ((six_cells ((hz6.1).get 0 rfl)).2.2.2.2.1), ((six_cells ((hz6.1).get 0 rfl)).2.2.2.2.2.1), ((six_cells ((hz6.1).get 1 rfl)).1), ((six_cells ((hz6.1).get 1 rfl)).2.1), ((six_cells ((hz6.1).get 1 rfl)).2.2.1), ((six_cells ((hz6.1).get 1 rfl)).2.2.2.1), ((six_cells ((hz6.1).get 1 rfl)).2.2.2.2.1), ((six_cells ((hz6.1).get 1 rfl)).2.2.2.2.2.1), ((six_cells ((hz6.1).get 2 rfl)).1), ((six_cells ((hz6.1).get 2 rfl)).2.1), ((six_cells ((hz6.1).get 2 rfl)).2.2.1), ((six_cells ((hz6.1).get 2 rfl)).2.2.2.1), ((six_cells ((hz6.1).get 2 rfl)).2.2.2.2.1), ((six_cells ((hz6.1).get 2 rfl)).2.2.2.2.2.1), (pw_cell_below (SPN.bel hz6) HY.out.1), (pw_cell_below (SPN.bel hz6) HY.out.2.1), (pw_cell_below (SPN.bel hz6) HY.out.2.2.1), (pw_cell_below (SPN.bel hz6) HY.out.2.2.2.1), (pw_cell_below (SPN.bel hz6) HY.out.2.2.2.2.1), (pw_cell_below (SPN.bel hz6) HY.out.2.2.2.2.2.1), hz6⟩ (fun hHeld => ?_)
          clear hK K
          refine norm_ (a' := ?_) ?_ ?_
          rotate_left
          · show Act.put _ (some 49) _ = _
            simp only [Act.put, List.setIfInBounds_toArray, List.set_cons_zero, List.set_cons_succ, i64_w, i32_w]
            rfl
          refine pure_ (i := 7) (N := some 50) (v := ?_) (a' := ?_) #[true, true, true, true, true, true, true, true, false, false, false, false, false, false, false, false, false, false, false, false, false, false, false, false, false, false, false, false, false, false] rfl rfl (by kernel_rfl) (fun _ _ _ h => h) (Or.inl ⟨by rfl, ?_⟩) ?_ ?_
          rotate_left
          · intro w'
            go_simp
            with_reducible rfl
          rotate_left
          · simp only [Act.put, List.setIfInBounds_toArray, List.set_cons_zero, List.set_cons_succ, i64_w, i32_w]
            rfl
          refine pure_ (i := 8) (N := some 51) (v := ?_) (a' := ?_) #[true, true, true, true, true, true, true, true, true, false, false, false, false, false, false, false, false, false, false, false, false, false, false, false, false, false, false, false, false, false] rfl rfl (by kernel_rfl) (fun _ _ _ h => h) (Or.inl ⟨by rfl, ?_⟩) ?_ ?_
          rotate_left
          · intro w'
            go_simp
            with_reducible rfl
          rotate_left
          · simp only [Act.put, List.setIfInBounds_toArray, List.set_cons_zero, List.set_cons_succ, i64_w, i32_w]
            rfl
          refine pure_ (i := 9) (N := some 52) (v := undef) (a' := ?_) #[true, true, true, true, true, true, true, true, true, true, false, false, false, false, false, false, false, false, false, false, false, false, false, false, false, false, false, false, false, false] rfl rfl (by kernel_rfl) (fun _ _ _ h => h) (Or.inr ⟨by rfl, rfl⟩) ?_ ?_
          rotate_left
          · simp only [Act.put, List.setIfInBounds_toArray, List.set_cons_zero, List.set_cons_succ, i64_w, i32_w]
            rfl
          refine pure_ (i := 10) (N := some 53) (v := undef) (a' := ?_) #[true, true, true, true, true, true, true, true, true, true, true, false, false, false, false, false, false, false, false, false, false, false, false, false, false, false, false, false, false, false] rfl rfl (by kernel_rfl) (fun _ _ _ h => h) (Or.inr ⟨by rfl, rfl⟩) ?_ ?_
          rotate_left
          · simp only [Act.put, List.setIfInBounds_toArray, List.set_cons_zero, List.set_cons_succ, i64_w, i32_w]
            rfl
          refine pure_ (i := 11) (N := some 54) (v := undef) (a' := ?_) #[true, true, true, true, true, true, true, true, true, true, true, true, false, false, false, false, false, false, false, false, false, false, false, false, false, false, false, false, false, false] rfl rfl (by kernel_rfl) (fun _ _ _ h => h) (Or.inr ⟨by rfl, rfl⟩) ?_ ?_
          rotate_left
          · simp only [Act.put, List.setIfInBounds_toArray, List.set_cons_zero, List.set_cons_succ, i64_w, i32_w]
            rfl
          refine pure_ (i := 12) (N := some 55) (v := undef) (a' := ?_) #[true, true, true, true, true, true, true, true, true, true, true, true, true, false, false, false, false, false, false, false, false, false, false, false, false, false, false, false, false, false] rfl rfl (by kernel_rfl) (fun _ _ _ h => h) (Or.inr ⟨by rfl, rfl⟩) ?_ ?_
          rotate_left
          · simp only [Act.put, List.setIfInBounds_toArray, List.set_cons_zero, List.set_cons_succ, i64_w, i32_w]
            rfl
          refine pure_ (i := 13) (N := some 56) (v := undef) (a' := ?_) #[true, true, true, true, true, true, true, true, true, true, true, true, true, true, false, false, false, false, false, false, false, false, false, false, false, false, false, false, false, false] rfl rfl (by kernel_rfl) (fun _ _ _ h => h) (Or.inr ⟨by rfl, rfl⟩) ?_ ?_
          rotate_left
          · simp only [Act.put, List.setIfInBounds_toArray, List.set_cons_zero, List.set_cons_succ, i64_w, i32_w]
            rfl
          refine pure_ (i := 14) (N := some 57) (v := undef) (a' := ?_) #[true, true, true, true, true, true, true, true, true, true, true, true, true, true, true, false, false, false, false, false, false, false, false, false, false, false, false, false, false, false] rfl rfl (by kernel_rfl) (fun _ _ _ h => h) (Or.inr ⟨by rfl, rfl⟩) ?_ ?_
          rotate_left
          · simp only [Act.put, List.setIfInBounds_toArray, List.set_cons_zero, List.set_cons_succ, i64_w, i32_w]
            rfl
          refine pure_ (i := 15) (N := some 58) (v := undef) (a' := ?_) #[true, true, true, true, true, true, true, true, true, true, true, true, true, true, true, true, false, false, false, false, false, false, false, false, false, false, false, false, false, false] rfl rfl (by kernel_rfl) (fun _ _ _ h => h) (Or.inr ⟨by rfl, rfl⟩) ?_ ?_
          rotate_left
          · simp only [Act.put, List.setIfInBounds_toArray, List.set_cons_zero, List.set_cons_succ, i64_w, i32_w]
            rfl
          refine pure_ (i := 16) (N := some 59) (v := undef) (a' := ?_) #[true, true, true, true, true, true, true, true, true, true, true, true, true, true, true, true, true, false, false, false, false, false, false, false, false, false, false, false, false, false] rfl rfl (by kernel_rfl) (fun _ _ _ h => h) (Or.inr ⟨by rfl, rfl⟩) ?_ ?_
          rotate_left
          · simp only [Act.put, List.setIfInBounds_toArray, List.set_cons_zero, List.set_cons_succ, i64_w, i32_w]
            rfl
          refine pure_ (i := 17) (N := some 60) (v := undef) (a' := ?_) #[true, true, true, true, true, true, true, true, true, true, true, true, true, true, true, true, true, true, false, false, false, false, false, false, false, false, false, false, false, false] rfl rfl (by kernel_rfl) (fun _ _ _ h => h) (Or.inr ⟨by rfl, rfl⟩) ?_ ?_
          rotate_left
          · simp only [Act.put, List.setIfInBounds_toArray, List.set_cons_zero, List.set_cons_succ, i64_w, i32_w]
            rfl
          refine pure_ (i := 18) (N := some 61) (v := ?_) (a' := ?_) #[true, true, true, true, true, true, true, true, true, true, true, true, true, true, true, true, true, true, true, false, false, false, false, false, false, false, false, false, false, false] rfl rfl (by kernel_rfl) (fun _ _ _ h => h) (Or.inl ⟨by rfl, ?_⟩) ?_ ?_
          rotate_left
          · intro w'
            go_simp
            with_reducible rfl
          rotate_left
          · simp only [Act.put, List.setIfInBounds_toArray, List.set_cons_zero, List.set_cons_succ, i64_w, i32_w]
            rfl
          refine pure_ (i := 19) (N := some 62) (v := ?_) (a' := ?_) #[true, true, true, true, true, true, true, true, true, true, true, true, true, true, true, true, true, true, true, true, false, false, false, false, false, false, false, false, false, false] rfl rfl (by kernel_rfl) (fun _ _ _ h => h) (Or.inl ⟨by rfl, ?_⟩) ?_ ?_
          rotate_left
          · intro w'
            go_simp
            with_reducible rfl
          rotate_left
          · simp only [Act.put, List.setIfInBounds_toArray, List.set_cons_zero, List.set_cons_succ, i64_w, i32_w]
            rfl
          refine pure_ (i := 20) (N := some 63) (v := undef) (a' := ?_) #[true, true, true, true, true, true, true, true, true, true, true, true, true, true, true, true, true, true, true, true, true, false, false, false, false, false, false, false, false, false] rfl rfl (by kernel_rfl) (fun _ _ _ h => h) (Or.inr ⟨by rfl, rfl⟩) ?_ ?_
          rotate_left
          · simp only [Act.put, List.setIfInBounds_toArray, List.set_cons_zero, List.set_cons_succ, i64_w, i32_w]
            rfl
          refine pure_ (i := 21) (N := some 64) (v := undef) (a' := ?_) #[true, true, true, true, true, true, true, true, true, true, true, true, true, true, true, true, true, true, true, true, true, true, false, false, false, false, false, false, false, false] rfl rfl (by kernel_rfl) (fun _ _ _ h => h) (Or.inr ⟨by rfl, rfl⟩) ?_ ?_
          rotate_left
          · simp only [Act.put, List.setIfInBounds_toArray, List.set_cons_zero, List.set_cons_succ, i64_w, i32_w]
            rfl
          refine pure_ (i := 22) (N := some 65) (v := undef) (a' := ?_) #[true, true, true, true, true, true, true, true, true, true, true, true, true, true, true, true, true, true, true, true, true, true, true, false, false, false, false, false, false, false] rfl rfl (by kernel_rfl) (fun _ _ _ h => h) (Or.inr ⟨by rfl, rfl⟩) ?_ ?_
          rotate_left
          · simp only [Act.put, List.setIfInBounds_toArray, List.set_cons_zero, List.set_cons_succ, i64_w, i32_w]
            rfl
          refine pure_ (i := 23) (N := some 66) (v := undef) (a' := ?_) #[true, true, true, true, true, true, true, true, true, true, true, true, true, true, true, true, true, true, true, true, true, true, true, true, false, false, false, false, false, false] rfl rfl (by kernel_rfl) (fun _ _ _ h => h) (Or.inr ⟨by rfl, rfl⟩) ?_ ?_
          rotate_left
          · simp only [Act.put, List.setIfInBounds_toArray, List.set_cons_zero, List.set_cons_succ, i64_w, i32_w]
            rfl
          refine pure_ (i := 24) (N := some 67) (v := undef) (a' := ?_) #[true, true, true, true, true, true, true, true, true, true, true, true, true, true, true, true, true, true, true, true, true, true, true, true, true, false, false, false, false, false] rfl rfl (by kernel_rfl) (fun _ _ _ h => h) (Or.inr ⟨by rfl, rfl⟩) ?_ ?_
          rotate_left
          · simp only [Act.put, List.setIfInBounds_toArray, List.set_cons_zero, List.set_cons_succ, i64_w, i32_w]
            rfl
          refine pure_ (i := 25) (N := some 68) (v := undef) (a' := ?_) #[true, true, true, true, true, true, true, true, true, true, true, true, true, true, true, true, true, true, true, true, true, true, true, true, true, true, false, false, false, false] rfl rfl (by kernel_rfl) (fun _ _ _ h => h) (Or.inr ⟨by rfl, rfl⟩) ?_ ?_
          rotate_left
          · simp only [Act.put, List.setIfInBounds_toArray, List.set_cons_zero, List.set_cons_succ, i64_w, i32_w]
            rfl
          refine pure_ (i := 26) (N := some 69) (v := undef) (a' := ?_) #[true, true, true, true, true, true, true, true, true, true, true, true, true, true, true, true, true, true, true, true, true, true, true, true, true, true, true, false, false, false] rfl rfl (by kernel_rfl) (fun _ _ _ h => h) (Or.inr ⟨by rfl, rfl⟩) ?_ ?_
          rotate_left
          · simp only [Act.put, List.setIfInBounds_toArray, List.set_cons_zero, List.set_cons_succ, i64_w, i32_w]
            rfl
          refine pure_ (i := 27) (N := some 70) (v := undef) (a' := ?_) #[true, true, true, true, true, true, true, true, true, true, true, true, true, true, true, true, true, true, true, true, true, true, true, true, true, true, true, true, false, false] rfl rfl (by kernel_rfl) (fun _ _ _ h => h) (Or.inr ⟨by rfl, rfl⟩) ?_ ?_
          rotate_left
          · simp only [Act.put, List.setIfInBounds_toArray, List.set_cons_zero, List.set_cons_succ, i64_w, i32_w]
            rfl
          refine pure_ (i := 28) (N := some 71) (v := ?_) (a' := ?_) #[true, true, true, true, true, true, true, true, true, true, true, true, true, true, true, true, true, true, true, true, true, true, true, true, true, true, true, true, true, false] rfl rfl (by kernel_rfl) (fun _ _ _ h => h) (Or.inl ⟨by rfl, ?_⟩) ?_ ?_
          rotate_left
          · intro w'
            go_simp
            with_reducible rfl
          rotate_left
          · simp only [Act.put, List.setIfInBounds_toArray, List.set_cons_zero, List.set_cons_succ, i64_w, i32_w]
            rfl
          refine pure_ (i := 29) (N := some 5) (v := ?_) (a' := ?_) #[true, true, true, true, true, true, true, true, true, true, true, true, true, true, true, true, true, true, true, true, true, true, true, true, true, true, true, true, true, true] rfl rfl (by kernel_rfl) (fun _ _ _ h => h) (Or.inl ⟨by rfl, ?_⟩) ?_ ?_
          rotate_left
          · intro w'
            go_simp
            with_reducible rfl
          rotate_left
          · simp only [Act.put, List.setIfInBounds_toArray, List.set_cons_zero, List.set_cons_succ, i64_w, i32_w]
            rfl
          refine done_ (by kernel_rfl) ?_
          go_wp2_with fail
          go_roundg (gk - 1)
          case measure => have := HR.out.2; omega
          case rel =>
            have hw : wrap64 ((j : Int) + 1) = ((j + 1 : Nat) : Int) := by have := HF.out; have := HR.out.2; unfold wrap64; omega
            try rw [hw]
            exact ⟨j + 1, rfl, by have := HR.out.2; omega, SPN.first hz6, by rw [HQ.out]⟩
    · have q2 : ¬ (j : Int) < (b.f4.length : Int) := by omega
      have q4 : decide ((j : Int) < (b.f4.length : Int)) = false := decide_eq_false q2
      have q5 : decide (j < b.f4.length) = false := decide_eq_false hlt
      have HE : Hid ((b.f4.zip b.f5).take j = b.f4.zip b.f5) := Lib.hid (zip_full HF.out.1 (by omega))
      have HR := Lib.hid hbr
      obtain ⟨bv, hbv⟩ : ∃ bv, bv = (b.f4.zip b.f5).all fun p => conK a.f4 a.f5 p.1 p.2 := ⟨_, rfl⟩
      rw [HE.out, ← hbv]
      have HCO : Hid (∀ w1, Below w.heap.size w w1 → Calls Tryz.prog 20 #[.agg #[.int .i64 a.f0, .int .i64 a.f1, .string a.f2, .slice A3a a.f3.length a3a, .slice A4a a.f4.length a4a, .slice A5a a.f5.length a5a], .agg #[.int .i64 b.f0, .int .i64 b.f1, .string b.f2, .slice A3b b.f3.length a3b, .slice A4b b.f4.length a4b, .slice A5b b.f5.length a5b]] w1 fun e w' => e = .returned (resB bv) ∧ Below w1.heap.size w1 w') := Lib.hid (fun w1 hb => con_vals w a b _ _ _ _ _ _ _ _ _ _ _ _ _ _ _ _ _ _ _ _ _ _ _ _ HT.out HTQ.out HWA.out HS.out.1.1 HS.out.1.2 HWB.out HS.out.2.1 HS.out.2.2 bv (by rw [hbv]; exact con_maps HWA.out HWB.out KA.out KB.out) w1 hb)
      have ya := six_cells (HR.out.1.get 0 rfl)
      have yb := six_cells (HR.out.1.get 1 rfl)
      clear hbv hbr hkj hlt q2
      go_wp2_with fail
      refine (HCO.out _ HR.out.1.1).mono ?_
      rintro e w6 ⟨rfl, hb⟩
      have H6 := Lib.hid (SPN.below HR.out hb)
      clear hb ya yb
      go_wp2_with fail
      refine (lc_bool _ _).mono ?_
      rintro e w7 ⟨rfl, hb⟩
      have H7 := Lib.hid (SPN.below H6.out hb)
      clear hb
      go_wp2_with fail
      refine (lc_given _ _).mono ?_
      rintro e w8 ⟨rfl, hb⟩
      have H8 := Lib.hid (SPN.below H7.out hb)
      clear hb
      go_wp2_with fail
      go_ret
      exact ⟨rfl, H8.out.1.1⟩
theorem fnContainsKeys_any (w0 : World) (hE : Env w0) (xa : V) (hza : Sz xa ∧ Tz xa) (Ka Ha : Int) (sa : ByteArray) (A3a A4a A5a : Option Addr) (n3a c3a n4a c4a n5a c5a : Nat) (hKa : k26.K w0 xa [.int .i64 Ka, .int .i64 Ha, .string sa, .slice A3a n3a c3a, .slice A4a n4a c4a, .slice A5a n5a c5a]) (xb : V) (hzb : Sz xb ∧ Tz xb) (Kb Hb : Int) (sb : ByteArray) (A3b A4b A5b : Option Addr) (n3b c3b n4b c4b n5b c5b : Nat) (hKb : k26.K w0 xb [.int .i64 Kb, .int .i64 Hb, .string sb, .slice A3b n3b c3b, .slice A4b n4b c4b, .slice A5b n5b c5b]) :
    Calls Tryz.prog 6 #[.agg #[.int .i64 Ka, .int .i64 Ha, .string sa, .slice A3a n3a c3a, .slice A4a n4a c4a, .slice A5a n5a c5a], .agg #[.int .i64 Kb, .int .i64 Hb, .string sb, .slice A3b n3b c3b, .slice A4b n4b c4b, .slice A5b n5b c5b]] w0 fun e w' => e = .returned (.bool true) ∧ Below w0.heap.size w0 w' := by
  have hKa' := hKa
  obtain ⟨_, _, _, _, _, _, hea, _⟩ := k26_open hKa
  simp only [List.cons.injEq, Value.int.injEq, Value.string.injEq, Value.slice.injEq, true_and, and_true] at hea
  obtain ⟨rfl, rfl, rfl, ⟨rfl, rfl, rfl⟩, ⟨rfl, rfl, rfl⟩, ⟨rfl, rfl, rfl⟩⟩ := hea
  have hKb' := hKb
  obtain ⟨_, _, _, _, _, _, heb, _⟩ := k26_open hKb
  simp only [List.cons.injEq, Value.int.injEq, Value.string.injEq, Value.slice.injEq, true_and, and_true] at heb
  obtain ⟨rfl, rfl, rfl, ⟨rfl, rfl, rfl⟩, ⟨rfl, rfl, rfl⟩, ⟨rfl, rfl, rfl⟩⟩ := heb
  exact core_keys w0 hE xa hza _ _ _ _ _ _ hKa' xb hzb _ _ _ _ _ _ hKb'
end Go.Proofs.YtcoahpcjhhnkkaaGreatDoor.ValA
