/-
impl.toGo at any value of JSON.
-/
import Derived.Test.YtdcgjfiknknjfaaGreatDoorGoN
set_option linter.unusedSimpArgs false
set_option linter.unusedVariables false
namespace Go.Proofs.YtdcgjfiknknjfaaGreatDoor.NumA
open Go.RowKit Go.Lib Go.Proofs.YtdcgjfiknknjfaaGreatDoor.ValA Go.Proofs.YtdcgjfiknknjfaaGreatDoor.FloH Go.Proofs.YtdcgjfiknknjfaaGreatDoorW.PrintWords Go.Proofs.YtdcgjfiknknjfaaGreatDoorW.PrintLast Go.Proofs.YtdcgjfiknknjfaaGreatDoorW.PrintMore Go.Proofs.YtdcgjfiknknjfaaGreatDoor.PzzFits1
theorem wf_facts {x : V} (h : WF x) : 0 ≤ x.f0 ∧ x.f0 ≤ 6 ∧ JN x.f1 ∧ x.f4.length = x.f5.length := by
  obtain ⟨_, h1, h2, _⟩ := h
  unfold c1B at h1
  unfold c2B at h2
  simp only [Bool.and_eq_true, Bool.or_eq_true, decide_eq_true_eq, beq_iff_eq] at h1 h2
  refine ⟨h1.1.1.1.1.1.1, h1.1.1.1.1.1.2, ⟨h2.1, ?_⟩, h1.2⟩
  rcases h2.2 with e | e
  · left
    exact Int.emod_eq_zero_of_dvd (Int.dvd_of_tmod_eq_zero e)
  · exact .inr e
set_option maxRecDepth 100000 in
theorem toGo_list (w0 : World) (x : V) (hk : x.f0 = 5) (A3 A4 A5 : Option Addr) (c3 c4 c5 : Nat) (H : ∀ w, Below w0.heap.size w0 w → Calls Tryz.prog 61 #[.slice A3 x.f3.length c3] w (ListGo w x.f3 x.f3.length)) :
    ToGo w0 x [.int .i64 x.f0, .int .i64 x.f1, .string x.f2, .slice A3 x.f3.length c3, .slice A4 x.f4.length c4, .slice A5 x.f5.length c5] := by
  intro w hb
  have HH := Lib.hid (H _ (hb.trans (((Below.refl _ w).alloc (Nat.le_refl _) (.cells #[.int .i64 x.f0, .int .i64 x.f1, .string x.f2, .slice A3 x.f3.length c3, .slice A4 x.f4.length c4, .slice A5 x.f5.length c5] 26)).mono hb.size)))
  have HX := Lib.hid hk
  clear H hb hk
  obtain ⟨k, hkk⟩ : ∃ k, k = x.f0 := ⟨_, rfl⟩
  have hk5 : k = 5 := by rw [hkk]; exact HX.out
  show Calls Tryz.prog 41 #[.agg #[.int .i64 x.f0, .int .i64 x.f1, .string x.f2, .slice A3 x.f3.length c3, .slice A4 x.f4.length c4, .slice A5 x.f5.length c5]] w _
  rw [← hkk] at HH ⊢
  subst hk5
  clear hkk
  go_enter Tryz.func41, Tryz.ntmps41
  go_wp2_with fail
  refine HH.out.mono ?_
  rintro e w1 ⟨b, vs, rfl, hle, hvl, hbl, hG, hbb⟩
  have F := Lib.hid (show G w.heap.size w1 x (.iface 62 (.slice (some ⟨b, 0, none⟩) x.f3.length x.f3.length)) ∧ Below w.heap.size w w1 from
    ⟨.list x HX.out b vs (by rw [World.size_alloc] at hle; omega) hvl hbl (fun i y v hy hv => (hG i y v hy hv).mono (by rw [World.size_alloc]; omega)), ((Below.refl _ w).alloc (Nat.le_refl _) _).trans (hbb.mono (by rw [World.size_alloc]; omega))⟩)
  clear hle hvl hbl hG hbb
  go_wp2_with fail
  go_ret2
  exact ⟨_, rfl, F.out⟩
set_option maxRecDepth 100000 in
theorem toGo_map (w0 : World) (x : V) (hk : x.f0 = 6) (A3 A4 A5 : Option Addr) (c3 c4 c5 : Nat) (H : ∀ w, Below w0.heap.size w0 w → Calls Tryz.prog 62 #[.agg #[.int .i64 x.f0, .int .i64 x.f1, .string x.f2, .slice A3 x.f3.length c3, .slice A4 x.f4.length c4, .slice A5 x.f5.length c5]] w (MapGo w x.f4 x.f5)) :
    ToGo w0 x [.int .i64 x.f0, .int .i64 x.f1, .string x.f2, .slice A3 x.f3.length c3, .slice A4 x.f4.length c4, .slice A5 x.f5.length c5] := by
  intro w hb
  have HH := Lib.hid (H _ (hb.trans (((Below.refl _ w).alloc (Nat.le_refl _) (.cells #[.int .i64 x.f0, .int .i64 x.f1, .string x.f2, .slice A3 x.f3.length c3, .slice A4 x.f4.length c4, .slice A5 x.f5.length c5] 26)).mono hb.size)))
  have HX := Lib.hid hk
  clear H hb hk
  obtain ⟨k, hkk⟩ : ∃ k, k = x.f0 := ⟨_, rfl⟩
  have hk5 : k = 6 := by rw [hkk]; exact HX.out
  show Calls Tryz.prog 41 #[.agg #[.int .i64 x.f0, .int .i64 x.f1, .string x.f2, .slice A3 x.f3.length c3, .slice A4 x.f4.length c4, .slice A5 x.f5.length c5]] w _
  rw [← hkk] at HH ⊢
  subst hk5
  clear hkk
  go_enter Tryz.func41, Tryz.ntmps41
  go_wp2_with fail
  refine HH.out.mono ?_
  rintro e w1 ⟨b, es, c, rfl, hle, hvl, hbl, hkey, hG, hbb⟩
  have F := Lib.hid (show G w.heap.size w1 x (.iface 65 (.map (some b))) ∧ Below w.heap.size w w1 from
    ⟨.map x HX.out b es c (by rw [World.size_alloc] at hle; omega) hvl hbl hkey (fun i y v hy hv => (hG i y v hy hv).mono (by rw [World.size_alloc]; omega)), ((Below.refl _ w).alloc (Nat.le_refl _) _).trans (hbb.mono (by rw [World.size_alloc]; omega))⟩)
  clear hle hvl hbl hG hbb hkey
  go_wp2_with fail
  go_ret2
  exact ⟨_, rfl, F.out⟩
theorem toGo_flat (w0 : World) (x : V) (h0 : 0 ≤ x.f0) (hk : x.f0 ≤ 4) (hj : JN x.f1) (A3 A4 A5 : Option Addr) (c3 c4 c5 : Nat) :
    ToGo w0 x [.int .i64 x.f0, .int .i64 x.f1, .string x.f2, .slice A3 x.f3.length c3, .slice A4 x.f4.length c4, .slice A5 x.f5.length c5] := by
  intro w hb
  have r : ∃ r : Rest, r = ⟨x.f2, A3, x.f3.length, c3, A4, x.f4.length, c4, A5, x.f5.length, c5⟩ := ⟨_, rfl⟩
  obtain ⟨r, hr⟩ := r
  have hs : r.s = x.f2 := by rw [hr]
  have e : (Value.agg (List.toArray [.int .i64 x.f0, .int .i64 x.f1, .string x.f2, .slice A3 x.f3.length c3, .slice A4 x.f4.length c4, .slice A5 x.f5.length c5])) = vl x.f0 x.f1 r := by rw [hr]; rfl
  rw [e]
  have hG : G w.heap.size w x (fg x.f0 x.f1 x.f2) := .flat x hk
  have key : Calls Tryz.prog 41 #[vl x.f0 x.f1 r] w fun e w' => e = .returned (.tuple #[fg x.f0 x.f1 x.f2, .bool true]) ∧ Below w.heap.size w w' := by
    have hc : x.f0 = 0 ∨ x.f0 = 1 ∨ x.f0 = 2 ∨ x.f0 = 3 ∨ x.f0 = 4 := by omega
    rcases hc with c | c | c | c | c <;> rw [c]
    · exact toGo_null _ r w
    · exact toGo_no _ r w
    · exact toGo_yes _ r w
    · exact toGo_jn _ r hj w
    · rw [← hs]; exact toGo_text _ r w
  refine key.mono ?_
  rintro e w1 ⟨rfl, hbb⟩
  exact ⟨_, rfl, hG.keepB hbb, hbb⟩
theorem toGo_any (w0 : World) : ∀ (N : Nat) (x : V), SizeOf.sizeOf x < N → Sz x → WF x → ∀ cs, k26.K w0 x cs → ToGo w0 x cs
  | 0, _, h, _, _, _, _ => absurd h (Nat.not_lt_zero _)
  | N + 1, x, hN, hz, hw, cs, hK => by
    obtain ⟨A3, c3, A4, c4, A5, c5, rfl, l3, g3, l4, g4, l5, g5⟩ := k26_open hK
    obtain ⟨f0, f6, fj, f45⟩ := wf_facts hw
    obtain ⟨_, z2, z4, z3, z5⟩ := hz
    obtain ⟨_, _, _, n3, n4, hk, w3, w5⟩ := hw
    have ih3 : ∀ y ∈ x.f3, ∀ cs, k26.K w0 y cs → ToGo w0 y cs := fun y hy cs hc => toGo_any w0 N y (by
      have h1 := List.sizeOf_lt_of_mem hy
      have h2 : SizeOf.sizeOf x.f3 < SizeOf.sizeOf x := by cases x; simp; omega
      omega) (z3 y hy) (w3 y hy) cs hc
    have ih5 : ∀ y ∈ x.f5, ∀ cs, k26.K w0 y cs → ToGo w0 y cs := fun y hy cs hc => toGo_any w0 N y (by
      have h1 := List.sizeOf_lt_of_mem hy
      have h2 : SizeOf.sizeOf x.f5 < SizeOf.sizeOf x := by cases x; simp; omega
      omega) (z5 y hy) (w5 y hy) cs hc
    have hc : x.f0 ≤ 4 ∨ x.f0 = 5 ∨ x.f0 = 6 := by omega
    rcases hc with c | c | c
    · exact toGo_flat w0 x f0 c fj A3 A4 A5 c3 c4 c5
    · exact toGo_list w0 x c A3 A4 A5 c3 c4 c5 fun w hb => listToGo_any w0 A3 x.f3.length c3 x.f3 g3 rfl n3 ih3 w hb
    · refine toGo_map w0 x c A3 A4 A5 c3 c4 c5 fun w hb => ?_
      rw [← f45] at g5 ⊢
      exact mapToGo_any w0 x.f0 x.f1 x.f2 A3 A4 A5 x.f3.length c3 x.f4.length c4 c5 x.f4 x.f5 g4 g5 rfl f45.symm n4 z4 hk ih5 w hb
end Go.Proofs.YtdcgjfiknknjfaaGreatDoor.NumA
