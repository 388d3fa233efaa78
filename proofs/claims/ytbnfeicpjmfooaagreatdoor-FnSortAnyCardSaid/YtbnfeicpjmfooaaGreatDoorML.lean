/-
Parts of the proof, one behind the other: AppL.
-/
import Derived.Test.YtbnfeicpjmfooaaGreatDoorME
import Derived.Test.YtbnfeicpjmfooaaGreatDoorMD
/-
A list of values appended to a slice that is owned.
-/
set_option linter.unusedSimpArgs false
set_option linter.unusedVariables false
namespace Go.Proofs.YtbnfeicpjmfooaaGreatDoor.NumA
open Go.RowKit Go.Lib Go.Proofs.YtbnfeicpjmfooaaGreatDoor.ValA Go.Proofs.YtbnfeicpjmfooaaGreatDoor.FloH Go.Proofs.YtbnfeicpjmfooaaGreatDoorW.PrintWords Go.Proofs.YtbnfeicpjmfooaaGreatDoorW.PrintLast Go.Proofs.YtbnfeicpjmfooaaGreatDoorW.PrintMore Go.Proofs.YtbnfeicpjmfooaaGreatDoor.PzzFits1
theorem info_val2 : (Tryz.prog.info? 26).map (fun i => (i.zero, i.size, i.bytes)) = some (some (.agg #[.int .i64 0, .int .i64 0, .string ⟨#[]⟩, .slice none 0 0, .slice none 0 0, .slice none 0 0]), 6, 104) := by kernel_rfl
/-- v owns a row in which the values xs stand; each of them can be read since W0. -/
def OwnL (W0 : World) (v : Value) (xs : List V) (W : World) : Prop := OwnRow (k26.K W0) 26 6 W W0.heap.size v xs ∧ Below W0.heap.size W0 W
theorem OwnL.lit0 {W0 W : World} (hb : Below W0.heap.size W0 W) : OwnL W0 (.slice (some ⟨W.heap.size, 0, none⟩) 0 0) [] (W.alloc (.cells #[] 26)) :=
  ⟨OwnRow.lit W W0.heap.size (Reps.none _ _) hb.size (by simp), hb.alloc hb.size _⟩
theorem OwnL.below {W0 W W1 : World} {v : Value} {xs : List V} (h : OwnL W0 v xs W) (hb : Below W.heap.size W W1) : OwnL W0 v xs W1 := ⟨h.1.below hb, h.2.trans (hb.mono h.2.size)⟩
theorem OwnL.row {W0 W : World} {v : Value} {xs : List V} (h : OwnL W0 v xs W) : ∃ A c, v = .slice A xs.length c ∧ xs.length ≤ c ∧ Kd.C k26 W A xs.length xs := by
  obtain ⟨A, c, e, hle, hr⟩ := h.1.reads
  exact ⟨A, c, e, hle, hr.imp_ (Below.refl _ W) (fun p cs hp => k26.K_below h.2 hp)⟩
theorem OwnL.appended {W0 W : World} {v : Value} {xs ys : List V} (h : OwnL W0 v xs W) {A : Option Addr} {m c : Nat} (hC : Kd.C k26 W0 A m ys) (hl : (xs.length + m) * 104 ≤ 140737488355328) :
    ∃ v1 w1, (Builtin.append_ #[22, 22] 22 #[v, .slice A m c]).run Tryz.prog W = .ok v1 w1 ∧ OwnL W0 v1 (xs ++ ys) w1 := by
  obtain ⟨⟨inner, hown, hr⟩, hb⟩ := h
  obtain ⟨i0, hi, hzz⟩ := Option.map_eq_some_iff.1 info_val2
  simp only [Prod.mk.injEq] at hzz
  obtain ⟨hz0, hz1, hz2⟩ := hzz
  have ht := Tryz.underlying22
  have HR : ReadsRow (k26.K W0) 6 W A m ys := ReadsRow.imp_ hC hb (fun _ _ h => h)
  have hm : ys.length = m := HR.1
  rcases A with _ | ad
  · have h0 : m = 0 := by
      rcases Nat.eq_zero_or_pos m with h0 | h0
      · exact h0
      · obtain ⟨ad, h, _⟩ := HR.2.2 h0
        cases h
    subst h0
    obtain rfl : ys = [] := List.eq_nil_of_length_eq_zero hm
    refine ⟨v, W, ?_, by rw [List.append_nil]; exact ⟨⟨inner, hown, hr⟩, hb⟩⟩
    rcases hown.2 with ⟨rfl, hn⟩ | ⟨g, cap, cur, rfl, _, _, hnc, _⟩
    · simp [Builtin.append_, run_underlying ht, sizeOf, typeInfo, hi, Builtin.lenOf, Builtin.firstCells]
    · simp [Builtin.append_, run_underlying ht, sizeOf, typeInfo, hi, Builtin.lenOf, Builtin.firstCells, hnc, storeCells]
  · obtain ⟨news, hnr, hnc⟩ := ReadsRow.inner_ HR
    have hone : ∀ u ∈ news, u.oneCell' = true := by
      intro u hu
      obtain ⟨q, hq, rfl⟩ := List.mem_iff_getElem.1 hu
      have hql : q / 6 < ys.length := by
        rw [Nat.div_lt_iff_lt_mul (by omega), ← hnr.1]
        exact hq
      have hc := hnr.2 (q / 6) _ (List.getElem?_eq_getElem hql)
      refine k26.K_one hc _ ?_
      rw [List.mem_iff_getElem?]
      refine ⟨q % 6, ?_⟩
      rw [List.getElem?_take, if_pos (Nat.mod_lt _ (by omega)), List.getElem?_drop, Nat.mul_comm, Nat.div_add_mod, List.getElem?_eq_getElem hq]
    obtain ⟨v1, w1, hrun, h2, hg, _, hat⟩ := run_append_own_at (P := Tryz.prog) W W0.heap.size 22 22 26 i0 _ 6 104 ht hi hz0 hz1 hz2 rfl (by decide) v xs.length inner hown ad m c news (by rw [hnr.1, hm]) hnc hone (by simp only [maxLen]; omega) hl hb.size
    refine ⟨v1, w1, hrun, ⟨inner ++ news, by rw [List.length_append, hm]; exact h2, Kd.reps_append hr hnr⟩, hb.grown hg hb.size (fun k hk => ?_)⟩
    rcases hown.2 with ⟨rfl, hn⟩ | ⟨g, cap, cur, rfl, hbg, _⟩
    · simp [Value.ownBlock] at hk
    · obtain rfl : g = k := by simpa [Value.ownBlock] using hk
      exact hbg
section
variable {P : Program} {ops : Array Oper} {Q : Exit → Act → World → Prop}
end
end Go.Proofs.YtbnfeicpjmfooaaGreatDoor.NumA
