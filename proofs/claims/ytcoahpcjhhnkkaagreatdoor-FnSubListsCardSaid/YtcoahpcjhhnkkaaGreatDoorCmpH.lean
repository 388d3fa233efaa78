/-
gojq.Compare at any two values of JSON gives their order.
-/
import Derived.Test.YtcoahpcjhhnkkaaGreatDoorCmpG
set_option linter.unusedSimpArgs false
set_option linter.unusedVariables false
namespace Go.Proofs.YtcoahpcjhhnkkaaGreatDoor.NumA
open Go.RowKit Go.Lib Go.Proofs.YtcoahpcjhhnkkaaGreatDoor.ValA Go.Proofs.YtcoahpcjhhnkkaaGreatDoor.FloH Go.Proofs.YtcoahpcjhhnkkaaGreatDoorW.PrintWords Go.Proofs.YtcoahpcjhhnkkaaGreatDoorW.PrintLast Go.Proofs.YtcoahpcjhhnkkaaGreatDoorW.PrintMore Go.Proofs.YtcoahpcjhhnkkaaGreatDoor.PzzFits1
theorem compare_low (l r : Value) (a : Int) (hl : Cl a l) (hr : Cl a r) (ha : a ≤ 2) (w : World) : Calls Tryz.prog 38 #[l, r] w (Gz 0 w) := by
  refine compare_of _ _ _ w ?_
  have hf : ∀ w, Calls Tryz.prog 72 #[l, r] w fun e w' => e = .returned (.int .i64 0) ∧ Below w.heap.size w w' := fun w => by
    have h := fallback l r a a hl hr w
    rwa [Int.sub_self] at h
  cases hl with
  | nil => exact bo_nil 0 r hr.noJ hf w
  | no => exact bo_bool 0 false r hr.noJ hf w
  | yes => exact bo_bool 0 true r hr.noJ hf w
  | int n => omega
  | flt n => omega
  | str s => omega
  | list A n => omega
  | map b => omega
theorem compare_any : ∀ (N : Nat) (x : V), SizeOf.sizeOf x < N → WL x → Sz x → ∀ (y : V), WL y → Sz y → ∀ (g h : Value) (n m : Nat) (w : World), G n w x g → G m w y h → Calls Tryz.prog 38 #[g, h] w (Gz (cmpV x y) w)
  | 0, _, h, _, _, _, _, _, _, _, _, _, _, _, _ => absurd h (Nat.not_lt_zero _)
  | N + 1, x, hN, hx, zx, y, hy, zy, g, h, n, m, w, hg, hh => by
    obtain ⟨f0, f6, fj, f45⟩ := wf_facts hx
    obtain ⟨h0, h6, hj, h45⟩ := wf_facts hy
    obtain ⟨_, _, _, n3, n4, hk, w3, w5⟩ := hx
    obtain ⟨_, _, _, p3, p4, hk', v3, v5⟩ := hy
    obtain ⟨_, _, z4, z3, z5⟩ := zx
    obtain ⟨_, _, y4, y3, y5⟩ := zy
    have ih3 : ∀ a ∈ x.f3, ∀ b ∈ y.f3, ∀ g h n m w, G n w a g → G m w b h → Calls Tryz.prog 38 #[g, h] w (Gz (cmpV a b) w) := fun a ha b hb => compare_any N a (by
      have h1 := List.sizeOf_lt_of_mem ha
      have h2 := size3 x
      omega) (w3 a ha) (z3 a ha) b (v3 b hb) (y3 b hb)
    have ih5 : ∀ a ∈ x.f5, ∀ b ∈ y.f5, ∀ g h n m w, G n w a g → G m w b h → Calls Tryz.prog 38 #[g, h] w (Gz (cmpV a b) w) := fun a ha b hb => compare_any N a (by
      have h1 := List.sizeOf_lt_of_mem ha
      have h2 := size5 x
      omega) (w5 a ha) (z5 a ha) b (v5 b hb) (y5 b hb)
    rw [cmpV_eq]
    by_cases e : x.f0 = y.f0
    · rw [if_neg (by simpa using e)]
      have hc : x.f0 ≤ 2 ∨ x.f0 = 3 ∨ x.f0 = 4 ∨ x.f0 = 5 ∨ x.f0 = 6 := by omega
      rcases hc with c | c | c | c | c
      · rw [if_neg (by omega), if_neg (by omega), if_neg (by omega), if_neg (by omega)]
        exact compare_low g h x.f0 (hg.cl f0) (e ▸ hh.cl h0) c w
      · rw [if_pos c, hg.flat_inv (by omega), hh.flat_inv (by omega), ← e, c]
        exact cmp_nums _ _ fj hj w
      · rw [if_neg (by omega), if_pos c, hg.flat_inv (by omega), hh.flat_inv (by omega), ← e, c]
        exact compare_strs _ _ w
      · rw [if_neg (by omega), if_neg (by omega), if_pos c]
        obtain ⟨b, l, rfl, _, hl, hw, he⟩ := hg.list_inv c
        obtain ⟨b', l', rfl, _, hl', hw', he'⟩ := hh.list_inv (e ▸ c)
        refine cmp_lists_any w b b' _ _ x.f3 y.f3 l l' rfl rfl n3 p3 hl hl' hw hw' fun j v u hv hu w' hb => ?_
        have hj1 : j < x.f3.length := by have := (List.getElem?_eq_some_iff.1 hv).1; omega
        have hj2 : j < y.f3.length := by have := (List.getElem?_eq_some_iff.1 hu).1; omega
        exact ih3 _ (rd_mem x.f3 j hj1) _ (rd_mem y.f3 j hj2) v u n m w' ((he j _ v (rd_at x.f3 j hj1) hv).keepB hb) ((he' j _ u (rd_at y.f3 j hj2) hu).keepB hb)
      · rw [if_neg (by omega), if_neg (by omega), if_neg (by omega), if_pos c]
        obtain ⟨b, es, cb, rfl, _, hl, hw, hst, hkey, he⟩ := hg.map_inv c
        obtain ⟨b', es', cb', rfl, _, hl', hw', hst', hkey', he'⟩ := hh.map_inv (e ▸ c)
        refine compare_of _ _ _ w (bin_cmp_mm _ _ _ w (cmp_maps_at w b b' cb cb' x.f4.length y.f4.length es es' x.f4 y.f4 x.f5 y.f5 rfl rfl n4 p4 f45.symm h45.symm hw hst ⟨hl, hkey, z4⟩ hk hw' hst' ⟨hl', hkey', y4⟩ hk' fun j e1 e2 hv hkv hu hku hj1 hj2 w' hb => ?_))
        exact ih5 _ (rd_mem x.f5 j hj1) _ (rd_mem y.f5 j hj2) _ _ n m w' ((he j _ _ e1 (key_rd x.f4 j (by omega)) (rd_at x.f5 j hj1) hv hkv).keepB hb) ((he' j _ _ e2 (key_rd y.f4 j (by omega)) (rd_at y.f5 j hj2) hu hku).keepB hb)
    · rw [if_pos e]
      exact compare_dif g h _ _ (hg.cl f0) (hh.cl h0) e w
end Go.Proofs.YtcoahpcjhhnkkaaGreatDoor.NumA
