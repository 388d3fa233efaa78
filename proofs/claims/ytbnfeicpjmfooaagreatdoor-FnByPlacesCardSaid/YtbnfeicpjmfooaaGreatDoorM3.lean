/-
Parts of the proof, one behind the other: SpnY, SrtK.
-/
import Derived.Test.YtbnfeicpjmfooaaGreatDoorMY
/-
Blocks of six cells that are written; null in memory.
-/
set_option linter.unusedSimpArgs false
set_option linter.unusedVariables false
namespace Go.Proofs.YtbnfeicpjmfooaaGreatDoor.ValA
open Go.RowKit Go.Lib Go.Proofs.YtbnfeicpjmfooaaGreatDoorW.PrintWords Go.Proofs.YtbnfeicpjmfooaaGreatDoorW.PrintLast Go.Proofs.YtbnfeicpjmfooaaGreatDoorW.PrintMore Go.Proofs.YtbnfeicpjmfooaaGreatDoor.PzzFits1 Go.Proofs.YtbnfeicpjmfooaaGreatDoor.NumA
section
variable {P : Program} {ops : Array Oper} {Q : Exit → Act → World → Prop}
end
end Go.Proofs.YtbnfeicpjmfooaaGreatDoor.ValA
/-
gojq's sort_by where all keys are equal: nothing changes; a row of copies.
-/
set_option linter.unusedSimpArgs false
set_option linter.unusedVariables false
namespace Go.Proofs.YtbnfeicpjmfooaaGreatDoor.NumA
open Go.RowKit Go.Lib Go.Sort Go.Proofs.YtbnfeicpjmfooaaGreatDoor.ValA Go.Proofs.YtbnfeicpjmfooaaGreatDoor.FloH Go.Proofs.YtbnfeicpjmfooaaGreatDoorW.PrintWords Go.Proofs.YtbnfeicpjmfooaaGreatDoorW.PrintLast Go.Proofs.YtbnfeicpjmfooaaGreatDoorW.PrintMore Go.Proofs.YtbnfeicpjmfooaaGreatDoor.PzzFits1 Go.Proofs.YtbnfeicpjmfooaaGreatDoor.Stb
theorem sort_same {w : World} {x k : V} {g h : Value} {n m : Nat} (nm : ByteArray) (h5 : x.f0 = 5) (hx : WL x) (zx : Sz x) (k5 : k.f0 = 5) (hk : WL k) (zk : Sz k) (hlen : k.f3.length = x.f3.length) (hall : ∀ a ∈ k.f3, ∀ b ∈ k.f3, cmpV a b = 0) (hG : G n w x g) (hH : G m w k h) :
    Calls Tryz.prog 117 #[.string nm, g, h] w (ShowsIs x w) := by
  obtain ⟨b, l, rfl, _, hl, hw, he⟩ := hG.list_inv h5
  obtain ⟨b', l', rfl, _, hl', hw', he'⟩ := hH.list_inv k5
  have hn : x.f3.length ≤ 1000000 := by cases hx; assumption
  have hm : ∀ y ∈ x.f3, WL y ∧ Sz y := fun y hy => ⟨hx.h3 y hy, sz_h3 zx y hy⟩
  have hmk : ∀ y ∈ k.f3, WL y ∧ Sz y := fun y hy => ⟨hk.h3 y hy, sz_h3 zk y hy⟩
  have hGj : ∀ (j : Nat) (v : Value), l[j]? = some v → G n w (rd_T26 x.f3 j) v := fun j v hv => he j _ v (rd_at x.f3 j (by have := (List.getElem?_eq_some_iff.1 hv).1; omega)) hv
  have hGk : ∀ (j : Nat) (v : Value), l'[j]? = some v → G m w (rd_T26 k.f3 j) v := fun j v hv => he' j _ v (rd_at k.f3 j (by have := (List.getElem?_eq_some_iff.1 hv).1; omega)) hv
  rw [hlen] at hl' ⊢
  refine (sort_by w nm b b' x.f3.length m l l' k.f3 hn hl hl' hlen hw hw' (fun v hv => by
    obtain ⟨j, hj, rfl⟩ := List.mem_iff_getElem.1 hv
    exact (hGj j _ (List.getElem?_eq_getElem hj)).shape) hmk hGk).mono ?_
  rintro e w' ⟨r, M, rfl, hr, hrow, hb, hM, hris, hst⟩
  have hR : Ris (ltI k.f3) (List.range x.f3.length) := by
    refine List.pairwise_of_forall_mem_list fun i hi j hj => ?_
    have hi := List.mem_range.1 hi
    have hj := List.mem_range.1 hj
    exact decide_eq_false (by rw [hall _ (rd_mem k.f3 j (by omega)) _ (rd_mem k.f3 i (by omega))]; omega)
  obtain rfl : M = List.range x.f3.length := st_one (wk_ltI k.f3) hris hR hst (St.refl _)
  refine ⟨_, rfl, ?_, hb⟩
  have ex := list_eq hx h5
  have e2 : x = lV x.f3 := ex
  obtain ⟨xs, hxs⟩ : ∃ xs, xs = x.f3 := ⟨_, rfl⟩
  rw [e2]
  refine shows_part (k := n) (o := 0) hn (by simp) hrow hm fun i y v hy hv => ?_
  rw [Nat.zero_add, List.getElem?_map] at hv
  have hi := (List.getElem?_eq_some_iff.1 hy).1
  rw [List.getElem?_range hi] at hv
  have hv := Option.some.inj hv
  have e3 := rd_at x.f3 i hi
  rw [hy] at e3
  rw [Option.some.inj e3]
  refine (hGj i v ?_).keepB hb
  rw [← hv]
  show l[i]? = some (l.getD i .nilIface)
  rw [List.getD_eq_getElem?_getD, List.getElem?_eq_getElem (by omega)]
  rfl
set_option maxHeartbeats 4000000 in
theorem zz_sortBy {w : World} {x k : V} {g h : Value} {n m : Nat} (h5 : x.f0 = 5) (hx : WL x) (zx : Sz x) (k5 : k.f0 = 5) (hk : WL k) (zk : Sz k) (hlen : k.f3.length = x.f3.length) (hall : ∀ a ∈ k.f3, ∀ b ∈ k.f3, cmpV a b = 0) (hG : G n w x g) (hH : G m w k h) :
    Calls Tryz.prog 60 #[g, h] w (ShowsIs x w) := by
  have HC := Lib.hid (fun nm => sort_same nm h5 hx zx k5 hk zk hlen hall hG hH)
  clear hG hH
  have HF : Hid (Calls Tryz.prog 93 #[g, h] w (ShowsIs x w)) := Lib.hid (by
    go_enter Tryz.func93, Tryz.ntmps93
    go_wp2_with fail
    refine (HC.out _).mono ?_
    rintro e w1 ⟨r, rfl, h⟩
    go_wp2_with fail
    go_ret
    exact ⟨_, rfl, h⟩)
  go_enter Tryz.func60, Tryz.ntmps60
  go_wp2_with fail
  refine HF.out.mono ?_
  rintro e w1 ⟨r, rfl, h⟩
  go_wp2_with fail
  go_ret
  exact ⟨_, rfl, h⟩
/-- j copies of six cells, then n - j of six others. -/
def copC (kc zc : List Value) (n j : Nat) : List Value := (List.replicate j kc).flatten ++ (List.replicate (n - j) zc).flatten
theorem cop_len {kc zc : List Value} (hk : kc.length = 6) (hz : zc.length = 6) {n j : Nat} (hj : j ≤ n) : (copC kc zc n j).length = 6 * n := by
  unfold copC
  rw [List.length_append, List.length_flatten, List.length_flatten, List.map_replicate, List.map_replicate, List.sum_replicate_nat, List.sum_replicate_nat, hk, hz]
  omega
theorem cop_at {kc zc : List Value} (hk : kc.length = 6) {n j i t : Nat} (hi : i < j) (ht : t < 6) : (copC kc zc n j)[i * 6 + t]? = kc[t]? := by
  unfold copC
  have hl : (List.replicate j kc).flatten.length = 6 * j := by rw [List.length_flatten, List.map_replicate, List.sum_replicate_nat, hk]; omega
  rw [List.getElem?_append_left (by omega)]
  obtain ⟨m, rfl⟩ : ∃ m, j = i + (m + 1) := ⟨j - i - 1, by omega⟩
  rw [← List.replicate_append_replicate, List.flatten_append, List.getElem?_append_right (by rw [List.length_flatten, List.map_replicate, List.sum_replicate_nat, hk]; omega), List.length_flatten, List.map_replicate, List.sum_replicate_nat, hk, List.replicate_succ, List.flatten_cons, List.getElem?_append_left (by omega)]
  congr 1
  omega
theorem cop_set {k0 k1 k2 k3 k4 k5 z0 z1 z2 z3 z4 z5 : Value} {n j : Nat} (hj : j < n) :
    ((((((copC [k0, k1, k2, k3, k4, k5] [z0, z1, z2, z3, z4, z5] n j).set (j * 6) k0).set (j * 6 + 1) k1).set (j * 6 + 2) k2).set (j * 6 + 3) k3).set (j * 6 + 4) k4).set (j * 6 + 5) k5 = copC [k0, k1, k2, k3, k4, k5] [z0, z1, z2, z3, z4, z5] n (j + 1) := by
  unfold copC
  obtain ⟨m, hm⟩ : ∃ m, n - j = m + 1 := ⟨n - j - 1, by omega⟩
  have hl : (List.replicate j [k0, k1, k2, k3, k4, k5]).flatten.length = j * 6 := by rw [List.length_flatten, List.map_replicate, List.sum_replicate_nat]; rfl
  have e : ∀ (L R : List Value) (q : Nat) (v : Value), L.length = j * 6 → (L ++ R).set (j * 6 + q) v = L ++ R.set q v := fun L R q v h => by rw [List.set_append_right _ _ (by omega), h, Nat.add_sub_cancel_left]
  have e0 : ∀ (L R : List Value) (v : Value), L.length = j * 6 → (L ++ R).set (j * 6) v = L ++ R.set 0 v := fun L R v h => e L R 0 v h
  rw [hm, show n - (j + 1) = m by omega, List.replicate_succ, List.flatten_cons, e0 _ _ _ hl, e _ _ _ _ hl, e _ _ _ _ hl, e _ _ _ _ hl, e _ _ _ _ hl, e _ _ _ _ hl, List.replicate_succ', List.flatten_append, List.append_assoc]
  rfl
def z6L : List Value := [.int .i64 0, .int .i64 0, .string ⟨#[]⟩, .slice none 0 0, .slice none 0 0, .slice none 0 0]
theorem made_val (kc : List Value) (n : Nat) : madeCells (Value.cells (.agg #[.int .i64 0, .int .i64 0, .string ⟨#[]⟩, .slice none 0 0, .slice none 0 0, .slice none 0 0])) (n * 6) = (copC kc z6L n 0).toArray := by
  have e : Value.cells (.agg #[.int .i64 0, .int .i64 0, .string ⟨#[]⟩, .slice none 0 0, .slice none 0 0, .slice none 0 0]) = z6L.toArray := rfl
  have e2 : copC kc z6L n 0 = copC z6L z6L n n := by simp [copC]
  rw [e, e2]
  refine Array.ext_getElem? fun i => ?_
  have hR : (copC z6L z6L n n).toArray[i]? = (copC z6L z6L n n)[i]? := by simp
  rw [hR]
  by_cases hi : i < n * 6
  · have h3 := cop_at (kc := z6L) (zc := z6L) rfl (n := n) (j := n) (i := i / 6) (t := i % 6) (by omega) (Nat.mod_lt _ (by omega))
    rw [show i / 6 * 6 + i % 6 = i by omega] at h3
    rw [h3, List.getElem?_eq_getElem (show i % 6 < z6L.length from Nat.mod_lt _ (by omega))]
    have h5 : (madeCells z6L.toArray (n * 6))[i]? = some (z6L.toArray[i % z6L.toArray.size]!) := by simp [madeCells, hi]
    rw [h5, getElem!_pos z6L.toArray (i % z6L.toArray.size) (Nat.mod_lt _ (by show 0 < 6; omega))]
    rfl
  · rw [List.getElem?_eq_none (by rw [cop_len (kc := z6L) (zc := z6L) rfl rfl (Nat.le_refl n)]; omega), Array.getElem?_eq_none (by rw [size_madeCells]; omega)]
theorem runMakeV (kc : List Value) (n : Nat) (hn : n ≤ 1000000) (w : World) : (Instr.makeSlice 22 (.int .i64 n) (.int .i64 n)).run Tryz.prog w = .ok (.slice (some ⟨w.heap.size, 0, none⟩) n n) (w.alloc (.cells (copC kc z6L n 0).toArray 26)) := by
  have hi := info_val
  cases h : Tryz.prog.info? 26 with
  | none => rw [h] at hi; cases hi
  | some i =>
    rw [h] at hi
    have hi := Option.some.inj hi
    simp only [Prod.mk.injEq] at hi
    obtain ⟨h1, h2, h3⟩ := hi
    have := run_makeSlice (P := Tryz.prog) w 22 26 i (.agg #[.int .i64 0, .int .i64 0, .string ⟨#[]⟩, .slice none 0 0, .slice none 0 0, .slice none 0 0]) Tryz.underlying22 h h1 .i64 .i64 (n : Int) (n : Int) (by omega) (by omega) (by rw [h2]; omega) (by rw [h3]; omega) (by omega)
    rw [this, Int.toNat_natCast, h2, made_val kc]
/-- Copies of one value can be read. -/
theorem C_cop {w : World} {g n : Nat} {x : V} {kc zc : List Value} (hn : n ≤ 1000000) (hlen : kc.length = 6) (hK : k26.K w x kc) (hg : w.heap[g]? = some (.cells (copC kc zc n n).toArray 26 (0, 0))) : Kd.C k26 w (some ⟨g, 0, none⟩) n (List.replicate n x) := by
  refine ⟨by simp, by omega, fun _ => ⟨_, rfl, fun j p hj => ?_⟩⟩
  obtain ⟨hjn, e⟩ := List.getElem?_eq_some_iff.1 hj
  rw [List.length_replicate] at hjn
  obtain rfl : x = p := by simpa using e
  refine ⟨kc, hlen, hK, fun i u hi => ?_⟩
  have hi6 : i < 6 := by have := (List.getElem?_eq_some_iff.1 hi).1; omega
  have e : (⟨g, 0, none⟩ : Addr).add (j * k26.sz + i) = ⟨g, j * 6 + i, none⟩ := by
    show (⟨g, 0, none⟩ : Addr).add (j * 6 + i) = _
    simp [Addr.add]
    try (intro h1 h2; omega)
  rw [e]
  have h := cop_at (zc := zc) hlen (n := n) (t := i) hjn hi6
  simp only [World.cell?, hg]
  rw [hi] at h
  simpa using h
end Go.Proofs.YtbnfeicpjmfooaaGreatDoor.NumA
