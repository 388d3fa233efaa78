/-
A value that came in as an argument: the tree that it is, and how it lies in memory.
-/
import Derived.Test.YtbnfeicpjmfooaaGreatDoorMB
import Derived.Deep.Strs
namespace Go.Proofs.YtbnfeicpjmfooaaGreatDoor.OpenV
open Go.RowKit Go.Lib Go.ChangeShapes Go.WideShapes Go.Proofs.YtbnfeicpjmfooaaGreatDoorW.PrintWords Go.Proofs.YtbnfeicpjmfooaaGreatDoorW.PrintLast Go.Proofs.YtbnfeicpjmfooaaGreatDoorW.PrintMore Go.Proofs.YtbnfeicpjmfooaaGreatDoor.PzzFits1 Go.Proofs.YtbnfeicpjmfooaaGreatDoor.ValA
theorem cells26 : Tryz.prog.cellsOf 26 = 6 := by kernel_rfl
theorem cells22 : Tryz.prog.cellsOf 23 = 1 := by kernel_rfl
theorem cells3 : Tryz.prog.cellsOf 3 = 1 := by kernel_rfl
theorem cells9 : Tryz.prog.cellsOf 9 = 1 := by kernel_rfl
theorem cells23 : Tryz.prog.cellsOf 22 = 1 := by kernel_rfl
theorem cells24 : Tryz.prog.cellsOf 24 = 1 := by kernel_rfl
theorem six_of {cs : List Value} (h : cs.length = 6) : ∃ c0 c1 c2 c3 c4 c5, cs = [c0, c1, c2, c3, c4, c5] := by
  match cs, h with
  | [c0, c1, c2, c3, c4, c5], _ => exact ⟨c0, c1, c2, c3, c4, c5, rfl⟩
section
variable {H : Type} {enc : TypeId × Value → H} {W : World}
theorem strs_C {fuel : Nat} {c : Value} {x : DataW H × List MemPlace} (h : DataW.trod enc Tryz.prog W 0 (fun _ => true) true fuel 24 [c] = some x) :
    ∃ A xs n, c = .slice A (List.length xs) n ∧ xs.length ≤ n ∧ Kd.C Kd.string W A xs.length xs ∧ ∀ s ∈ xs, s.size ≤ 9223372036854775807 := by
  rcases Go.Deep.open_strs Tryz.underlying24 Tryz.underlying9 cells9 h with ⟨hc, _⟩ | ⟨a, len, cap, m, Sx, hc, _, hl, hm, hmm, _, hx⟩
  · obtain rfl : c = .slice none 0 0 := by simpa using hc
    exact ⟨none, [], 0, rfl, Nat.le_refl _, Kd.C_nil _ _, fun s hs => by cases hs⟩
  · obtain rfl : c = .slice (some a) len cap := by simpa using hc
    have hmm' : m = cap := by rw [hmm]; rfl
    refine ⟨some a, (List.range len).map Sx, cap, by simp, by simp; exact hl, ?_, ?_⟩
    · refine ⟨rfl, by simp; unfold maxLen at hm; omega, fun _ => ⟨a, rfl, fun j p hj => ?_⟩⟩
      have hjl : j < len := by
        have := (List.getElem?_eq_some_iff.1 hj).1
        simpa using this
      have hp : Sx j = p := by simpa [hjl] using hj
      refine ⟨[.string p], rfl, rfl, fun i u hi => ?_⟩
      match i, hi with
      | 0, hi =>
        obtain rfl : .string p = u := Option.some.inj hi
        have := (hx j (by omega)).1
        rw [hp] at this
        show W.cell? (a.add (j * 1 + 0)) = _
        rw [Nat.mul_one, Nat.add_zero]
        exact this
      | i + 1, hi => simp at hi
    · intro s hs
      obtain ⟨j, hj, rfl⟩ := List.mem_map.1 hs
      have := (hx j (by have := List.mem_range.1 hj; omega)).2
      unfold maxLen at this
      exact this
theorem vals_C {n : Nat} (ih : ∀ fuel, fuel ≤ n → ∀ cs x, DataW.trod enc Tryz.prog W 0 (fun _ => true) true fuel 26 cs = some x → ∃ v : V, k26.K W v cs ∧ Sz v) {c : Value} {x : DataW H × List MemPlace}
    (h : DataW.trod enc Tryz.prog W 0 (fun _ => true) true n 22 [c] = some x) :
    ∃ A xs m, c = .slice A (List.length xs) m ∧ xs.length ≤ m ∧ Kd.C k26 W A xs.length xs ∧ ∀ v ∈ xs, Sz v := by
  rcases DataW.trod_slice Tryz.underlying22 h with ⟨hc, _⟩ | ⟨a, len, cap, elems, rest, k, hk, hc, _, _, hl, hm, hlen, hel, _⟩
  · obtain rfl : c = .slice none 0 0 := by simpa using hc
    exact ⟨none, [], 0, rfl, Nat.le_refl _, Kd.C_nil _ _, fun s hs => by cases hs⟩
  · obtain rfl : c = .slice (some a) len cap := by simpa using hc
    have each : ∀ i, i < len → ∃ v : V, ∃ cs : List Value, cs.length = 6 ∧ (∀ j u, cs[j]? = some u → W.cell? (a.add (i * 6 + j)) = some u) ∧ k26.K W v cs ∧ Sz v := fun i hi => by
      have he := hel i hi
      rw [cells26, List.getElem?_eq_getElem (by omega)] at he
      obtain ⟨cs, h1, h2⟩ := Option.bind_eq_some_iff.1 he
      obtain ⟨v, hv, hz⟩ := ih k (by omega) cs _ h2
      obtain ⟨_, hcl, hcell⟩ := World.cells?_some h1
      refine ⟨v, cs, hcl, fun j u hj => ?_, hv, hz⟩
      have hjl : j < 6 := by have := (List.getElem?_eq_some_iff.1 hj).1; omega
      have := hcell j hjl
      rw [Go.Deep.add_add] at this
      rw [this]; exact hj
    haveI : Inhabited V := ⟨z26⟩
    obtain ⟨f, hf⟩ := Go.Deep.choose_lt (α := V) (p := fun i v => ∃ cs : List Value, cs.length = 6 ∧ (∀ j u, cs[j]? = some u → W.cell? (a.add (i * 6 + j)) = some u) ∧ k26.K W v cs ∧ Sz v) each
    refine ⟨some a, (List.range len).map f, cap, by simp, by simp; exact hl, ?_, ?_⟩
    · refine ⟨rfl, by simp; unfold maxLen at hm; omega, fun _ => ⟨a, rfl, fun j p hj => ?_⟩⟩
      have hjl : j < len := by
        have := (List.getElem?_eq_some_iff.1 hj).1
        simpa using this
      have hp : f j = p := by simpa [hjl] using hj
      obtain ⟨cs, h1, h2, h3, h4⟩ := hf j hjl
      exact ⟨cs, h1, by rw [← hp]; exact h3, h2⟩
    · intro v hv
      obtain ⟨j, hj, rfl⟩ := List.mem_map.1 hv
      obtain ⟨cs, h1, h2, h3, h4⟩ := hf j (List.mem_range.1 hj)
      exact h4
set_option maxRecDepth 100000 in
theorem reads_V : ∀ (n fuel : Nat), fuel ≤ n → ∀ cs (x : DataW H × List MemPlace), DataW.trod enc Tryz.prog W 0 (fun _ => true) true fuel 26 cs = some x → ∃ v : V, k26.K W v cs ∧ Sz v := by
  intro n
  induction n with
  | zero =>
    intro fuel hn cs x h
    obtain rfl : fuel = 0 := by omega
    simp [DataW.trod] at h
  | succ n ih =>
    intro fuel hn cs x h
    obtain ⟨xs, k, hk, _, hlen, hxs, hall⟩ := DataW.trod_struct Tryz.underlying26 h
    rw [cells26] at hlen
    obtain ⟨c0, c1, c2, c3, c4, c5, rfl⟩ := six_of hlen
    have hs : xs.length = 6 := hxs
    have e0 : DataW.trod enc Tryz.prog W 0 (fun _ => true) true k 23 [c0] = xs[0]? := by
      have e : DataW.trod enc Tryz.prog W 0 (fun _ => true) true k 23 (([c0, c1, c2, c3, c4, c5].drop 0).take (Tryz.prog.cellsOf 23)) = xs[0]? := hall 0 _ rfl
      rw [cells22] at e
      exact e
    have e1 : DataW.trod enc Tryz.prog W 0 (fun _ => true) true k 3 [c1] = xs[1]? := by
      have e : DataW.trod enc Tryz.prog W 0 (fun _ => true) true k 3 (([c0, c1, c2, c3, c4, c5].drop 1).take (Tryz.prog.cellsOf 3)) = xs[1]? := hall 1 _ rfl
      rw [cells3] at e
      exact e
    have e2 : DataW.trod enc Tryz.prog W 0 (fun _ => true) true k 9 [c2] = xs[2]? := by
      have e : DataW.trod enc Tryz.prog W 0 (fun _ => true) true k 9 (([c0, c1, c2, c3, c4, c5].drop 2).take (Tryz.prog.cellsOf 9)) = xs[2]? := hall 2 _ rfl
      rw [cells9] at e
      exact e
    have e3 : DataW.trod enc Tryz.prog W 0 (fun _ => true) true k 22 [c3] = xs[3]? := by
      have e : DataW.trod enc Tryz.prog W 0 (fun _ => true) true k 22 (([c0, c1, c2, c3, c4, c5].drop 3).take (Tryz.prog.cellsOf 22)) = xs[3]? := hall 3 _ rfl
      rw [cells23] at e
      exact e
    have e4 : DataW.trod enc Tryz.prog W 0 (fun _ => true) true k 24 [c4] = xs[4]? := by
      have e : DataW.trod enc Tryz.prog W 0 (fun _ => true) true k 24 (([c0, c1, c2, c3, c4, c5].drop 4).take (Tryz.prog.cellsOf 24)) = xs[4]? := hall 4 _ rfl
      rw [cells24] at e
      exact e
    have e5 : DataW.trod enc Tryz.prog W 0 (fun _ => true) true k 22 [c5] = xs[5]? := by
      have e : DataW.trod enc Tryz.prog W 0 (fun _ => true) true k 22 (([c0, c1, c2, c3, c4, c5].drop 5).take (Tryz.prog.cellsOf 22)) = xs[5]? := hall 5 _ rfl
      rw [cells23] at e
      exact e
    rw [List.getElem?_eq_getElem (by omega)] at e0 e1 e2 e3 e4 e5
    obtain ⟨K, h0, _, _⟩ := DataW.trod_int Tryz.underlying23 e0
    obtain ⟨Hf, h1, _, _⟩ := DataW.trod_int Tryz.underlying3 e1
    obtain ⟨s, h2, _, hsz⟩ := DataW.trod_string Tryz.underlying9 e2
    obtain ⟨A3, l3, m3, h3, le3, C3, z3⟩ := vals_C (fun f hf => ih f (by omega)) e3
    obtain ⟨A4, l4, m4, h4, le4, C4, z4⟩ := strs_C e4
    obtain ⟨A5, l5, m5, h5, le5, C5, z5⟩ := vals_C (fun f hf => ih f (by omega)) e5
    obtain rfl : c0 = .int .i64 K := by simpa using h0
    obtain rfl : c1 = .int .i64 Hf := by simpa using h1
    obtain rfl : c2 = .string s := by simpa using h2
    subst h3 h4 h5
    exact ⟨⟨K, Hf, s, l3, l4, l5⟩, k26_mk W ⟨K, Hf, s, l3, l4, l5⟩ le3 C3 le4 C4 le5 C5, Sz.mk _ (by unfold maxLen at hsz; exact hsz) z4 z3 z5⟩
set_option maxRecDepth 100000 in
/-- An argument that is a value. -/
theorem open_V {v : Value} {d : DataW H} {p : List MemPlace} (hv : Value.okWide Tryz.prog W .any 0 26 v) (h : DataW.Trod enc Tryz.prog W 0 (fun _ => true) true 26 v d p) :
    ∃ (x : V) (K Hf : Int) (s : ByteArray) (A3 A4 A5 : Option Addr) (n3 c3 n4 c4 n5 c5 : Nat), v = .agg #[.int .i64 K, .int .i64 Hf, .string s, .slice A3 n3 c3, .slice A4 n4 c4, .slice A5 n5 c5] ∧ k26.K W x [.int .i64 K, .int .i64 Hf, .string s, .slice A3 n3 c3, .slice A4 n4 c4, .slice A5 n5 c5] ∧ Sz x := by
  obtain ⟨cs, rfl, _⟩ := okWide_struct Tryz.underlying26 hv
  obtain ⟨fuel, hf⟩ := h
  obtain ⟨x, hK, hz⟩ := reads_V fuel fuel (Nat.le_refl _) _ _ hf
  obtain ⟨A3, c3, A4, c4, A5, c5, he, _⟩ := k26_open hK
  have he' : cs = #[.int .i64 x.f0, .int .i64 x.f1, .string x.f2, .slice A3 x.f3.length c3, .slice A4 x.f4.length c4, .slice A5 x.f5.length c5] := by
    have h2 : cs.toList = [.int .i64 x.f0, .int .i64 x.f1, .string x.f2, .slice A3 x.f3.length c3, .slice A4 x.f4.length c4, .slice A5 x.f5.length c5] := he
    rw [← Array.toArray_toList (xs := cs), h2]
  subst he'
  exact ⟨x, _, _, _, _, _, _, _, _, _, _, _, _, rfl, hK, hz⟩
end
end Go.Proofs.YtbnfeicpjmfooaaGreatDoor.OpenV
