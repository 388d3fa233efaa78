/-
Parts of the proof, one behind the other: StbA, StbB, StbP, StbC, StbD, StbE.
-/
import Derived.Shelf.GgSortMore.Stable
import Derived.Lib.BufferOwn
import Derived.Lib.Hide
import Derived.Deep.RegionHeld
/-
A stable sort, over any program: the row while it is sorted; swapRange_func.
-/
set_option linter.unusedSimpArgs false
set_option linter.unusedVariables false
namespace Go.Proofs.YtbnfeicpjmfooaaGreatDoor.Stb
open Go.Shelf Go.RowKit Go.Lib Go.Sort Go.Proofs
variable {P : Program} {ρ : Ren} {α : Type} [Inhabited α]
/-- The row holds dk, what d0 held in some order; nothing else of w is turned. -/
def Srt (enc : α → Value) (w : World) (blk off : Nat) (d0 dk : Array α) (wr : World) : Prop := w.grownBy wr (some blk) ∧ Holds enc wr blk off dk ∧ dk.toList.Perm d0.toList
theorem Srt.size {enc : α → Value} {w wr : World} {blk off : Nat} {d0 dk : Array α} (h : Srt enc w blk off d0 dk wr) : dk.size = d0.size := by
  have := h.2.2.length_eq
  simpa using this
theorem Srt.start {enc : α → Value} {w : World} {blk off : Nat} {d0 : Array α} (h : Holds enc w blk off d0) : Srt enc w blk off d0 d0 w := ⟨World.grownBy.refl w _, h, .refl _⟩
theorem holds_heap {enc : α → Value} {w w1 : World} {blk off : Nat} {d : Array α} (h : Holds enc w blk off d) (e : w1.heap[blk]? = w.heap[blk]?) : Holds enc w1 blk off d := fun j hj => by
  have := h j hj
  simp only [World.cell?, World.frozen?] at this ⊢
  rw [e]
  exact this
theorem Srt.below {enc : α → Value} {w wr w1 : World} {blk off : Nat} {d0 dk : Array α} (h : Srt enc w blk off d0 dk wr) (hblk : blk < w.heap.size) (hb : Below wr.heap.size wr w1) : Srt enc w blk off d0 dk w1 :=
  ⟨grownBy_below h.1 hb, holds_heap h.2.1 (hb.block blk (Nat.lt_of_lt_of_le hblk h.1.size)), h.2.2⟩
theorem Srt.alloc {enc : α → Value} {w wr : World} {blk off : Nat} {d0 dk : Array α} (h : Srt enc w blk off d0 dk wr) (hblk : blk < w.heap.size) (o : Obj) : Srt enc w blk off d0 dk (wr.alloc o) :=
  h.below hblk ((Below.refl _ wr).alloc (Nat.le_refl _) o)
theorem Srt.drew {enc : α → Value} {w wr : World} {blk off : Nat} {d0 dk : Array α} (h : Srt enc w blk off d0 dk wr) : Srt enc w blk off d0 dk wr.drew := ⟨⟨h.1.os, h.1.tape, h.1.output, h.1.size, h.1.block⟩, h.2.1, h.2.2⟩
theorem Srt.trans {enc : α → Value} {w wr w1 : World} {blk off : Nat} {d0 dk d1 : Array α} (h : Srt enc w blk off d0 dk wr) (k : Srt enc wr blk off dk d1 w1) : Srt enc w blk off d0 d1 w1 :=
  ⟨grownBy_trans h.1 k.1, k.2.1, k.2.2.trans h.2.2⟩
theorem swp_perm (d : Array α) {i j : Nat} (hi : i < d.size) (hj : j < d.size) : (swp d i j).toList.Perm d.toList := by
  have e : swp d i j = d.swap i j hi hj := by
    unfold swp Array.swap
    rw [getElem!_pos d i hi, getElem!_pos d j hj]
    simp [Array.setIfInBounds, hi, hj]
  rw [e]
  exact Array.perm_iff_toList_perm.1 (Array.swap_perm hi hj)
theorem Srt.swap {enc : α → Value} {w wr : World} {blk off : Nat} {d0 dk : Array α} (h : Srt enc w blk off d0 dk wr) {i j : Nat} (hi : i < d0.size) (hj : j < d0.size) :
    Srt enc w blk off d0 (swp dk i j) ((wr.setCell ⟨blk, off + i, none⟩ (enc dk[j]!)).setCell ⟨blk, off + j, none⟩ (enc dk[i]!)) := by
  have hs := h.size
  refine ⟨grownBy_setB (grownBy_setB h.1 _ _) _ _, ?_, (swp_perm dk (by omega) (by omega)).trans h.2.2⟩
  have e := putRow_swp enc wr blk off dk i j (by omega) (by omega)
  rw [putRow_self enc wr blk off dk h.2.1] at e
  rw [e]
  exact holds_putRow enc wr blk off dk _ h.2.1 (size_swp _ _ _)
/-- A cell of another block. -/
theorem Srt.cell {enc : α → Value} {w wr : World} {blk off : Nat} {d0 dk : Array α} (h : Srt enc w blk off d0 dk wr) {g k : Nat} {v : Value} (hv : w.cell? ⟨g, k, none⟩ = some v) (hg : g ≠ blk) : wr.cell? ⟨g, k, none⟩ = some v :=
  h.1.cell hv (by simpa using hg)
/-- What is asked of 'less'. -/
def LessB (P : Program) (g : Nat) (lb : Array Value) (enc : α → Value) (lt : α → α → Bool) (blk off : Nat) (d0 : Array α) (w : World) : Prop :=
  ∀ (wr : World) (dk : Array α), Srt enc w blk off d0 dk wr → ∀ i j : Nat, i < d0.size → j < d0.size →
    Calls P g (#[.int .i64 i, .int .i64 j] ++ lb) wr fun e w' => e = .returned (.bool (lt dk[i]! dk[j]!)) ∧ Below wr.heap.size wr w'
theorem LessB.next {g : Nat} {lb : Array Value} {enc : α → Value} {lt : α → α → Bool} {w wr : World} {blk off : Nat} {d0 dk : Array α} (h : LessB P g lb enc lt blk off d0 w) (k : Srt enc w blk off d0 dk wr) : LessB P g lb enc lt blk off dk wr := by
  intro w1 d1 h1 i j hi hj
  rw [k.size] at hi hj
  exact h w1 d1 (k.trans h1) i j hi hj
/-- n elements from a on and n from b on change places. -/
def swR (d : Array α) (a b : Nat) : Nat → Array α
  | 0 => d
  | n + 1 => swp (swR d a b n) (a + n) (b + n)
theorem size_swR (d : Array α) (a b n : Nat) : (swR d a b n).size = d.size := by
  induction n with
  | zero => rfl
  | succ n ih => rw [swR, size_swp, ih]
set_option maxHeartbeats 2000000 in
set_option maxRecDepth 100000 in
theorem swapRange_any (L : LaysGt.n49 P ρ) (enc : α → Value) (g : Nat) (lb : Array Value) (sf : Nat) (sb : Array Value) (blk off a b n : Nat) (d : Array α) (w : World)
    (hswap : SwapSwaps P sf sb enc blk off d.size) (hH : Holds enc w blk off d) (hblk : blk < w.heap.size) (hab : a + n ≤ d.size) (hb : b + n ≤ d.size) (hsz : d.size < 4611686018427387904) :
    Calls P (ρ.f 49) #[.agg #[.func (.func g) #[] lb, .func (.func sf) #[] sb], .int .i64 a, .int .i64 b, .int .i64 n] w fun e w' => e = .returned (.tuple #[]) ∧ Srt enc w blk off d (swR d a b n) w' := by
  have mixed := L.mixed; have t0 := L.t0; have a0 := L.a0; have z0 := L.z0; have v0 := L.v0; have t3 := L.t3; have a3 := L.a3; have z3 := L.z3; have v3 := L.v3; have t4 := L.t4; have a4 := L.a4; have z4 := L.z4; have v4 := L.v4; have t38 := L.t38; have a38 := L.a38; have z38 := L.z38; have v38 := L.v38; have t42 := L.t42; have a42 := L.a42; have z42 := L.z42; have v42 := L.v42
  have u42 := run_underlying L.t42
  have h0 := (Srt.start hH).alloc hblk (.cells #[.func (.func g) #[] lb, .func (.func sf) #[] sb] (ρ.t 42))
  have H0 := Lib.hid h0
  clear h0 hH
  go_enter L.f49, BodyGt.n49_ntmps ρ
  go_wp2
  go_loopw [8] (fun vi wr => ∃ i : Nat, vi = .int .i64 i ∧ i ≤ n ∧ Srt enc w blk off d (swR d a b i) wr ∧ wr.cell? ⟨w.heap.size, 1, none⟩ = some (.func (.func sf) #[] sb)) (fun vi _ => n - (intOf vi).toNat)
  case atStart => exact ⟨0, rfl, Nat.zero_le _, H0.out, by simp⟩
  case round =>
    obtain ⟨i, rfl, hin, hS, hc⟩ := hrel
    have HS := Lib.hid hS
    clear hS
    by_cases hlt : i < n
    · have hs := hswap wr (swR d a b i) HS.out.2.1 (size_swR _ _ _ _) (a + i) (b + i) (by omega) (by omega)
      rw [Int.natCast_add, Int.natCast_add] at hs
      go_wp2
      have hsw := HS.out.swap (i := a + i) (j := b + i) (by omega) (by omega)
      refine ⟨⟨i + 1, rfl, by omega, hsw, ?_⟩, by simp [intOf]; omega⟩
      rw [World.cell?_setCell_far, World.cell?_setCell_far]
      · exact hc
      · show blk ≠ w.heap.size
        omega
      · show blk ≠ w.heap.size
        omega
    · have he : i = n := by omega
      subst he
      go_wp2
      go_end0
      exact ⟨rfl, HS.out⟩
end Go.Proofs.YtbnfeicpjmfooaaGreatDoor.Stb
/-
A stable sort, over any program: rotate_func.
-/
set_option linter.unusedSimpArgs false
set_option linter.unusedVariables false
namespace Go.Proofs.YtbnfeicpjmfooaaGreatDoor.Stb
open Go.Shelf Go.RowKit Go.Lib Go.Sort Go.Proofs
variable {P : Program} {ρ : Ren} {α : Type} [Inhabited α]
theorem bang_of {d : Array α} {u t : List α} {x : α} {i : Nat} (h : d.toList = u ++ x :: t) (hi : u.length = i) : d[i]! = x := by
  have hl : i < d.size := by rw [← Array.length_toList, h, List.length_append, List.length_cons]; omega
  rw [getElem!_pos d i hl, ← Array.getElem_toList]
  simp only [h]
  rw [List.getElem_append_right (by omega)]
  simp [hi]
theorem swp_list {d : Array α} {u v t : List α} {x y : α} {i j : Nat} (h : d.toList = u ++ x :: (v ++ y :: t)) (hi : u.length = i) (hj : i + 1 + v.length = j) : (swp d i j).toList = u ++ y :: (v ++ x :: t) := by
  have e1 : d[i]! = x := bang_of h hi
  have e2 : d[j]! = y := bang_of (u := u ++ x :: v) (t := t) (by rw [h]; simp) (by simp; omega)
  unfold swp
  rw [e1, e2, Array.toList_setIfInBounds, Array.toList_setIfInBounds, h]
  rw [List.set_append_right _ _ (by omega), hi, Nat.sub_self, List.set_cons_zero, List.set_append_right _ _ (by omega), hi, show j - i = v.length + 1 by omega, List.set_cons_succ, List.set_append_right _ _ (Nat.le_refl _), Nat.sub_self, List.set_cons_zero]
theorem swR_list (d : Array α) (p : List α) {a b : Nat} (ha : p.length = a) : ∀ (n : Nat) (X Q Y s : List α), X.length = n → Y.length = n → a + n + Q.length = b → d.toList = p ++ (X ++ (Q ++ (Y ++ s))) → (swR d a b n).toList = p ++ (Y ++ (Q ++ (X ++ s)))
  | 0, X, Q, Y, s, hX, hY, hb, h => by
    obtain rfl := List.eq_nil_of_length_eq_zero hX
    obtain rfl := List.eq_nil_of_length_eq_zero hY
    simpa [swR] using h
  | n + 1, X, Q, Y, s, hX, hY, hb, h => by
    obtain ⟨X', x, rfl⟩ : ∃ X' x, X = X' ++ [x] := ⟨X.dropLast, X.getLast (by intro e; simp [e] at hX), (List.dropLast_concat_getLast _).symm⟩
    obtain ⟨Y', y, rfl⟩ : ∃ Y' y, Y = Y' ++ [y] := ⟨Y.dropLast, Y.getLast (by intro e; simp [e] at hY), (List.dropLast_concat_getLast _).symm⟩
    simp only [List.length_append, List.length_singleton] at hX hY
    have ih := swR_list (b := b) d p ha n X' (x :: Q) Y' (y :: s) (by omega) (by omega) (by rw [List.length_cons]; omega) (by rw [h]; simp)
    rw [swR]
    have := swp_list (d := swR d a b n) (u := p ++ Y') (v := Q ++ X') (t := s) (x := x) (y := y) (i := a + n) (j := b + n) (by rw [ih]; simp) (by simp; omega) (by simp; omega)
    rw [this]
    simp
theorem swapRange_at (L : LaysGt.n49 P ρ) (enc : α → Value) (g : Nat) (lb : Array Value) (sf : Nat) (sb : Array Value) (blk off a b n : Nat) (d : Array α) (w : World)
    (hswap : SwapSwaps P sf sb enc blk off d.size) (hH : Holds enc w blk off d) (hblk : blk < w.heap.size) (hsz : d.size < 4611686018427387904) {p X Q Y s : List α} (hd : d.toList = p ++ (X ++ (Q ++ (Y ++ s)))) (ha : p.length = a) (hX : X.length = n) (hY : Y.length = n) (hb : a + n + Q.length = b)
    {x y z : Int} (hx : x = a) (hy : y = b) (hz : z = n) :
    Calls P (ρ.f 49) #[.agg #[.func (.func g) #[] lb, .func (.func sf) #[] sb], .int .i64 x, .int .i64 y, .int .i64 z] w fun e w' => e = .returned (.tuple #[]) ∧ ∃ d', d'.toList = p ++ (Y ++ (Q ++ (X ++ s))) ∧ Srt enc w blk off d d' w' := by
  subst hx hy hz
  have hl : d.size = p.length + (n + (Q.length + (n + s.length))) := by rw [← Array.length_toList, hd]; simp [hX, hY]
  refine (swapRange_any L enc g lb sf sb blk off a b n d w hswap hH hblk (by omega) (by omega) hsz).mono ?_
  rintro e w' ⟨rfl, hS⟩
  exact ⟨rfl, _, swR_list d p ha n X Q Y s hX hY hb hd, hS⟩
set_option maxHeartbeats 2000000 in
set_option maxRecDepth 100000 in
theorem rotate_any (L : LaysGt.n42 P ρ) (enc : α → Value) (g : Nat) (lb : Array Value) (sf : Nat) (sb : Array Value) (blk off : Nat) (d : Array α) (w : World)
    (hswap : SwapSwaps P sf sb enc blk off d.size) (hH : Holds enc w blk off d) (hblk : blk < w.heap.size) (hsz : d.size < 4611686018427387904) {p A B s : List α} (hd : d.toList = p ++ (A ++ (B ++ s))) (hA : A ≠ []) (hB : B ≠ [])
    {x y z : Int} (hx : x = p.length) (hy : y = (p.length + A.length : Nat)) (hz : z = (p.length + A.length + B.length : Nat)) :
    Calls P (ρ.f 42) #[.agg #[.func (.func g) #[] lb, .func (.func sf) #[] sb], .int .i64 x, .int .i64 y, .int .i64 z] w fun e w' => e = .returned (.tuple #[]) ∧ ∃ d', d'.toList = p ++ (B ++ (A ++ s)) ∧ Srt enc w blk off d d' w' := by
  have mixed := L.mixed; have t0 := L.t0; have a0 := L.a0; have z0 := L.z0; have v0 := L.v0; have t3 := L.t3; have a3 := L.a3; have z3 := L.z3; have v3 := L.v3; have t4 := L.t4; have a4 := L.a4; have z4 := L.z4; have v4 := L.v4; have t38 := L.t38; have a38 := L.a38; have z38 := L.z38; have v38 := L.v38; have t42 := L.t42; have a42 := L.a42; have z42 := L.z42; have v42 := L.v42
  have u42 := run_underlying L.t42
  have e49 : ∀ args w, (callFunc (ρ.f 49) args).run P w = .ok (.enter (ρ.f 49) args) w := enters_of L.f49 (by kernel_rfl) rfl
  have hl : d.size = p.length + (A.length + (B.length + s.length)) := by rw [← Array.length_toList, hd]; simp
  have hA0 : 0 < A.length := List.length_pos_iff.2 hA
  have hB0 : 0 < B.length := List.length_pos_iff.2 hB
  obtain ⟨m, hm⟩ : ∃ m, m = p.length + A.length := ⟨_, rfl⟩
  obtain ⟨f, hf⟩ : ∃ f, f = p ++ (B ++ (A ++ s)) := ⟨_, rfl⟩
  have hm2 : m ≤ d.size := by omega
  have h0 := (Srt.start hH).alloc hblk (.cells #[.func (.func g) #[] lb, .func (.func sf) #[] sb] (ρ.t 42))
  have H0 := Lib.hid (And.intro h0 (And.intro hd hf))
  have HL : Hid (LaysGt.n49 P ρ) := Lib.hid { L with }
  rw [← hm] at hy hz
  rw [← hf]
  obtain ⟨a0i, ha0i⟩ : ∃ a0i : Nat, a0i = p.length := ⟨_, rfl⟩
  obtain ⟨b0i, hb0i⟩ : ∃ b0i : Nat, b0i = m + B.length := ⟨_, rfl⟩
  rw [← ha0i] at hx
  rw [← hb0i] at hz
  subst hx hy hz
  have HN := Lib.hid (And.intro ha0i (And.intro hb0i (And.intro hm hl)))
  have q1 : a0i ≤ m := by omega
  have q2 : m ≤ b0i := by omega
  have q3 : b0i ≤ d.size := by omega
  clear h0 hH hd hf ha0i hb0i hm hl
  go_enter L.f42, BodyGt.n42_ntmps ρ
  go_wp2
  go_loopw [8, 9] (fun vi vj wr => ∃ (i j : Nat) (dk : Array α) (p' U V s' : List α), vi = .int .i64 i ∧ vj = .int .i64 j ∧ U.length = i ∧ V.length = j ∧ 0 < i ∧ 0 < j ∧ p'.length + i = m ∧ dk.toList = p' ++ (U ++ (V ++ s')) ∧ f = p' ++ (V ++ (U ++ s')) ∧ Srt enc w blk off d dk wr ∧ wr.cell? ⟨w.heap.size, 0, none⟩ = some (.func (.func g) #[] lb) ∧ wr.cell? ⟨w.heap.size, 1, none⟩ = some (.func (.func sf) #[] sb)) (fun vi vj _ => (intOf vi).toNat + (intOf vj).toNat)
  case atStart =>
    have h := H0.out
    have hn := HN.out
    exact ⟨A.length, B.length, d, p, A, B, s, by congr 1; omega, by congr 1; omega, rfl, rfl, hA0, hB0, by omega, h.2.1, h.2.2, h.1, by simp, by simp⟩
  case round =>
    obtain ⟨i, j, dk, p', U, V, s', rfl, rfl, hU, hV, hi0, hj0, hpm, hdk, hfk, hS, hc0, hc1⟩ := hrel
    have hdl : p'.length + (i + (j + s'.length)) = d.size := by rw [← hS.size, ← Array.length_toList, hdk]; simp [hU, hV]
    have hwb : blk < wr.heap.size := Nat.lt_of_lt_of_le hblk hS.1.size
    have hsw : SwapSwaps P sf sb enc blk off dk.size := by rw [hS.size]; exact hswap
    have hsk : dk.size < 4611686018427387904 := by rw [hS.size]; exact hsz
    have HS := Lib.hid (And.intro hS (And.intro hdk hfk))
    by_cases hij : i = j
    · have hc : ∀ (x y z : Int), x = (p'.length : Nat) → y = m → z = i → Calls P (ρ.f 49) #[.agg #[.func (.func g) #[] lb, .func (.func sf) #[] sb], .int .i64 x, .int .i64 y, .int .i64 z] wr fun e w' => e = .returned (.tuple #[]) ∧ ∃ d', d'.toList = p' ++ (V ++ ([] ++ (U ++ s'))) ∧ Srt enc wr blk off dk d' w' := fun x y z hx hy hz =>
        swapRange_at HL.out enc g lb sf sb blk off p'.length m i dk wr hsw hS.2.1 hwb hsk (by simpa using hdk) rfl hU (by omega) (by simp; omega) hx hy hz
      have HC := Lib.hid hc
      clear hS hdk hfk hc hsw hU hV
      go_wp2_with (go_at_fn (ρ.f 49); refine (HC.out _ _ _ (by omega) (by omega) (by omega)).mono ?_; rintro e w1 ⟨rfl, d1, hd1, hS1⟩)
      go_end0
      exact ⟨rfl, d1, by rw [hd1, HS.out.2.2]; rfl, HS.out.1.trans hS1⟩
    by_cases hgt : j < i
    · have hc : ∀ (x y z : Int), x = (p'.length : Nat) → y = m → z = j → Calls P (ρ.f 49) #[.agg #[.func (.func g) #[] lb, .func (.func sf) #[] sb], .int .i64 x, .int .i64 y, .int .i64 z] wr fun e w' => e = .returned (.tuple #[]) ∧ ∃ d', d'.toList = p' ++ (V ++ (U.drop j ++ (U.take j ++ s'))) ∧ Srt enc wr blk off dk d' w' := fun x y z hx hy hz =>
        swapRange_at HL.out enc g lb sf sb blk off p'.length m j dk wr hsw hS.2.1 hwb hsk (X := U.take j) (Q := U.drop j) (by rw [hdk, ← List.append_assoc (U.take j), List.take_append_drop]) rfl (by rw [List.length_take]; omega) hV (by rw [List.length_drop]; omega) hx hy hz
      have HC := Lib.hid hc
      have HUV := Lib.hid (And.intro hU hV)
      clear hS hdk hfk hc hsw hU hV
      go_wp2_with (go_at_fn (ρ.f 49); refine (HC.out _ _ _ (by omega) (by omega) (by omega)).mono ?_; rintro e w1 ⟨rfl, d1, hd1, hS1⟩)
      have hU := HUV.out.1
      have hV := HUV.out.2
      refine ⟨⟨i - j, j, d1, p' ++ V, U.drop j, U.take j, s', by congr 1; omega, rfl, by rw [List.length_drop]; omega, by rw [List.length_take]; omega, by omega, hj0, by rw [List.length_append]; omega, by rw [hd1]; simp, ?_, HS.out.1.trans hS1, hS1.1.cell hc0 (by simp; omega), hS1.1.cell hc1 (by simp; omega)⟩, by simp [intOf]; omega⟩
      rw [HS.out.2.2, List.append_assoc, ← List.append_assoc (U.take j), List.take_append_drop]
    · have hc : ∀ (x y z : Int), x = (p'.length : Nat) → y = (m + (j - i) : Nat) → z = i → Calls P (ρ.f 49) #[.agg #[.func (.func g) #[] lb, .func (.func sf) #[] sb], .int .i64 x, .int .i64 y, .int .i64 z] wr fun e w' => e = .returned (.tuple #[]) ∧ ∃ d', d'.toList = p' ++ (V.drop (j - i) ++ (V.take (j - i) ++ (U ++ s'))) ∧ Srt enc wr blk off dk d' w' := fun x y z hx hy hz =>
        swapRange_at HL.out enc g lb sf sb blk off p'.length (m + (j - i)) i dk wr hsw hS.2.1 hwb hsk (X := U) (Q := V.take (j - i)) (Y := V.drop (j - i)) (by rw [hdk, ← List.append_assoc (V.take (j - i)), List.take_append_drop]) rfl hU (by rw [List.length_drop]; omega) (by rw [List.length_take]; omega) hx hy hz
      have HC := Lib.hid hc
      have HUV := Lib.hid (And.intro hU hV)
      clear hS hdk hfk hc hsw hU hV
      go_wp2_with (go_at_fn (ρ.f 49); refine (HC.out _ _ _ (by omega) (by omega) (by omega)).mono ?_; rintro e w1 ⟨rfl, d1, hd1, hS1⟩)
      have hU := HUV.out.1
      have hV := HUV.out.2
      refine ⟨⟨i, j - i, d1, p', V.drop (j - i), V.take (j - i), U ++ s', rfl, by congr 1; omega, by rw [List.length_drop]; omega, by rw [List.length_take]; omega, hi0, by omega, hpm, by rw [hd1], ?_, HS.out.1.trans hS1, hS1.1.cell hc0 (by simp; omega), hS1.1.cell hc1 (by simp; omega)⟩, by simp [intOf]; omega⟩
      rw [HS.out.2.2, ← List.append_assoc (V.take (j - i)), List.take_append_drop]
end Go.Proofs.YtbnfeicpjmfooaaGreatDoor.Stb
/-
A stable sort: what it makes of a list, in plain terms.
-/
set_option linter.unusedSimpArgs false
set_option linter.unusedVariables false
namespace Go.Proofs.YtbnfeicpjmfooaaGreatDoor.Stb
variable {α : Type}
/-- An order whose equals are equal to the same ones. -/
structure Wk (lt : α → α → Bool) : Prop where
  anti : ∀ x y, lt x y = true → lt y x = false
  tr : ∀ x y z, lt x y = false → lt y z = false → lt x z = false
/-- A list rises. -/
def Ris (lt : α → α → Bool) (l : List α) : Prop := l.Pairwise fun x y => lt y x = false
def cls (lt : α → α → Bool) (x y : α) : Bool := !lt x y && !lt y x
/-- The same elements, equals in the same order. -/
def St (lt : α → α → Bool) (l l' : List α) : Prop := l'.Perm l ∧ ∀ x, l'.filter (cls lt x) = l.filter (cls lt x)
section
variable {lt : α → α → Bool}
theorem Wk.lt_le (h : Wk lt) {x y z : α} (h1 : lt x y = true) (h2 : lt z y = false) : lt x z = true := by
  cases h3 : lt x z with
  | true => rfl
  | false => rw [h.tr x z y h3 h2] at h1; cases h1
theorem Wk.le_lt (h : Wk lt) {x y z : α} (h1 : lt x y = true) (h2 : lt x z = false) : lt z y = true := by
  cases h3 : lt z y with
  | true => rfl
  | false => rw [h.tr x z y h2 h3] at h1; cases h1
theorem Wk.self (h : Wk lt) (x : α) : lt x x = false := by
  cases h1 : lt x x with
  | false => rfl
  | true => rw [h.anti x x h1] at h1; cases h1
theorem St.refl (l : List α) : St lt l l := ⟨.refl _, fun _ => rfl⟩
theorem St.trans {a b c : List α} (h : St lt a b) (k : St lt b c) : St lt a c := ⟨k.1.trans h.1, fun x => (k.2 x).trans (h.2 x)⟩
theorem St.app {a a' b b' : List α} (h : St lt a a') (k : St lt b b') : St lt (a ++ b) (a' ++ b') := ⟨h.1.append k.1, fun x => by rw [List.filter_append, List.filter_append, h.2 x, k.2 x]⟩
theorem St.swap (hw : Wk lt) {A B : List α} (h : ∀ b ∈ B, ∀ a ∈ A, lt b a = true) : St lt (A ++ B) (B ++ A) := by
  refine ⟨List.perm_append_comm, fun x => ?_⟩
  rw [List.filter_append, List.filter_append]
  by_cases hA : A.filter (cls lt x) = []
  · rw [hA]; simp
  by_cases hB : B.filter (cls lt x) = []
  · rw [hB]; simp
  obtain ⟨a, ha⟩ := List.exists_mem_of_ne_nil _ hA
  obtain ⟨b, hb⟩ := List.exists_mem_of_ne_nil _ hB
  rw [List.mem_filter] at ha hb
  have h1 := h b hb.1 a ha.1
  simp only [cls, Bool.and_eq_true, Bool.not_eq_true'] at ha hb
  rw [hw.tr b x a hb.2.2 ha.2.1] at h1
  cases h1
theorem Ris.app {a b : List α} : Ris lt (a ++ b) ↔ Ris lt a ∧ Ris lt b ∧ ∀ x ∈ a, ∀ y ∈ b, lt y x = false := List.pairwise_append
/-- Two parts, each merged, are merged. -/
theorem merged_ris (hw : Wk lt) {A1 A2 B1 B2 M1 M2 : List α} (hA : Ris lt (A1 ++ A2)) (hB : Ris lt (B1 ++ B2)) (h1 : ∀ b ∈ B1, ∀ a ∈ A2, lt b a = true) (h2 : ∀ a ∈ A1, ∀ b ∈ B2, lt b a = false) (m1 : Ris lt M1) (m2 : Ris lt M2) (s1 : St lt (A1 ++ B1) M1) (s2 : St lt (A2 ++ B2) M2) : Ris lt (M1 ++ M2) := by
  rw [Ris.app] at hA hB ⊢
  refine ⟨m1, m2, fun x hx y hy => ?_⟩
  rcases List.mem_append.1 (s1.1.mem_iff.1 hx) with hx | hx <;> rcases List.mem_append.1 (s2.1.mem_iff.1 hy) with hy | hy
  · exact hA.2.2 x hx y hy
  · exact h2 x hx y hy
  · exact hw.anti _ _ (h1 x hx y hy)
  · exact hB.2.2 x hx y hy
theorem merged_st (hw : Wk lt) {A1 A2 B1 B2 M1 M2 : List α} (h1 : ∀ b ∈ B1, ∀ a ∈ A2, lt b a = true) (s1 : St lt (A1 ++ B1) M1) (s2 : St lt (A2 ++ B2) M2) : St lt ((A1 ++ A2) ++ (B1 ++ B2)) (M1 ++ M2) := by
  have h := (St.app (St.refl A1) (St.app (St.swap hw h1) (St.refl B2))).trans (by simpa using St.app s1 s2)
  simpa using h
/-- One element put into its place. -/
theorem ins_ris (hw : Wk lt) {M1 M2 : List α} {x : α} (h : Ris lt (M1 ++ M2)) (h1 : ∀ y ∈ M1, lt x y = false) (h2 : ∀ y ∈ M2, lt x y = true) : Ris lt (M1 ++ x :: M2) := by
  rw [Ris.app] at h ⊢
  refine ⟨h.1, List.pairwise_cons.2 ⟨fun y hy => hw.anti _ _ (h2 y hy), h.2.1⟩, fun y hy z hz => ?_⟩
  rcases List.mem_cons.1 hz with rfl | hz
  · exact h1 y hy
  · exact h.2.2 y hy z hz
theorem ins_st (hw : Wk lt) {M1 M2 : List α} {x : α} (h2 : ∀ y ∈ M2, lt x y = true) : St lt (M1 ++ M2 ++ [x]) (M1 ++ x :: M2) := by
  have := St.app (St.refl (lt := lt) M1) (St.swap hw (A := M2) (B := [x]) (fun b hb a ha => by rw [List.mem_singleton.1 hb]; exact h2 a ha))
  simpa using this
end
end Go.Proofs.YtbnfeicpjmfooaaGreatDoor.Stb
/-
A stable sort, over any program: insertionSort_func.
-/
set_option linter.unusedSimpArgs false
set_option linter.unusedVariables false
namespace Go.Proofs.YtbnfeicpjmfooaaGreatDoor.Stb
open Go.Shelf Go.RowKit Go.Lib Go.Sort Go.Proofs
variable {P : Program} {ρ : Ren} {α : Type} [Inhabited α]
theorem swp_comm (d : Array α) (i j : Nat) (hne : i ≠ j) : swp d i j = swp d j i := by
  unfold swp
  exact Array.setIfInBounds_comm _ _ hne
theorem bcell {w w' : World} {a : Addr} {v : Value} (hb : Below w.heap.size w w') (h : w.cell? a = some v) : w'.cell? a = some v := (grownBy_below (World.grownBy.refl w none) hb).cell h (by simp)
set_option maxHeartbeats 2000000 in
set_option maxRecDepth 100000 in
theorem insSort_any (L : LaysGt.n29 P ρ) (enc : α → Value) (lt : α → α → Bool) (hwk : Wk lt) (g : Nat) (lb : Array Value) (sf : Nat) (sb : Array Value) (blk off : Nat) (d : Array α) (w : World)
    (eg : ∀ args w, (callFunc g args).run P w = .ok (.enter g args) w) (hless : LessB P g lb enc lt blk off d w) (hswap : SwapSwaps P sf sb enc blk off d.size) (hH : Holds enc w blk off d) (hblk : blk < w.heap.size) (hsz : d.size < 4611686018427387904) {p A s : List α} (hd : d.toList = p ++ (A ++ s))
    {x y : Int} (hx : x = p.length) (hy : y = (p.length + A.length : Nat)) :
    Calls P (ρ.f 29) #[.agg #[.func (.func g) #[] lb, .func (.func sf) #[] sb], .int .i64 x, .int .i64 y] w fun e w' => e = .returned (.tuple #[]) ∧ ∃ (d' : Array α) (M : List α), d'.toList = p ++ (M ++ s) ∧ Ris lt M ∧ St lt A M ∧ Srt enc w blk off d d' w' := by
  have mixed := L.mixed; have t0 := L.t0; have a0 := L.a0; have z0 := L.z0; have v0 := L.v0; have t3 := L.t3; have a3 := L.a3; have z3 := L.z3; have v3 := L.v3; have t4 := L.t4; have a4 := L.a4; have z4 := L.z4; have v4 := L.v4; have t26 := L.t26; have a26 := L.a26; have z26 := L.z26; have v26 := L.v26; have t38 := L.t38; have a38 := L.a38; have z38 := L.z38; have v38 := L.v38; have t42 := L.t42; have a42 := L.a42; have z42 := L.z42; have v42 := L.v42
  have u42 := run_underlying L.t42
  have hl : d.size = p.length + (A.length + s.length) := by rw [← Array.length_toList, hd]; simp
  have h0 := (Srt.start hH).alloc hblk (.cells #[.func (.func g) #[] lb, .func (.func sf) #[] sb] (ρ.t 42))
  have H0 := Lib.hid (And.intro h0 hd)
  obtain ⟨a, ha⟩ : ∃ a : Nat, a = p.length := ⟨_, rfl⟩
  obtain ⟨b, hb⟩ : ∃ b : Nat, b = a + A.length := ⟨_, rfl⟩
  rw [← ha] at hx hy
  rw [← hb] at hy
  subst hx hy
  have HA := Lib.hid ha
  have q3 : b ≤ d.size := by omega
  by_cases hA : A = []
  · subst hA
    have q1 : b = a := by rw [hb]; rfl
    clear h0 hH hd hl hless hswap hb ha
    subst q1
    go_enter L.f29, BodyGt.n29_ntmps ρ
    go_wp2
    refine wp_loop_rounds 1 ?_
    rw [rounds_succ]
    go_wp2
    all_goals first | (exfalso; omega) | (go_end0; exact ⟨rfl, d, [], H0.out.2, List.Pairwise.nil, St.refl _, H0.out.1⟩)
  · obtain ⟨x0, A0, rfl⟩ : ∃ x0 A0, A = x0 :: A0 := List.exists_cons_of_ne_nil hA
    have q1 : a < b := by rw [hb, List.length_cons]; omega
    have HB := Lib.hid hb
    clear h0 hH hd hl hA ha hb
    go_enter L.f29, BodyGt.n29_ntmps ρ
    go_wp2
    go_loopw [6] (fun vi wr => ∃ (i : Nat) (dk : Array α) (M R : List α), vi = .int .i64 i ∧ a < i ∧ i ≤ b ∧ dk.toList = p ++ (M ++ (R ++ s)) ∧ a + M.length = i ∧ i + R.length = b ∧ Ris lt M ∧ St lt (x0 :: A0) (M ++ R) ∧ Srt enc w blk off d dk wr ∧ wr.cell? ⟨w.heap.size, 0, none⟩ = some (.func (.func g) #[] lb) ∧ wr.cell? ⟨w.heap.size, 1, none⟩ = some (.func (.func sf) #[] sb)) (fun vi _ => b + 1 - (intOf vi).toNat)
    case atStart => exact ⟨a + 1, d, [x0], A0, by go_num, by omega, by omega, by rw [H0.out.2]; simp, rfl, by rw [HB.out, List.length_cons]; omega, by simp [Ris], St.refl _, H0.out.1, by simp, by simp⟩
    case round =>
      obtain ⟨i, dk, M, R, rfl, hai, hib, hdk, hM, hR, hris, hst, hS, hc0, hc1⟩ := hrel
      have HS := Lib.hid (And.intro hS (And.intro hdk (And.intro hM (And.intro hR (And.intro hris hst)))))
      clear hS hdk hM hR hris hst
      by_cases hlt : i < b
      · obtain ⟨x, R', hRx⟩ : ∃ x R', R = x :: R' := List.exists_cons_of_ne_nil (by intro e; have := HS.out.2.2.2.1; rw [e] at this; simp at this; omega)
        have HRx := Lib.hid hRx
        clear hRx
        go_wp2
        go_loopw [7] (fun vj wr2 => ∃ (j : Nat) (dj : Array α) (M1 M2 : List α), vj = .int .i64 j ∧ a ≤ j ∧ j ≤ i ∧ dj.toList = p ++ (M1 ++ (x :: (M2 ++ (R' ++ s)))) ∧ a + M1.length = j ∧ M = M1 ++ M2 ∧ (∀ y ∈ M2, lt x y = true) ∧ Srt enc w blk off d dj wr2 ∧ wr2.cell? ⟨w.heap.size, 0, none⟩ = some (.func (.func g) #[] lb) ∧ wr2.cell? ⟨w.heap.size, 1, none⟩ = some (.func (.func sf) #[] sb)) (fun vj _ => (intOf vj).toNat)
        case atStart => exact ⟨i, dk, M, [], rfl, by omega, Nat.le_refl _, by rw [HS.out.2.1, HRx.out]; simp, HS.out.2.2.1, by simp, by simp, HS.out.1, hc0, hc1⟩
        case round =>
          clear hc0 hc1
          obtain ⟨j, dj, M1, M2, rfl, haj, hji, hdj, hM1, hM12, hx2, hS2, hc0, hc1⟩ := hrel
          have HJ := Lib.hid (And.intro hS2 (And.intro hdj (And.intro hM1 (And.intro hM12 hx2))))
          have hdz := hS2.size
          have hwb : blk < wr.heap.size := Nat.lt_of_lt_of_le hblk hS2.1.size
          have OUT : Hid ((∀ y ∈ M1, lt x y = false) → ∀ w2, Below wr.heap.size wr w2 → ∃ (i' : Nat) (dk' : Array α) (M' R' : List α), Value.int .i64 ((i : Int) + 1) = .int .i64 i' ∧ a < i' ∧ i' ≤ b ∧ dk'.toList = p ++ (M' ++ (R' ++ s)) ∧ a + M'.length = i' ∧ i' + R'.length = b ∧ Ris lt M' ∧ St lt (x0 :: A0) (M' ++ R') ∧ Srt enc w blk off d dk' w2 ∧ w2.cell? ⟨w.heap.size, 0, none⟩ = some (.func (.func g) #[] lb) ∧ w2.cell? ⟨w.heap.size, 1, none⟩ = some (.func (.func sf) #[] sb)) := Lib.hid (fun h1 w2 hb2 => by
            have hh := HS.out
            have hj := HJ.out
            have hr := HRx.out
            have e1 : M.length = M1.length + M2.length := by rw [hj.2.2.2.1, List.length_append]
            have e2 : R.length = R'.length + 1 := by rw [hr, List.length_cons]
            refine ⟨i + 1, dj, M1 ++ x :: M2, R', rfl, by omega, by omega, by rw [hj.2.1]; simp, by rw [List.length_append, List.length_cons]; omega, by omega, ?_, ?_, hj.1.below hblk hb2, bcell hb2 hc0, bcell hb2 hc1⟩
            · exact ins_ris hwk (by rw [← hj.2.2.2.1]; exact hh.2.2.2.2.1) h1 hj.2.2.2.2
            · have k := hh.2.2.2.2.2
              rw [hr, hj.2.2.2.1, show M1 ++ M2 ++ x :: R' = M1 ++ M2 ++ [x] ++ R' by simp] at k
              exact k.trans (St.app (ins_st hwk hj.2.2.2.2) (St.refl R')))
          have HW := Lib.hid (And.intro hS2 hwb)
          by_cases hja : a < j
          · obtain ⟨M0, y, hy⟩ : ∃ M0 y, M1 = M0 ++ [y] := ⟨M1.dropLast, M1.getLast (by intro e; simp [e] at hM1; omega), (List.dropLast_concat_getLast _).symm⟩
            have hM0 : a + M0.length + 1 = j := by rw [hy, List.length_append, List.length_singleton] at hM1; omega
            have ey : dj[j - 1]! = y := bang_of (u := p ++ M0) (t := x :: (M2 ++ (R' ++ s))) (by rw [hdj, hy]; simp) (by rw [List.length_append, ← HA.out]; omega)
            have ex : dj[j]! = x := bang_of (u := p ++ M1) (t := M2 ++ (R' ++ s)) (by rw [hdj]; simp) (by rw [List.length_append, ← HA.out]; omega)
            have hl := hless wr dj hS2 j (j - 1) (by omega) (by omega)
            rw [ex, ey, show (((j - 1 : Nat) : Int)) = (j : Int) - 1 by omega] at hl
            have HY := Lib.hid (And.intro hy (And.intro hM0 (And.intro ey ex)))
            clear hdj hM1 hM12 hx2 hS2 hy hM0 ey ex
            cases hlv : lt x y with
            | true =>
              rw [hlv] at hl
              have HSW : Hid (∀ w1, Below wr.heap.size wr w1 → (callFunc sf (#[.int .i64 j, .int .i64 ((j : Int) - 1)] ++ sb)).run P w1 = .ok (.value (.tuple #[])) ((w1.setCell ⟨blk, off + j, none⟩ (enc dj[j - 1]!)).setCell ⟨blk, off + (j - 1), none⟩ (enc dj[j]!))) := Lib.hid (fun w1 hb1 => by
                have hs := hswap w1 dj (HW.out.1.below hblk hb1).2.1 hdz j (j - 1) (by omega) (by omega)
                rw [show (((j - 1 : Nat) : Int)) = (j : Int) - 1 by omega] at hs
                exact hs)
              go_wp2_with (go_at_fn g; refine hl.mono ?_; rintro e w1 ⟨rfl, hb1⟩; have hs := HSW.out w1 hb1; have hd0 := bcell hb1 hc0; have hd1 := bcell hb1 hc1)
              have HS3 := Lib.hid (HW.out.1.below hblk hb1)
              have hj := HJ.out
              have hyy := HY.out
              have hsw := HS3.out.swap (i := j) (j := j - 1) (by omega) (by omega)
              have hls := swp_list (d := dj) (u := p ++ M0) (v := []) (t := M2 ++ (R' ++ s)) (x := y) (y := x) (i := j - 1) (j := j) (by rw [hj.2.1, hyy.1]; simp) (by rw [List.length_append, ← HA.out]; omega) (by simp; omega)
              refine ⟨⟨j - 1, swp dj j (j - 1), M0, y :: M2, by congr 1; omega, by omega, by omega, ?_, by omega, by rw [hj.2.2.2.1, hyy.1]; simp, ?_, hsw, ?_, ?_⟩, by simp [intOf]; omega⟩
              · rw [swp_comm _ _ _ (by omega), hls]; simp
              · intro z hz
                rcases List.mem_cons.1 hz with rfl | hz
                · exact hlv
                · exact hj.2.2.2.2 z hz
              · rw [World.cell?_setCell_far _ _ _ _ (by show blk ≠ w.heap.size; omega), World.cell?_setCell_far _ _ _ _ (by show blk ≠ w.heap.size; omega)]
                exact hd0
              · rw [World.cell?_setCell_far _ _ _ _ (by show blk ≠ w.heap.size; omega), World.cell?_setCell_far _ _ _ _ (by show blk ≠ w.heap.size; omega)]
                exact hd1
            | false =>
              rw [hlv] at hl
              go_wp2_with (go_at_fn g; refine hl.mono ?_; rintro e w1 ⟨rfl, hb1⟩)
              refine ⟨OUT.out (fun z hz => ?_) w1 hb1, by simp [intOf]; omega⟩
              have hj := HJ.out
              have hyy := HY.out
              rw [hyy.1] at hz
              rcases List.mem_append.1 hz with hz | hz
              · have hr := HS.out.2.2.2.2.1
                rw [hj.2.2.2.1, hyy.1, Ris.app, Ris.app] at hr
                exact hwk.tr x y z hlv (hr.1.2.2 z hz y (List.mem_singleton.2 rfl))
              · rw [List.mem_singleton.1 hz]
                exact hlv
          · have hj := HJ.out.2.2.1
            have hn : M1 = [] := List.eq_nil_of_length_eq_zero (by omega)
            clear hdj hM1 hM12 hx2 hS2 hj
            go_wp2
            refine ⟨OUT.out (fun z hz => by rw [hn] at hz; cases hz) wr (Below.refl _ _), by simp [intOf]; omega⟩
      · have he : i = b := by omega
        have hh := HS.out
        have hRn : R = [] := List.eq_nil_of_length_eq_zero (by omega)
        have HR := Lib.hid hRn
        clear hh hRn
        go_wp2
        go_end0
        have hh := HS.out
        rw [HR.out] at hh
        exact ⟨rfl, dk, M, by rw [hh.2.1]; rfl, hh.2.2.2.2.1, by simpa using hh.2.2.2.2.2, hh.1⟩
end Go.Proofs.YtbnfeicpjmfooaaGreatDoor.Stb
/-
A stable sort, over any program: symMerge_func where one side has one element.
-/
set_option linter.unusedSimpArgs false
set_option linter.unusedVariables false
namespace Go.Proofs.YtbnfeicpjmfooaaGreatDoor.Stb
open Go.Shelf Go.RowKit Go.Lib Go.Sort Go.Proofs
variable {P : Program} {ρ : Ren} {α : Type} [Inhabited α]
theorem bang_get {d : Array α} {p B s : List α} (hd : d.toList = p ++ (B ++ s)) {h : Nat} (h1 : p.length ≤ h) (h2 : h < p.length + B.length) : d[h]! = B[h - p.length]'(by omega) := by
  have hl : h < d.size := by rw [← Array.length_toList, hd, List.length_append, List.length_append]; omega
  rw [getElem!_pos d h hl, ← Array.getElem_toList]
  simp only [hd]
  rw [List.getElem_append_right h1, List.getElem_append_left (by omega)]
theorem ris_idx {lt : α → α → Bool} (hw : Wk lt) {d : Array α} {p B s : List α} (hd : d.toList = p ++ (B ++ s)) (hB : Ris lt B) {h k : Nat} (h1 : p.length ≤ h) (h2 : h ≤ k) (h3 : k < p.length + B.length) : lt d[k]! d[h]! = false := by
  rw [bang_get hd h1 (by omega), bang_get hd (by omega) h3]
  by_cases e : h = k
  · subst e; exact hw.self _
  · exact List.pairwise_iff_getElem.1 hB _ _ _ _ (by omega)
theorem idx_take {d : Array α} {p B s : List α} (hd : d.toList = p ++ (B ++ s)) {q : Nat} {y : α} (hy : y ∈ B.take q) : ∃ h, p.length ≤ h ∧ h < p.length + q ∧ h < p.length + B.length ∧ d[h]! = y := by
  obtain ⟨i, hi, rfl⟩ := List.mem_iff_getElem.1 hy
  rw [List.length_take] at hi
  refine ⟨p.length + i, by omega, by omega, by omega, ?_⟩
  rw [bang_get hd (by omega) (by omega), List.getElem_take]
  congr 1
  omega
theorem idx_drop {d : Array α} {p B s : List α} (hd : d.toList = p ++ (B ++ s)) {q : Nat} {y : α} (hy : y ∈ B.drop q) : ∃ h, p.length + q ≤ h ∧ h < p.length + B.length ∧ d[h]! = y := by
  obtain ⟨i, hi, rfl⟩ := List.mem_iff_getElem.1 hy
  rw [List.length_drop] at hi
  refine ⟨p.length + (q + i), by omega, by omega, ?_⟩
  rw [bang_get hd (by omega) (by omega), List.getElem_drop]
  congr 1
  omega
set_option maxHeartbeats 2000000 in
set_option maxRecDepth 100000 in
theorem sym_one (L : LaysGt.n30 P ρ) (enc : α → Value) (lt : α → α → Bool) (hwk : Wk lt) (g : Nat) (lb : Array Value) (sf : Nat) (sb : Array Value) (blk off : Nat) (d : Array α) (w : World)
    (eg : ∀ args w, (callFunc g args).run P w = .ok (.enter g args) w) (hless : LessB P g lb enc lt blk off d w) (hswap : SwapSwaps P sf sb enc blk off d.size) (hH : Holds enc w blk off d) (hblk : blk < w.heap.size) (hsz : d.size < 4611686018427387904) {p B s : List α} {x : α} (hd : d.toList = p ++ (x :: (B ++ s))) (hB : Ris lt B)
    {x1 x2 x3 : Int} (hx : x1 = p.length) (hy : x2 = (p.length + 1 : Nat)) (hz : x3 = (p.length + 1 + B.length : Nat)) :
    Calls P (ρ.f 30) #[.agg #[.func (.func g) #[] lb, .func (.func sf) #[] sb], .int .i64 x1, .int .i64 x2, .int .i64 x3] w fun e w' => e = .returned (.tuple #[]) ∧ ∃ (d' : Array α) (M : List α), d'.toList = p ++ (M ++ s) ∧ Ris lt M ∧ St lt (x :: B) M ∧ Srt enc w blk off d d' w' := by
  have mixed := L.mixed; have t0 := L.t0; have a0 := L.a0; have z0 := L.z0; have v0 := L.v0; have t3 := L.t3; have a3 := L.a3; have z3 := L.z3; have v3 := L.v3; have t4 := L.t4; have a4 := L.a4; have z4 := L.z4; have v4 := L.v4; have t26 := L.t26; have a26 := L.a26; have z26 := L.z26; have v26 := L.v26; have t38 := L.t38; have a38 := L.a38; have z38 := L.z38; have v38 := L.v38; have t42 := L.t42; have a42 := L.a42; have z42 := L.z42; have v42 := L.v42; have t47 := L.t47; have a47 := L.a47; have z47 := L.z47; have v47 := L.v47
  have u42 := run_underlying L.t42
  have hl : d.size = p.length + (1 + (B.length + s.length)) := by rw [← Array.length_toList, hd]; simp; omega
  have hd1 : d.toList = (p ++ [x]) ++ (B ++ s) := by rw [hd]; simp
  have hpl : (p ++ [x]).length = p.length + 1 := by simp
  have ex : d[p.length]! = x := bang_of hd rfl
  have HI : Hid (∀ h k : Nat, p.length + 1 ≤ h → h ≤ k → k < p.length + 1 + B.length → lt d[k]! d[h]! = false) := Lib.hid (fun h k h1 h2 h3 => ris_idx hwk hd1 hB (by rw [hpl]; exact h1) h2 (by rw [hpl]; exact h3))
  have HT : Hid (∀ q y, y ∈ B.take q → ∃ h, p.length + 1 ≤ h ∧ h < p.length + 1 + q ∧ h < p.length + 1 + B.length ∧ d[h]! = y) := Lib.hid (fun q y hy => by have := idx_take hd1 hy; rw [hpl] at this; exact this)
  have HDr : Hid (∀ q y, y ∈ B.drop q → ∃ h, p.length + 1 + q ≤ h ∧ h < p.length + 1 + B.length ∧ d[h]! = y) := Lib.hid (fun q y hy => by have := idx_drop hd1 hy; rw [hpl] at this; exact this)
  have h0 := (Srt.start hH).alloc hblk (.cells #[.func (.func g) #[] lb, .func (.func sf) #[] sb] (ρ.t 42))
  have H0 := Lib.hid (And.intro h0 (And.intro hd (And.intro hB ex)))
  obtain ⟨a, ha⟩ : ∃ a : Nat, a = p.length := ⟨_, rfl⟩
  rw [← ha] at hx hy hz HI HT HDr hl H0
  obtain ⟨b, hb⟩ : ∃ b : Nat, b = a + 1 + B.length := ⟨_, rfl⟩
  rw [← hb] at hz HI HT HDr
  obtain ⟨m, hm⟩ : ∃ m : Nat, m = a + 1 := ⟨_, rfl⟩
  rw [← hm] at hy
  have hm1 : a + 1 ≤ m := by omega
  have hm2 : m ≤ a + 1 := by omega
  have hmq : ((m : Int) - (a : Int) == 1) = true := by rw [beq_iff_eq]; omega
  clear hm
  subst hx hy hz
  have HA := Lib.hid (And.intro ha (And.intro hb hl))
  have q1 : a + 1 ≤ b := by omega
  have q3 : b ≤ d.size := by omega
  clear h0 hH hd hd1 hpl hB ex ha hb hl
  go_enter L.f30, BodyGt.n30_ntmps ρ
  go_wp2
  go_loopw [8, 9] (fun vi vj wr => ∃ i j : Nat, vi = .int .i64 i ∧ vj = .int .i64 j ∧ a + 1 ≤ i ∧ i ≤ j ∧ j ≤ b ∧ (∀ h, a + 1 ≤ h → h < i → lt d[h]! x = true) ∧ (∀ h, j ≤ h → h < b → lt d[h]! x = false) ∧ Srt enc w blk off d d wr ∧ wr.cell? ⟨w.heap.size, 0, none⟩ = some (.func (.func g) #[] lb) ∧ wr.cell? ⟨w.heap.size, 1, none⟩ = some (.func (.func sf) #[] sb)) (fun vi vj _ => (intOf vj).toNat - (intOf vi).toNat)
  case atStart => exact ⟨m, b, rfl, rfl, by omega, by omega, by omega, fun h h1 h2 => absurd h1 (by omega), fun h h1 h2 => absurd h1 (by omega), H0.out.1, by simp, by simp⟩
  case round =>
    obtain ⟨i, j, rfl, rfl, hai, hij, hjb, hlo, hhi, hS, hc0, hc1⟩ := hrel
    have HS := Lib.hid (And.intro hS (And.intro hlo hhi))
    clear hlo hhi
    by_cases hlt : i < j
    · obtain ⟨h, hh⟩ : ∃ h : Nat, h = (i + j) / 2 := ⟨_, rfl⟩
      have hl := hless wr d hS h a (by omega) (by omega)
      have hxa : d[a]! = x := H0.out.2.2.2
      rw [hxa] at hl
      rw [show ((h : Nat) : Int) = ((i : Int) + j) / 2 by omega] at hl
      have q4 : i ≤ h := by omega
      have q5 : h < j := by omega
      have HH := Lib.hid hh
      clear hS hh
      cases hlv : lt d[h]! x with
      | true =>
        rw [hlv] at hl
        go_wp2_with (go_at_fn g; refine hl.mono ?_; rintro e w1 ⟨rfl, hb1⟩)
        have hs := HS.out
        have hh := HH.out
        refine ⟨⟨h + 1, j, by congr 1; omega, rfl, by omega, by omega, hjb, fun k h1 h2 => ?_, hs.2.2, hs.1.below hblk hb1, bcell hb1 hc0, bcell hb1 hc1⟩, by simp [intOf]; omega⟩
        by_cases hk : k < i
        · exact hs.2.1 k h1 hk
        · exact hwk.le_lt hlv (HI.out k h h1 (by omega) (by omega))
      | false =>
        rw [hlv] at hl
        go_wp2_with (go_at_fn g; refine hl.mono ?_; rintro e w1 ⟨rfl, hb1⟩)
        have hs := HS.out
        have hh := HH.out
        refine ⟨⟨i, h, rfl, by congr 1; omega, by omega, by omega, by omega, hs.2.1, fun k h1 h2 => ?_, hs.1.below hblk hb1, bcell hb1 hc0, bcell hb1 hc1⟩, by simp [intOf]; omega⟩
        exact hwk.tr _ _ _ (HI.out h k (by omega) h1 h2) hlv
    · have he : i = j := by omega
      subst he
      have hB1 : ∀ y ∈ B.take (i - (a + 1)), lt y x = true := fun y hy => by
        obtain ⟨h, h1, h2, h3, rfl⟩ := HT.out _ y hy
        exact HS.out.2.1 h h1 (by omega)
      have hB2 : ∀ y ∈ B.drop (i - (a + 1)), lt y x = false := fun y hy => by
        obtain ⟨h, h1, h2, rfl⟩ := HDr.out _ y hy
        exact HS.out.2.2 h (by omega) h2
      obtain ⟨B1, e1⟩ : ∃ B1, B1 = B.take (i - (a + 1)) := ⟨_, rfl⟩
      obtain ⟨B2, e2⟩ : ∃ B2, B2 = B.drop (i - (a + 1)) := ⟨_, rfl⟩
      have hBB : B = B1 ++ B2 := by rw [e1, e2, List.take_append_drop]
      have hl1 : a + 1 + B1.length = i := by
        have := HA.out.2.1
        rw [e1, List.length_take]
        omega
      rw [← e1] at hB1
      rw [← e2] at hB2
      have HX := Lib.hid (And.intro hB1 (And.intro hB2 (And.intro hBB hl1)))
      have hi1 : a + 1 ≤ i := hai
      clear hB1 hB2 e1 e2 hBB hl1 hS
      go_wp2
      go_loopw [11] (fun vk wr2 => ∃ (k : Nat) (dk : Array α) (Bd Br : List α), vk = .int .i64 k ∧ a ≤ k ∧ k + 1 ≤ i ∧ dk.toList = p ++ (Bd ++ (x :: (Br ++ (B2 ++ s)))) ∧ a + Bd.length = k ∧ B1 = Bd ++ Br ∧ Srt enc w blk off d dk wr2 ∧ wr2.cell? ⟨w.heap.size, 1, none⟩ = some (.func (.func sf) #[] sb)) (fun vk _ => i - (intOf vk).toNat)
      case atStart => exact ⟨a, d, [], B1, rfl, Nat.le_refl _, hi1, by rw [H0.out.2.1, HX.out.2.2.1]; simp, rfl, rfl, HS.out.1, hc1⟩
      case round =>
        clear hc0 hc1
        obtain ⟨k, dk, Bd, Br, rfl, hak, hki, hdk, hBd, hB12, hS2, hc1⟩ := hrel
        have hdz := hS2.size
        have hX := HX.out.2.2.2
        have hBl : B1.length = Bd.length + Br.length := by rw [hB12, List.length_append]
        have HK := Lib.hid (And.intro hS2 (And.intro hdk (And.intro hBd hB12)))
        by_cases hk : k + 1 < i
        · obtain ⟨y, Br', hy⟩ : ∃ y Br', Br = y :: Br' := List.exists_cons_of_ne_nil (by intro e; rw [e] at hBl; simp at hBl; omega)
          have hs := hswap wr dk hS2.2.1 hdz k (k + 1) (by omega) (by omega)
          rw [show (((k + 1 : Nat) : Int)) = (k : Int) + 1 by omega] at hs
          have HY := Lib.hid hy
          clear hdk hBd hB12 hS2 hX hBl hy
          go_wp2
          have hkk := HK.out
          have hyy := HY.out
          have hsw := hkk.1.swap (i := k) (j := k + 1) (by omega) (by omega)
          have hls := swp_list (d := dk) (u := p ++ Bd) (v := []) (t := Br' ++ (B2 ++ s)) (x := x) (y := y) (i := k) (j := k + 1) (by rw [hkk.2.1, hyy]; simp) (by rw [List.length_append, ← HA.out.1]; exact hkk.2.2.1) (by simp)
          refine ⟨⟨k + 1, swp dk k (k + 1), Bd ++ [y], Br', rfl, by omega, by omega, by rw [hls]; simp, by rw [List.length_append, List.length_singleton]; omega, by rw [hkk.2.2.2, hyy]; simp, hsw, ?_⟩, by simp [intOf]; omega⟩
          rw [World.cell?_setCell_far _ _ _ _ (by show blk ≠ w.heap.size; omega), World.cell?_setCell_far _ _ _ _ (by show blk ≠ w.heap.size; omega)]
          exact hc1
        · have hn : Br = [] := List.eq_nil_of_length_eq_zero (by omega)
          have HN := Lib.hid hn
          clear hdk hBd hB12 hS2 hX hBl hn
          go_wp2
          refine bodyPost_ret (results_none rfl _ _ _) rfl ?_
          have hkk := HK.out
          have hX := HX.out
          rw [HN.out, List.append_nil] at hkk
          have hr : Ris lt (B1 ++ B2) := by rw [← hX.2.2.1]; exact H0.out.2.2.1
          have h1 : ∀ b ∈ B1, ∀ a ∈ [x], lt b a = true := fun b hb a ha => by rw [List.mem_singleton.1 ha]; exact hX.1 b hb
          refine ⟨rfl, dk, B1 ++ x :: B2, by rw [hkk.2.1, ← hkk.2.2.2]; simp, ?_, ?_, hkk.1⟩
          · exact merged_ris hwk (A1 := []) (A2 := [x]) (B1 := B1) (B2 := B2) (by simp [Ris]) hr h1 (fun a ha => by cases ha) (Ris.app.1 hr).1 (List.pairwise_cons.2 ⟨fun z hz => hX.2.1 z hz, (Ris.app.1 hr).2.1⟩) (St.refl _) (St.refl _)
          · have h2 := merged_st hwk (A1 := []) (A2 := [x]) (B1 := B1) (B2 := B2) (M1 := B1) (M2 := x :: B2) h1 (St.refl _) (St.refl _)
            rw [hX.2.2.1]
            simpa using h2
end Go.Proofs.YtbnfeicpjmfooaaGreatDoor.Stb
/-
A stable sort, over any program: symMerge_func where the second side has one element.
-/
set_option linter.unusedSimpArgs false
set_option linter.unusedVariables false
namespace Go.Proofs.YtbnfeicpjmfooaaGreatDoor.Stb
open Go.Shelf Go.RowKit Go.Lib Go.Sort Go.Proofs
variable {P : Program} {ρ : Ren} {α : Type} [Inhabited α]
set_option maxHeartbeats 2000000 in
set_option maxRecDepth 100000 in
theorem sym_last (L : LaysGt.n30 P ρ) (enc : α → Value) (lt : α → α → Bool) (hwk : Wk lt) (g : Nat) (lb : Array Value) (sf : Nat) (sb : Array Value) (blk off : Nat) (d : Array α) (w : World)
    (eg : ∀ args w, (callFunc g args).run P w = .ok (.enter g args) w) (hless : LessB P g lb enc lt blk off d w) (hswap : SwapSwaps P sf sb enc blk off d.size) (hH : Holds enc w blk off d) (hblk : blk < w.heap.size) (hsz : d.size < 4611686018427387904) {p A s : List α} {y : α} (hd : d.toList = p ++ (A ++ (y :: s))) (hA : Ris lt A) (hA2 : 2 ≤ A.length)
    {x1 x2 x3 : Int} (hx : x1 = p.length) (hy : x2 = (p.length + A.length : Nat)) (hz : x3 = (p.length + A.length + 1 : Nat)) :
    Calls P (ρ.f 30) #[.agg #[.func (.func g) #[] lb, .func (.func sf) #[] sb], .int .i64 x1, .int .i64 x2, .int .i64 x3] w fun e w' => e = .returned (.tuple #[]) ∧ ∃ (d' : Array α) (M : List α), d'.toList = p ++ (M ++ s) ∧ Ris lt M ∧ St lt (A ++ [y]) M ∧ Srt enc w blk off d d' w' := by
  have mixed := L.mixed; have t0 := L.t0; have a0 := L.a0; have z0 := L.z0; have v0 := L.v0; have t3 := L.t3; have a3 := L.a3; have z3 := L.z3; have v3 := L.v3; have t4 := L.t4; have a4 := L.a4; have z4 := L.z4; have v4 := L.v4; have t26 := L.t26; have a26 := L.a26; have z26 := L.z26; have v26 := L.v26; have t38 := L.t38; have a38 := L.a38; have z38 := L.z38; have v38 := L.v38; have t42 := L.t42; have a42 := L.a42; have z42 := L.z42; have v42 := L.v42; have t47 := L.t47; have a47 := L.a47; have z47 := L.z47; have v47 := L.v47
  have u42 := run_underlying L.t42
  have hl : d.size = p.length + (A.length + (1 + s.length)) := by rw [← Array.length_toList, hd]; simp; omega
  have ey : d[p.length + A.length]! = y := bang_of (u := p ++ A) (t := s) (by rw [hd]; simp) (by simp)
  have HI : Hid (∀ h k : Nat, p.length ≤ h → h ≤ k → k < p.length + A.length → lt d[k]! d[h]! = false) := Lib.hid (fun h k h1 h2 h3 => ris_idx hwk hd hA h1 h2 h3)
  have HT : Hid (∀ q y, y ∈ A.take q → ∃ h, p.length ≤ h ∧ h < p.length + q ∧ h < p.length + A.length ∧ d[h]! = y) := Lib.hid (fun q y hy => idx_take hd hy)
  have HDr : Hid (∀ q y, y ∈ A.drop q → ∃ h, p.length + q ≤ h ∧ h < p.length + A.length ∧ d[h]! = y) := Lib.hid (fun q y hy => idx_drop hd hy)
  have h0 := (Srt.start hH).alloc hblk (.cells #[.func (.func g) #[] lb, .func (.func sf) #[] sb] (ρ.t 42))
  have H0 := Lib.hid (And.intro h0 (And.intro hd (And.intro hA ey)))
  obtain ⟨a, ha⟩ : ∃ a : Nat, a = p.length := ⟨_, rfl⟩
  rw [← ha] at hx hy hz HI HT HDr hl H0
  obtain ⟨m, hm⟩ : ∃ m : Nat, m = a + A.length := ⟨_, rfl⟩
  rw [← hm] at hy hz HI HT HDr H0
  obtain ⟨b, hb⟩ : ∃ b : Nat, b = m + 1 := ⟨_, rfl⟩
  rw [← hb] at hz
  have hm1 : a + 2 ≤ m := by omega
  have hmb : m < b := by omega
  have hmq : ((m : Int) - (a : Int) == 1) = false := by rw [Bool.eq_false_iff]; intro h; rw [beq_iff_eq] at h; omega
  have hbq : ((b : Int) - (m : Int) == 1) = true := by rw [beq_iff_eq]; omega
  subst hx hy hz
  have HA := Lib.hid (And.intro ha (And.intro hm hl))
  have q3 : b ≤ d.size := by omega
  clear h0 hH hd hA ey ha hb hl hm hA2
  go_enter L.f30, BodyGt.n30_ntmps ρ
  go_wp2
  go_loopw [12, 13] (fun vi vj wr => ∃ i j : Nat, vi = .int .i64 i ∧ vj = .int .i64 j ∧ a ≤ i ∧ i ≤ j ∧ j ≤ m ∧ (∀ h, a ≤ h → h < i → lt y d[h]! = false) ∧ (∀ h, j ≤ h → h < m → lt y d[h]! = true) ∧ Srt enc w blk off d d wr ∧ wr.cell? ⟨w.heap.size, 0, none⟩ = some (.func (.func g) #[] lb) ∧ wr.cell? ⟨w.heap.size, 1, none⟩ = some (.func (.func sf) #[] sb)) (fun vi vj _ => (intOf vj).toNat - (intOf vi).toNat)
  case atStart => exact ⟨a, m, rfl, rfl, by omega, by omega, by omega, fun h h1 h2 => absurd h1 (by omega), fun h h1 h2 => absurd h1 (by omega), H0.out.1, by simp, by simp⟩
  case round =>
    obtain ⟨i, j, rfl, rfl, hai, hij, hjm, hlo, hhi, hS, hc0, hc1⟩ := hrel
    have HS := Lib.hid (And.intro hS (And.intro hlo hhi))
    clear hlo hhi
    by_cases hlt : i < j
    · obtain ⟨h, hh⟩ : ∃ h : Nat, h = (i + j) / 2 := ⟨_, rfl⟩
      have hl := hless wr d hS m h (by omega) (by omega)
      have hym : d[m]! = y := H0.out.2.2.2
      rw [hym] at hl
      rw [show ((h : Nat) : Int) = ((i : Int) + j) / 2 by omega] at hl
      have q4 : i ≤ h := by omega
      have q5 : h < j := by omega
      have HH := Lib.hid hh
      clear hS hh hym
      cases hlv : lt y d[h]! with
      | false =>
        rw [hlv] at hl
        go_wp2_with (go_at_fn g; refine hl.mono ?_; rintro e w1 ⟨rfl, hb1⟩)
        have hs := HS.out
        have hh := HH.out
        refine ⟨⟨h + 1, j, by congr 1; omega, rfl, by omega, by omega, hjm, fun k h1 h2 => ?_, hs.2.2, hs.1.below hblk hb1, bcell hb1 hc0, bcell hb1 hc1⟩, by simp [intOf]; omega⟩
        by_cases hk : k < i
        · exact hs.2.1 k h1 hk
        · exact hwk.tr _ _ _ hlv (HI.out k h h1 (by omega) (by omega))
      | true =>
        rw [hlv] at hl
        go_wp2_with (go_at_fn g; refine hl.mono ?_; rintro e w1 ⟨rfl, hb1⟩)
        have hs := HS.out
        have hh := HH.out
        refine ⟨⟨i, h, rfl, by congr 1; omega, by omega, by omega, by omega, hs.2.1, fun k h1 h2 => ?_, hs.1.below hblk hb1, bcell hb1 hc0, bcell hb1 hc1⟩, by simp [intOf]; omega⟩
        exact hwk.lt_le hlv (HI.out h k (by omega) h1 h2)
    · have he : i = j := by omega
      subst he
      have hB1 : ∀ z ∈ A.take (i - a), lt y z = false := fun z hz => by
        obtain ⟨h, h1, h2, h3, rfl⟩ := HT.out _ z hz
        exact HS.out.2.1 h h1 (by omega)
      have hB2 : ∀ z ∈ A.drop (i - a), lt y z = true := fun z hz => by
        obtain ⟨h, h1, h2, rfl⟩ := HDr.out _ z hz
        exact HS.out.2.2 h (by omega) h2
      obtain ⟨A1, e1⟩ : ∃ A1, A1 = A.take (i - a) := ⟨_, rfl⟩
      obtain ⟨A2, e2⟩ : ∃ A2, A2 = A.drop (i - a) := ⟨_, rfl⟩
      have hAA : A = A1 ++ A2 := by rw [e1, e2, List.take_append_drop]
      have hl1 : a + A1.length = i := by
        have := HA.out.2.1
        rw [e1, List.length_take]
        omega
      have hl2 : i + A2.length = m := by
        have := HA.out.2.1
        rw [e2, List.length_drop]
        omega
      rw [← e1] at hB1
      rw [← e2] at hB2
      have HX := Lib.hid (And.intro hB1 (And.intro hB2 (And.intro hAA (And.intro hl1 hl2))))
      clear hB1 hB2 e1 e2 hAA hl1 hl2 hS
      go_wp2
      go_loopw [15] (fun vk wr2 => ∃ (k : Nat) (dk : Array α) (Ar Ad : List α), vk = .int .i64 k ∧ i ≤ k ∧ k ≤ m ∧ dk.toList = p ++ (A1 ++ (Ar ++ (y :: (Ad ++ s)))) ∧ i + Ar.length = k ∧ A2 = Ar ++ Ad ∧ Srt enc w blk off d dk wr2 ∧ wr2.cell? ⟨w.heap.size, 1, none⟩ = some (.func (.func sf) #[] sb)) (fun vk _ => (intOf vk).toNat)
      case atStart => exact ⟨m, d, A2, [], rfl, hjm, Nat.le_refl _, by rw [H0.out.2.1, HX.out.2.2.1]; simp, HX.out.2.2.2.2, by simp, HS.out.1, hc1⟩
      case round =>
        clear hc0 hc1
        obtain ⟨k, dk, Ar, Ad, rfl, hik, hkm, hdk, hAr, hA12, hS2, hc1⟩ := hrel
        have hdz := hS2.size
        have HK := Lib.hid (And.intro hS2 (And.intro hdk (And.intro hAr hA12)))
        by_cases hk : i < k
        · obtain ⟨Ar', z, hz⟩ : ∃ Ar' z, Ar = Ar' ++ [z] := ⟨Ar.dropLast, Ar.getLast (by intro e; simp [e] at hAr; omega), (List.dropLast_concat_getLast _).symm⟩
          have hs := hswap wr dk hS2.2.1 hdz k (k - 1) (by omega) (by omega)
          rw [show (((k - 1 : Nat) : Int)) = (k : Int) - 1 by omega] at hs
          have HY := Lib.hid hz
          clear hdk hAr hA12 hS2 hz
          go_wp2
          have hkk := HK.out
          have hyy := HY.out
          have hx4 := HX.out.2.2.2.1
          have hal : Ar.length = Ar'.length + 1 := by rw [hyy, List.length_append, List.length_singleton]
          have hak := hkk.2.2.1
          have hsw := hkk.1.swap (i := k) (j := k - 1) (by omega) (by omega)
          have hls := swp_list (d := dk) (u := p ++ (A1 ++ Ar')) (v := []) (t := Ad ++ s) (x := z) (y := y) (i := k - 1) (j := k) (by rw [hkk.2.1, hyy]; simp) (by rw [List.length_append, List.length_append, ← HA.out.1]; omega) (by simp; omega)
          refine ⟨⟨k - 1, swp dk k (k - 1), Ar', z :: Ad, by congr 1; omega, by omega, by omega, by rw [swp_comm _ _ _ (by omega), hls]; simp, by omega, by rw [hkk.2.2.2, hyy]; simp, hsw, ?_⟩, by simp [intOf]; omega⟩
          rw [World.cell?_setCell_far _ _ _ _ (by show blk ≠ w.heap.size; omega), World.cell?_setCell_far _ _ _ _ (by show blk ≠ w.heap.size; omega)]
          exact hc1
        · have hn : Ar = [] := List.eq_nil_of_length_eq_zero (by omega)
          have HN := Lib.hid hn
          clear hdk hAr hA12 hS2 hn
          go_wp2
          refine bodyPost_ret (results_none rfl _ _ _) rfl ?_
          have hkk := HK.out
          have hX := HX.out
          rw [HN.out] at hkk
          have hr : Ris lt (A1 ++ A2) := by rw [← hX.2.2.1]; exact H0.out.2.2.1
          have e2 : A2 = Ad := by simpa using hkk.2.2.2
          refine ⟨rfl, dk, A1 ++ y :: A2, by rw [hkk.2.1, e2]; simp, ins_ris hwk hr hX.1 hX.2.1, ?_, hkk.1⟩
          rw [hX.2.2.1]
          exact ins_st hwk hX.2.1
end Go.Proofs.YtbnfeicpjmfooaaGreatDoor.Stb
