/-
impl.listToGo.
-/
import Derived.Test.YtdcgjfiknknjfaaGreatDoorGoT
set_option linter.unusedSimpArgs false
set_option linter.unusedVariables false
namespace Go.Proofs.YtdcgjfiknknjfaaGreatDoor.NumA
open Go.RowKit Go.Lib Go.Proofs.YtdcgjfiknknjfaaGreatDoor.ValA Go.Proofs.YtdcgjfiknknjfaaGreatDoor.FloH Go.Proofs.YtdcgjfiknknjfaaGreatDoorW.PrintWords Go.Proofs.YtdcgjfiknknjfaaGreatDoorW.PrintLast Go.Proofs.YtdcgjfiknknjfaaGreatDoorW.PrintMore Go.Proofs.YtdcgjfiknknjfaaGreatDoor.PzzFits1
/-- What listToGo gives. -/
def ListGo (w : World) (l : List V) (n : Nat) (e : Ending) (w' : World) : Prop :=
  ∃ (b : Nat) (vs : List Value), e = .returned (.tuple #[.slice (some ⟨b, 0, none⟩) n n, .bool true]) ∧ w.heap.size ≤ b ∧ vs.length = n ∧ w'.heap[b]? = some (.cells vs.toArray 20 (0, 0)) ∧ (∀ (i : Nat) (y : V) (v : Value), l[i]? = some y → vs[i]? = some v → G w.heap.size w' y v) ∧ Below w.heap.size w w'
def RL (w : World) (l : List V) (n k : Nat) (i : Value) (wr : World) : Prop :=
  ∃ (j : Nat) (vs : List Value), i = .int .i64 j ∧ k + j = n ∧ Below w.heap.size w wr ∧ vs.length = n ∧ wr.heap[w.heap.size]? = some (.cells vs.toArray 20 (0, 0)) ∧ ∀ (i : Nat) (y : V) (v : Value), i < j → l[i]? = some y → vs[i]? = some v → G (w.heap.size + 1) wr y v
theorem G.shape {n : Nat} {w : World} {x : V} {g : Value} (h : G n w x g) : g = .nilIface ∨ ∃ t v, g = .iface t v := by
  cases h with
  | flat x hk =>
    unfold fg
    split
    · exact .inl rfl
    · right
      split
      · exact ⟨_, _, rfl⟩
      · split
        · exact ⟨_, _, rfl⟩
        · split
          · unfold gv; split <;> exact ⟨_, _, rfl⟩
          · exact ⟨_, _, rfl⟩
  | list x hk b l hb hl hw he => exact .inr ⟨_, _, rfl⟩
  | map x hk b es c hb hl hw hkey he => exact .inr ⟨_, _, rfl⟩
theorem list_cell {w : World} {b j : Nat} {vs : List Value} {t : TypeId} (h : w.heap[b]? = some (.cells vs.toArray t (0, 0))) (hj : j < vs.length) : w.cell? ⟨b, j, none⟩ = some vs[j] ∧ w.frozen? ⟨b, j, none⟩ = false := by
  simp [World.cell?, World.frozen?, h, hj]
theorem rd_at (l : List V) (j : Nat) (hj : j < l.length) : l[j]? = some (rd_T26 l j) := by
  unfold rd_T26
  rw [Int.toNat_natCast, List.getD_eq_getElem?_getD, List.getElem?_eq_getElem hj, Option.getD_some]
/-- A round of listToGo. -/
theorem rl_step {w wr w4 : World} {l : List V} {n j : Nat} {vs : List Value} (g : Value) (hb5 : Below w.heap.size w w4) (hb6 : Below wr.heap.size wr w4) (hvs : vs.length = n) (hbl : w4.heap[w.heap.size]? = some (.cells vs.toArray 20 (0, 0))) (hl : l.length = n) (hlt : j < n)
    (hG : ∀ (i : Nat) (y : V) (v : Value), i < j → l[i]? = some y → vs[i]? = some v → G (w.heap.size + 1) wr y v) (hg : G (w.heap.size + 1) w4 (rd_T26 l j) g) : ∀ k, k + j = n → RL w l n (k - 1) (.int .i64 ((j + 1 : Nat) : Int)) (w4.setCell ⟨w.heap.size, j, none⟩ g) := by
  intro k hk
  have hgr : w4.grownBy (w4.setCell ⟨w.heap.size, j, none⟩ g) (some w.heap.size) := grown_set (World.grownBy.refl w4 _) j g
  refine ⟨j + 1, vs.set j g, rfl, by omega, hb5.grown hgr hb5.size (fun k hk => by cases hk; exact Nat.le_refl _), by simp [hvs], ?_, ?_⟩
  · rw [heap_set hbl j g]
    simp
  · intro i y v hi hy hv
    by_cases e : i = j
    · subst e
      rw [rd_at l i (by omega)] at hy
      obtain rfl := Option.some.inj hy
      have : v = g := by
        rw [List.getElem?_set] at hv
        simp [hvs, hlt] at hv
        exact hv.symm
      subst this
      exact hg.grown hgr (Nat.lt_succ_self _)
    · rw [List.getElem?_set_ne (Ne.symm e)] at hv
      exact ((hG i y v (by omega) hy hv).keepB hb6).grown hgr (Nat.lt_succ_self _)
set_option maxHeartbeats 4000000 in
theorem listToGo_any (w0 : World) (A : Option Addr) (n c : Nat) (l : List V) (hC : Kd.C k26 w0 A n l) (hl : l.length = n) (hn : n ≤ 400) (ih : ∀ y ∈ l, ∀ cs, k26.K w0 y cs → ToGo w0 y cs) (w : World) (hb : Below w0.heap.size w0 w) :
    Calls Tryz.prog 61 #[.slice A n c] w (ListGo w l n) := by
  have hmk := fun w => runMake n hn w
  have HC := Lib.hid hC
  have HI := Lib.hid (fun y hy cs hc => ih y hy cs hc)
  have HB := Lib.hid hb
  have HN := Lib.hid (And.intro hn hl)
  clear hC ih hb hl
  go_enter Tryz.func61, Tryz.ntmps61
  go_wp2_with fail
  obtain ⟨W1, hW1⟩ : ∃ W1, W1 = w.alloc (.cells (Array.replicate n Value.nilIface) 20) := ⟨_, rfl⟩
  have H1 := Lib.hid (show Below w.heap.size w W1 ∧ W1.heap[w.heap.size]? = some (.cells (List.replicate n Value.nilIface).toArray 20 (0, 0)) by rw [hW1, List.toArray_replicate]; exact ⟨(Below.refl _ w).alloc (Nat.le_refl _) _, heap_alloc_new w _⟩)
  rw [← hW1]
  clear hW1 hmk
  go_loopg [14] n (fun k i wr => RL w l n k i wr)
  case atStart => exact ⟨0, List.replicate n Value.nilIface, rfl, by omega, H1.out.1, by simp, H1.out.2, by omega⟩
  case round =>
    clear H1
    obtain ⟨j, vs, rfl, hkj, hbr, hvs, hbl, hG⟩ := hrel
    have HR := Lib.hid (And.intro hbr (And.intro hvs (And.intro hbl hG)))
    have HK := Lib.hid hkj
    by_cases hlt : j < n
    · obtain ⟨ad, B3, e3, B4, e4, B5, e5, rfl, x0, x1, x2, x3, x4, x5, hK⟩ := elem_at HC.out (HB.out.trans (hbr.mono HB.out.size)) j hlt
      have HL := Lib.hid (HI.out _ (rd_mem l j (by have := HN.out.2; omega)) _ hK)
      have hlt2 : (j : Int) < (n : Int) := by omega
      clear hbr hvs hbl hG hK hkj hn
      go_wp2_with fail
      refine (HL.out _ ?_).mono ?_
      · exact (HB.out.trans (HR.out.1.mono HB.out.size)).alloc (Nat.le_trans HB.out.size HR.out.1.size) _
      rintro e w4 ⟨g, rfl, hG, hb4⟩
      have hs := hG.shape
      have hb5 : Below w.heap.size w w4 := (HR.out.1.alloc HR.out.1.size _).trans (hb4.mono (Nat.le_trans HR.out.1.size (by rw [World.size_alloc]; omega)))
      have hb6 : Below wr.heap.size wr w4 := ((Below.refl _ wr).alloc (Nat.le_refl _) _).trans (hb4.mono (by rw [World.size_alloc]; omega))
      have hbl := (hb6.block _ (lt_of_heap HR.out.2.2.1)).trans HR.out.2.2.1
      have H4 := Lib.hid (rl_step g hb5 hb6 HR.out.2.1 hbl HN.out.2 hlt HR.out.2.2.2 (hG.mono (show w.heap.size + 1 ≤ _ by have := lt_of_heap HR.out.2.2.1; rw [World.size_alloc]; omega)))
      obtain ⟨q0, q1⟩ := list_cell hbl (by have := HR.out.2.1; omega : j < vs.length)
      clear x0 x1 x2 x3 x4 x5 hG hb4 hb5 hb6 hbl
      rcases hs with rfl | ⟨tt, gg, rfl⟩
      · have H5 := H4
        go_wp2_with fail
        go_roundg (gk - 1)
        case measure => have := HK.out; omega
        case rel =>
          have hw : wrap64 ((j : Int) + 1) = ((j + 1 : Nat) : Int) := by have := HN.out.1; have := HK.out; unfold wrap64; omega
          rw [hw]
          exact H5.out gk HK.out
      · have H5 := H4
        go_wp2_with fail
        go_roundg (gk - 1)
        case measure => have := HK.out; omega
        case rel =>
          have hw : wrap64 ((j : Int) + 1) = ((j + 1 : Nat) : Int) := by have := HN.out.1; have := HK.out; unfold wrap64; omega
          rw [hw]
          exact H5.out gk HK.out
    · have hlt2 : ¬ (j : Int) < (n : Int) := by omega
      have hlt3 : decide ((j : Int) < (n : Int)) = false := decide_eq_false hlt2
      have hlt4 : decide (j < n) = false := decide_eq_false hlt
      have HNL := Lib.hid hlt
      clear hbr hvs hbl hG hkj hn hlt hlt2
      go_wp2_with fail
      go_ret2
      refine ⟨w.heap.size, vs, rfl, Nat.le_refl _, HR.out.2.1, HR.out.2.2.1, fun i y v hy hv => ?_, HR.out.1⟩
      have hi := (List.getElem?_eq_some_iff.1 hy).1
      exact (HR.out.2.2.2 i y v (by have := HN.out.2; have := HNL.out; omega) hy hv).mono (Nat.le_succ _)
end Go.Proofs.YtdcgjfiknknjfaaGreatDoor.NumA
