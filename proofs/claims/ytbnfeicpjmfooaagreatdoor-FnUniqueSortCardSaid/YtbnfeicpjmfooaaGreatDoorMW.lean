/-
Parts of the proof, one behind the other: StbF.
-/
import Derived.Test.YtbnfeicpjmfooaaGreatDoorMU
/-
A stable sort, over any program: symMerge_func.
-/
set_option linter.unusedSimpArgs false
set_option linter.unusedVariables false
namespace Go.Proofs.YtbnfeicpjmfooaaGreatDoor.Stb
open Go.Shelf Go.RowKit Go.Lib Go.Sort Go.Proofs
variable {P : Program} {ρ : Ren} {α : Type} [Inhabited α]
/-- The call merges A and B. -/
def SymIs (P : Program) (ρ : Ren) (enc : α → Value) (lt : α → α → Bool) (g : Nat) (lb : Array Value) (sf : Nat) (sb : Array Value) (blk off : Nat) (d : Array α) (w : World) (p A B s : List α) : Prop :=
  ∀ x1 x2 x3 : Int, x1 = p.length → x2 = (p.length + A.length : Nat) → x3 = (p.length + A.length + B.length : Nat) →
    Calls P (ρ.f 30) #[.agg #[.func (.func g) #[] lb, .func (.func sf) #[] sb], .int .i64 x1, .int .i64 x2, .int .i64 x3] w fun e w' => e = .returned (.tuple #[]) ∧ ∃ (d' : Array α) (M : List α), d'.toList = p ++ (M ++ s) ∧ Ris lt M ∧ St lt (A ++ B) M ∧ Srt enc w blk off d d' w'
theorem ris_side {β : Type} {lt : β → β → Bool} {A B : List β} (hA : Ris lt A) (hB : Ris lt B) (h : A = [] ∨ B = []) : Ris lt (A ++ B) := by
  rcases h with rfl | rfl
  · exact hB
  · rw [List.append_nil]; exact hA
set_option maxHeartbeats 4000000 in
set_option maxRecDepth 100000 in
theorem sym_gen (L : LaysGt.n30 P ρ) (enc : α → Value) (lt : α → α → Bool) (hwk : Wk lt) (g : Nat) (lb : Array Value) (sf : Nat) (sb : Array Value) (blk off : Nat) (d : Array α) (w : World)
    (eg : ∀ args w, (callFunc g args).run P w = .ok (.enter g args) w) (hless : LessB P g lb enc lt blk off d w) (hswap : SwapSwaps P sf sb enc blk off d.size) (hH : Holds enc w blk off d) (hblk : blk < w.heap.size) (hsz : d.size < 4611686018427387904) {p A B s : List α} (hd : d.toList = p ++ (A ++ (B ++ s))) (hA : Ris lt A) (hB : Ris lt B) (hA2 : 2 ≤ A.length) (hB2 : 2 ≤ B.length)
    (IH : ∀ (d' : Array α) (w' : World) (p' A' B' s' : List α), A'.length + B'.length < A.length + B.length → A' ≠ [] → B' ≠ [] → d'.toList = p' ++ (A' ++ (B' ++ s')) → Ris lt A' → Ris lt B' → Srt enc w blk off d d' w' → SymIs P ρ enc lt g lb sf sb blk off d' w' p' A' B' s') :
    SymIs P ρ enc lt g lb sf sb blk off d w p A B s := by
  intro x1 x2 x3 hx hy hz
  have mixed := L.mixed; have t0 := L.t0; have a0 := L.a0; have z0 := L.z0; have v0 := L.v0; have t3 := L.t3; have a3 := L.a3; have z3 := L.z3; have v3 := L.v3; have t4 := L.t4; have a4 := L.a4; have z4 := L.z4; have v4 := L.v4; have t26 := L.t26; have a26 := L.a26; have z26 := L.z26; have v26 := L.v26; have t38 := L.t38; have a38 := L.a38; have z38 := L.z38; have v38 := L.v38; have t42 := L.t42; have a42 := L.a42; have z42 := L.z42; have v42 := L.v42; have t47 := L.t47; have a47 := L.a47; have z47 := L.z47; have v47 := L.v47
  have u42 := run_underlying L.t42
  have e42 : ∀ args w, (callFunc (ρ.f 42) args).run P w = .ok (.enter (ρ.f 42) args) w := enters_of L.f42 (by kernel_rfl) rfl
  have e30 : ∀ args w, (callFunc (ρ.f 30) args).run P w = .ok (.enter (ρ.f 30) args) w := enters_of L.f30 (by kernel_rfl) rfl
  have HL : Hid (LaysGt.n42 P ρ) := Lib.hid { L with }
  have hl : d.size = p.length + (A.length + (B.length + s.length)) := by rw [← Array.length_toList, hd]; simp
  have hdB : d.toList = (p ++ A) ++ (B ++ s) := by rw [hd]; simp
  have hpl : (p ++ A).length = p.length + A.length := by simp
  have HIA : Hid (∀ h k : Nat, p.length ≤ h → h ≤ k → k < p.length + A.length → lt d[k]! d[h]! = false) := Lib.hid (fun h k h1 h2 h3 => ris_idx hwk hd hA h1 h2 h3)
  have HTA : Hid (∀ q y, y ∈ A.take q → ∃ h, p.length ≤ h ∧ h < p.length + q ∧ h < p.length + A.length ∧ d[h]! = y) := Lib.hid (fun q y hy => idx_take hd hy)
  have HDA : Hid (∀ q y, y ∈ A.drop q → ∃ h, p.length + q ≤ h ∧ h < p.length + A.length ∧ d[h]! = y) := Lib.hid (fun q y hy => idx_drop hd hy)
  have HIB : Hid (∀ h k : Nat, p.length + A.length ≤ h → h ≤ k → k < p.length + A.length + B.length → lt d[k]! d[h]! = false) := Lib.hid (fun h k h1 h2 h3 => ris_idx hwk hdB hB (by rw [hpl]; exact h1) h2 (by rw [hpl]; exact h3))
  have HTB : Hid (∀ q y, y ∈ B.take q → ∃ h, p.length + A.length ≤ h ∧ h < p.length + A.length + q ∧ h < p.length + A.length + B.length ∧ d[h]! = y) := Lib.hid (fun q y hy => by have := idx_take hdB hy; rw [hpl] at this; exact this)
  have HDB : Hid (∀ q y, y ∈ B.drop q → ∃ h, p.length + A.length + q ≤ h ∧ h < p.length + A.length + B.length ∧ d[h]! = y) := Lib.hid (fun q y hy => by have := idx_drop hdB hy; rw [hpl] at this; exact this)
  have h0 := (Srt.start hH).alloc hblk (.cells #[.func (.func g) #[] lb, .func (.func sf) #[] sb] (ρ.t 42))
  have H0 := Lib.hid (And.intro h0 (And.intro hd (And.intro hA hB)))
  have HIH := Lib.hid IH
  obtain ⟨a, ha⟩ : ∃ a : Nat, a = p.length := ⟨_, rfl⟩
  rw [← ha] at hx hy hz HIA HIB HTA HTB HDA HDB hl
  obtain ⟨m, hm⟩ : ∃ m : Nat, m = a + A.length := ⟨_, rfl⟩
  rw [← hm] at hy hz HIA HIB HTA HTB HDA HDB
  obtain ⟨b, hb⟩ : ∃ b : Nat, b = m + B.length := ⟨_, rfl⟩
  rw [← hb] at hz HIB HTB HDB
  have hm1 : a + 2 ≤ m := by omega
  have hmb : m + 2 ≤ b := by omega
  have hmq : ((m : Int) - (a : Int) == 1) = false := by rw [Bool.eq_false_iff]; intro h; rw [beq_iff_eq] at h; omega
  have hbq : ((b : Int) - (m : Int) == 1) = false := by rw [Bool.eq_false_iff]; intro h; rw [beq_iff_eq] at h; omega
  have q3 : b ≤ d.size := by omega
  obtain ⟨mid, hmid1, hmid2⟩ : ∃ mid : Nat, 2 * mid ≤ a + b ∧ a + b < 2 * mid + 2 := ⟨(a + b) / 2, by omega, by omega⟩
  obtain ⟨s0, hs0a, hs0b, hs0c⟩ : ∃ s0 : Nat, a ≤ s0 ∧ mid + m ≤ b + s0 ∧ (s0 = a ∨ s0 + b = mid + m) := by
    by_cases h : mid + m ≤ b + a
    · exact ⟨a, Nat.le_refl _, h, Or.inl rfl⟩
    · exact ⟨mid + m - b, by omega, by omega, Or.inr (by omega)⟩
  obtain ⟨r0, hr0a, hr0b, hr0c⟩ : ∃ r0 : Nat, r0 ≤ mid ∧ r0 ≤ m ∧ (r0 = mid ∨ r0 = m) := by
    by_cases h : mid ≤ m
    · exact ⟨mid, by omega, h, Or.inl rfl⟩
    · exact ⟨m, by omega, by omega, Or.inr rfl⟩
  subst hx hy hz
  have HA := Lib.hid (And.intro ha (And.intro hm (And.intro hb hl)))
  have HC := Lib.hid (And.intro hs0c hr0c)
  clear h0 hH hd hdB hpl hA hB ha hb hl hm hA2 hB2 IH
  by_cases hgm : mid < m
  · have hgd : decide (((a : Int) + b) / 2 < (m : Int)) = true := decide_eq_true (by omega)
    go_enter L.f30, BodyGt.n30_ntmps ρ
    go_wp2
    go_loopw [18, 19] (fun vi vj wr => ∃ i j : Nat, vi = .int .i64 i ∧ vj = .int .i64 j ∧ s0 ≤ i ∧ i ≤ j ∧ j ≤ r0 ∧ (∀ c q : Nat, s0 ≤ c → c < i → q + c + 1 = mid + m → lt d[q]! d[c]! = false) ∧ (∀ c q : Nat, j ≤ c → c < r0 → q + c + 1 = mid + m → lt d[q]! d[c]! = true) ∧ Srt enc w blk off d d wr ∧ wr.cell? ⟨w.heap.size, 0, none⟩ = some (.func (.func g) #[] lb) ∧ wr.cell? ⟨w.heap.size, 1, none⟩ = some (.func (.func sf) #[] sb)) (fun vi vj _ => (intOf vj).toNat - (intOf vi).toNat)
    case atStart =>
      have hc := HC.out
      exact ⟨s0, r0, by congr 1; omega, by congr 1; omega, by omega, by omega, by omega, fun c q h1 h2 => absurd h1 (by omega), fun c q h1 h2 => absurd h1 (by omega), H0.out.1, by simp, by simp⟩
    case round =>
      obtain ⟨i, j, rfl, rfl, hai, hij, hjm, hlo, hhi, hS, hc0, hc1⟩ := hrel
      have HS := Lib.hid (And.intro hS (And.intro hlo hhi))
      clear hlo hhi
      by_cases hlt : i < j
      · obtain ⟨h, hh⟩ : ∃ h : Nat, h = (i + j) / 2 := ⟨_, rfl⟩
        obtain ⟨q, hq⟩ : ∃ q : Nat, q + h + 1 = mid + m := ⟨mid + m - 1 - h, by omega⟩
        have hl := hless wr d hS q h (by omega) (by omega)
        rw [show ((h : Nat) : Int) = ((i : Int) + j) / 2 by omega, show ((q : Nat) : Int) = ((a : Int) + b) / 2 + m - 1 - ((i : Int) + j) / 2 by omega] at hl
        have q4 : i ≤ h := by omega
        have q5 : h < j := by omega
        have HH := Lib.hid (And.intro hh hq)
        clear hS hh hq
        cases hlv : lt d[q]! d[h]! with
        | false =>
          rw [hlv] at hl
          go_wp2_with (go_at_fn g; refine hl.mono ?_; rintro e w1 ⟨rfl, hb1⟩)
          have hs := HS.out
          have hh := HH.out
          refine ⟨⟨h + 1, j, by congr 1; omega, rfl, by omega, by omega, hjm, fun c q' h1 h2 h3 => ?_, hs.2.2, hs.1.below hblk hb1, bcell hb1 hc0, bcell hb1 hc1⟩, by simp [intOf]; omega⟩
          by_cases hk : c < i
          · exact hs.2.1 c q' h1 hk h3
          · exact hwk.tr _ _ _ (hwk.tr _ _ _ (HIB.out q q' (by omega) (by omega) (by omega)) hlv) (HIA.out c h (by omega) (by omega) (by omega))
        | true =>
          rw [hlv] at hl
          go_wp2_with (go_at_fn g; refine hl.mono ?_; rintro e w1 ⟨rfl, hb1⟩)
          have hs := HS.out
          have hh := HH.out
          refine ⟨⟨i, h, rfl, by congr 1; omega, by omega, by omega, by omega, hs.2.1, fun c q' h1 h2 h3 => ?_, hs.1.below hblk hb1, bcell hb1 hc0, bcell hb1 hc1⟩, by simp [intOf]; omega⟩
          exact hwk.lt_le (hwk.le_lt hlv (HIB.out q' q (by omega) (by omega) (by omega))) (HIA.out h c (by omega) h1 (by omega))
      · have he : i = j := by omega
        subst he
        have q6 : i ≤ mid := by omega
        have q7 : i ≤ m := by omega
        have q8 : a ≤ i := by omega
        have q9 : mid + m ≤ b + i := by omega
        obtain ⟨en, hen⟩ : ∃ en : Nat, en + i = mid + m := ⟨mid + m - i, by omega⟩
        have h1 : ∀ z ∈ B.take (en - m), ∀ y ∈ A.drop (i - a), lt z y = true := fun z hz y hy => by
          obtain ⟨k, k1, k2, k3, rfl⟩ := HTB.out _ z hz
          obtain ⟨h, a1, a2, rfl⟩ := HDA.out _ y hy
          have hc := HC.out
          have h3 := HS.out.2.2 i (en - 1) (Nat.le_refl _) (by omega) (by omega)
          exact hwk.lt_le (hwk.le_lt h3 (HIB.out k (en - 1) k1 (by omega) (by omega))) (HIA.out i h q8 (by omega) a2)
        have h2 : ∀ y ∈ A.take (i - a), ∀ z ∈ B.drop (en - m), lt z y = false := fun y hy z hz => by
          obtain ⟨h, a1, a2, a3, rfl⟩ := HTA.out _ y hy
          obtain ⟨k, k1, k2, rfl⟩ := HDB.out _ z hz
          have hc := HC.out
          have h3 := HS.out.2.1 (i - 1) en (by omega) (by omega) (by omega)
          exact hwk.tr _ _ _ (hwk.tr _ _ _ (HIB.out en k (by omega) (by omega) k2) h3) (HIA.out h (i - 1) a1 (by omega) (by omega))
        obtain ⟨A1, eA1⟩ : ∃ A1, A1 = A.take (i - a) := ⟨_, rfl⟩
        obtain ⟨A2, eA2⟩ : ∃ A2, A2 = A.drop (i - a) := ⟨_, rfl⟩
        obtain ⟨B1, eB1⟩ : ∃ B1, B1 = B.take (en - m) := ⟨_, rfl⟩
        obtain ⟨B2, eB2⟩ : ∃ B2, B2 = B.drop (en - m) := ⟨_, rfl⟩
        have hha := HA.out
        have l1 : a + A1.length = i := by rw [eA1, List.length_take]; omega
        have l2 : i + A2.length = m := by rw [eA2, List.length_drop]; omega
        have l3 : m + B1.length = en := by rw [eB1, List.length_take]; omega
        have l4 : en + B2.length = b := by rw [eB2, List.length_drop]; omega
        have hAA : A = A1 ++ A2 := by rw [eA1, eA2, List.take_append_drop]
        have hBB : B = B1 ++ B2 := by rw [eB1, eB2, List.take_append_drop]
        rw [← eA2, ← eB1] at h1
        rw [← eA1, ← eB2] at h2
        have hdd : d.toList = p ++ (A1 ++ (A2 ++ (B1 ++ (B2 ++ s)))) := by rw [H0.out.2.1, hAA, hBB]; simp
        have rA : Ris lt (A1 ++ A2) := by rw [← hAA]; exact H0.out.2.2.1
        have rB : Ris lt (B1 ++ B2) := by rw [← hBB]; exact H0.out.2.2.2
        have hpa := hha.1
        have hNE : (i < m → A2 ≠ []) ∧ (i < mid → B1 ≠ []) ∧ (a < i → A1 ≠ []) ∧ (mid + m < b + i → B2 ≠ []) := ⟨fun h e => by rw [e] at l2; simp at l2; omega, fun h e => by rw [e] at l3; simp at l3; omega, fun h e => by rw [e] at l1; simp at l1; omega, fun h e => by rw [e] at l4; simp at l4; omega⟩
        have hEQ : (¬ i < m → A2 = []) ∧ (¬ i < mid → B1 = []) ∧ (¬ a < i → A1 = []) ∧ (¬ mid + m < b + i → B2 = []) := ⟨fun h => List.eq_nil_of_length_eq_zero (by omega), fun h => List.eq_nil_of_length_eq_zero (by omega), fun h => List.eq_nil_of_length_eq_zero (by omega), fun h => List.eq_nil_of_length_eq_zero (by omega)⟩
        have hFIN : ∀ (dk : Array α) (wk : World) (M1 M2 : List α), dk.toList = p ++ (M1 ++ (M2 ++ s)) → Ris lt M1 → Ris lt M2 → St lt (A1 ++ B1) M1 → St lt (A2 ++ B2) M2 → Srt enc w blk off d dk wk → ∃ (d' : Array α) (M : List α), d'.toList = p ++ (M ++ s) ∧ Ris lt M ∧ St lt (A ++ B) M ∧ Srt enc w blk off d d' wk := fun dk wk M1 M2 e r1 r2 s1 s2 hS => ⟨dk, M1 ++ M2, by rw [e]; simp, merged_ris hwk rA rB h1 h2 r1 r2 s1 s2, by rw [hAA, hBB]; exact merged_st hwk h1 s1 s2, hS⟩
        have hROT : A2 ≠ [] → B1 ≠ [] → ∀ x y z : Int, x = (i : Nat) → y = m → z = en → Calls P (ρ.f 42) #[.agg #[.func (.func g) #[] lb, .func (.func sf) #[] sb], .int .i64 x, .int .i64 y, .int .i64 z] wr fun e w' => e = .returned (.tuple #[]) ∧ ∃ d' : Array α, d'.toList = p ++ (A1 ++ (B1 ++ (A2 ++ (B2 ++ s)))) ∧ Srt enc w blk off d d' w' ∧ w'.cell? ⟨w.heap.size, 0, none⟩ = some (.func (.func g) #[] lb) ∧ w'.cell? ⟨w.heap.size, 1, none⟩ = some (.func (.func sf) #[] sb) := fun n1 n2 x y z hx hy hz => by
          refine (rotate_any HL.out enc g lb sf sb blk off d wr hswap hS.2.1 (Nat.lt_of_lt_of_le hblk hS.1.size) hsz (p := p ++ A1) (A := A2) (B := B1) (s := B2 ++ s) (by rw [hdd]; simp) n1 n2 (by rw [List.length_append, ← hpa, l1]; exact hx) (by rw [List.length_append, ← hpa, l1, l2]; exact hy) (by rw [List.length_append, ← hpa, l1, l2, l3]; exact hz)).mono ?_
          rintro e w' ⟨rfl, d', hd', hS'⟩
          exact ⟨rfl, d', by rw [hd']; simp, hS.trans hS', hS'.1.cell hc0 (by simp; omega), hS'.1.cell hc1 (by simp; omega)⟩
        have hONE : ∀ (dk : Array α) (wk : World), dk.toList = p ++ (A1 ++ (B1 ++ (A2 ++ (B2 ++ s)))) → Srt enc w blk off d dk wk → wk.cell? ⟨w.heap.size, 0, none⟩ = some (.func (.func g) #[] lb) ∧ wk.cell? ⟨w.heap.size, 1, none⟩ = some (.func (.func sf) #[] sb) → A1 ≠ [] → B1 ≠ [] → ∀ x y z : Int, x = a → y = (i : Nat) → z = mid → Calls P (ρ.f 30) #[.agg #[.func (.func g) #[] lb, .func (.func sf) #[] sb], .int .i64 x, .int .i64 y, .int .i64 z] wk fun e w' => e = .returned (.tuple #[]) ∧ ∃ (d' : Array α) (M1 : List α), d'.toList = p ++ (M1 ++ (A2 ++ (B2 ++ s))) ∧ Ris lt M1 ∧ St lt (A1 ++ B1) M1 ∧ Srt enc w blk off d d' w' ∧ w'.cell? ⟨w.heap.size, 0, none⟩ = some (.func (.func g) #[] lb) ∧ w'.cell? ⟨w.heap.size, 1, none⟩ = some (.func (.func sf) #[] sb) := fun dk wk e hk hbx n1 n2 x y z hx hy hz => by
          refine (HIH.out dk wk p A1 B1 (A2 ++ (B2 ++ s)) (by rw [hAA, hBB, List.length_append, List.length_append]; omega) n1 n2 e (Ris.app.1 rA).1 (Ris.app.1 rB).1 hk x y z (by rw [← hpa]; exact hx) (by rw [← hpa, l1]; exact hy) (by rw [← hpa, l1, show i + B1.length = mid by omega]; exact hz)).mono ?_
          rintro e w' ⟨rfl, d', M1, hd', r1, s1, hS'⟩
          exact ⟨rfl, d', M1, hd', r1, s1, hk.trans hS', hS'.1.cell hbx.1 (by simp; omega), hS'.1.cell hbx.2 (by simp; omega)⟩
        have hTWO : ∀ (dk : Array α) (wk : World) (M1 : List α), dk.toList = p ++ (M1 ++ (A2 ++ (B2 ++ s))) → M1.length = A1.length + B1.length → Srt enc w blk off d dk wk → A2 ≠ [] → B2 ≠ [] → ∀ x y z : Int, x = mid → y = en → z = b → Calls P (ρ.f 30) #[.agg #[.func (.func g) #[] lb, .func (.func sf) #[] sb], .int .i64 x, .int .i64 y, .int .i64 z] wk fun e w' => e = .returned (.tuple #[]) ∧ ∃ (d' : Array α) (M2 : List α), d'.toList = p ++ (M1 ++ (M2 ++ s)) ∧ Ris lt M2 ∧ St lt (A2 ++ B2) M2 ∧ Srt enc w blk off d d' w' := fun dk wk M1 e hm1' hk n1 n2 x y z hx hy hz => by
          refine (HIH.out dk wk (p ++ M1) A2 B2 s (by rw [hAA, hBB, List.length_append, List.length_append]; omega) n1 n2 (by rw [e]; simp) (Ris.app.1 rA).2.1 (Ris.app.1 rB).2.1 hk x y z (by rw [List.length_append, ← hpa, hm1', show a + (A1.length + B1.length) = mid by omega]; exact hx) (by rw [List.length_append, ← hpa, hm1', show a + (A1.length + B1.length) + A2.length = en by omega]; exact hy) (by rw [List.length_append, ← hpa, hm1', show a + (A1.length + B1.length) + A2.length + B2.length = b by omega]; exact hz)).mono ?_
          rintro e w' ⟨rfl, d', M2, hd', r2, s2, hS'⟩
          exact ⟨rfl, d', M2, by rw [hd']; simp, r2, s2, hk.trans hS'⟩
        have HNE := Lib.hid hNE
        have HEQ := Lib.hid hEQ
        have HFIN := Lib.hid hFIN
        have HROT := Lib.hid hROT
        have HONE := Lib.hid hONE
        have HTWO := Lib.hid hTWO
        have HR := Lib.hid (And.intro (Ris.app.1 rA).1 (And.intro (Ris.app.1 rA).2.1 (And.intro (Ris.app.1 rB).1 (Ris.app.1 rB).2.1)))
        have HDD := Lib.hid (And.intro hdd (And.intro hS (And.intro hc0 hc1)))
        have hen1 : en + i ≤ mid + m := by omega
        have hen2 : mid + m ≤ en + i := by omega
        clear hNE hEQ hFIN hROT hONE hTWO rA rB hdd h1 h2 eA1 eA2 eB1 eB2 hha l1 l2 l3 l4 hAA hBB hpa hen hS
        by_cases c1 : i < m
        · skip
          by_cases c2 : i < mid
          · skip
            by_cases c3 : a < i
            · skip
              by_cases c4 : mid + m < b + i
              · skip
                go_wp2
                refine (HROT.out (HNE.out.1 c1) (HNE.out.2.1 c2) _ _ _ (by omega) (by omega) (by omega)).mono ?_
                rintro e w1 ⟨rfl, d1, hd1, hS1, hc0, hc1⟩
                have HD1 := Lib.hid (And.intro hd1 hS1)
                clear hd1 hS1
                go_wp2
                refine (HONE.out d1 w1 HD1.out.1 HD1.out.2 ⟨hc0, hc1⟩ (HNE.out.2.2.1 c3) (HNE.out.2.1 c2) _ _ _ (by omega) (by omega) (by omega)).mono ?_
                clear hc0 hc1
                rintro e w2 ⟨rfl, d2, M1, hd2, r1, s1, hS2, hc0, hc1⟩
                have HD2 := Lib.hid (And.intro hd2 (And.intro r1 (And.intro s1 hS2)))
                clear hd2 r1 s1 hS2
                go_wp2
                refine (HTWO.out d2 w2 M1 HD2.out.1 (by have := HD2.out.2.2.1.1.length_eq; rw [List.length_append] at this; exact this) HD2.out.2.2.2 (HNE.out.1 c1) (HNE.out.2.2.2 c4) _ _ _ (by omega) (by omega) (by omega)).mono ?_
                rintro e w3 ⟨rfl, d3, M2, hd3, r2, s2, hS3⟩
                have HD3 := Lib.hid (And.intro hd3 (And.intro r2 (And.intro s2 hS3)))
                clear hd3 r2 s2 hS3
                go_wp2
                go_end0
                exact ⟨rfl, HFIN.out d3 w3 M1 M2 HD3.out.1 HD2.out.2.1 HD3.out.2.1 HD2.out.2.2.1 HD3.out.2.2.1 HD3.out.2.2.2⟩
              · skip
                go_wp2
                refine (HROT.out (HNE.out.1 c1) (HNE.out.2.1 c2) _ _ _ (by omega) (by omega) (by omega)).mono ?_
                rintro e w1 ⟨rfl, d1, hd1, hS1, hc0, hc1⟩
                have HD1 := Lib.hid (And.intro hd1 hS1)
                clear hd1 hS1
                go_wp2
                refine (HONE.out d1 w1 HD1.out.1 HD1.out.2 ⟨hc0, hc1⟩ (HNE.out.2.2.1 c3) (HNE.out.2.1 c2) _ _ _ (by omega) (by omega) (by omega)).mono ?_
                clear hc0 hc1
                rintro e w2 ⟨rfl, d2, M1, hd2, r1, s1, hS2, hc0, hc1⟩
                have HD2 := Lib.hid (And.intro hd2 (And.intro r1 (And.intro s1 hS2)))
                clear hd2 r1 s1 hS2
                go_wp2
                go_end0
                exact ⟨rfl, HFIN.out d2 w2 M1 (A2 ++ B2) (by rw [HD2.out.1]; simp) HD2.out.2.1 (ris_side HR.out.2.1 HR.out.2.2.2 (Or.inr (HEQ.out.2.2.2 c4))) HD2.out.2.2.1 (St.refl _) HD2.out.2.2.2⟩
            · skip
              by_cases c4 : mid + m < b + i
              · skip
                exfalso
                omega
              · skip
                go_wp2
                refine (HROT.out (HNE.out.1 c1) (HNE.out.2.1 c2) _ _ _ (by omega) (by omega) (by omega)).mono ?_
                rintro e w1 ⟨rfl, d1, hd1, hS1, hc0, hc1⟩
                have HD1 := Lib.hid (And.intro hd1 hS1)
                clear hd1 hS1
                obtain ⟨w2, hw2⟩ : ∃ w2, w2 = w1 := ⟨_, rfl⟩
                obtain ⟨d2, hdd2⟩ : ∃ d2, d2 = d1 := ⟨_, rfl⟩
                obtain ⟨M1, hM1⟩ : ∃ M1, M1 = A1 ++ B1 := ⟨_, rfl⟩
                have hd2 : d2.toList = p ++ (M1 ++ (A2 ++ (B2 ++ s))) := by rw [hdd2, HD1.out.1, hM1]; simp
                have r1 : Ris lt M1 := by rw [hM1]; exact ris_side HR.out.1 HR.out.2.2.1 (Or.inl (HEQ.out.2.2.1 c3))
                have s1 : St lt (A1 ++ B1) M1 := by rw [hM1]; exact St.refl _
                have hS2 : Srt enc w blk off d d2 w2 := by rw [hdd2, hw2]; exact HD1.out.2
                rw [← hw2] at hc0 hc1 ⊢
                clear hw2 hdd2 hM1
                have HD2 := Lib.hid (And.intro hd2 (And.intro r1 (And.intro s1 hS2)))
                clear hd2 r1 s1 hS2
                go_wp2
                go_end0
                exact ⟨rfl, HFIN.out d2 w2 M1 (A2 ++ B2) (by rw [HD2.out.1]; simp) HD2.out.2.1 (ris_side HR.out.2.1 HR.out.2.2.2 (Or.inr (HEQ.out.2.2.2 c4))) HD2.out.2.2.1 (St.refl _) HD2.out.2.2.2⟩
          · skip
            by_cases c3 : a < i
            · skip
              by_cases c4 : mid + m < b + i
              · skip
                obtain ⟨w1, hw1⟩ : ∃ w1, w1 = wr := ⟨_, rfl⟩
                have hd1 : d.toList = p ++ (A1 ++ (B1 ++ (A2 ++ (B2 ++ s)))) := by rw [HDD.out.1, HEQ.out.2.1 c2]; simp
                have hS1 := HDD.out.2.1
                obtain ⟨d1, hdd1⟩ : ∃ d1, d1 = d := ⟨_, rfl⟩
                have hS1 : Srt enc w blk off d d1 w1 := by rw [hdd1, hw1]; exact HDD.out.2.1
                have hd1 : d1.toList = p ++ (A1 ++ (B1 ++ (A2 ++ (B2 ++ s)))) := by rw [hdd1]; exact hd1
                rw [← hw1] at hc0 hc1 ⊢
                clear hw1 hdd1
                have HD1 := Lib.hid (And.intro hd1 hS1)
                clear hd1 hS1
                obtain ⟨w2, hw2⟩ : ∃ w2, w2 = w1 := ⟨_, rfl⟩
                obtain ⟨d2, hdd2⟩ : ∃ d2, d2 = d1 := ⟨_, rfl⟩
                obtain ⟨M1, hM1⟩ : ∃ M1, M1 = A1 ++ B1 := ⟨_, rfl⟩
                have hd2 : d2.toList = p ++ (M1 ++ (A2 ++ (B2 ++ s))) := by rw [hdd2, HD1.out.1, hM1]; simp
                have r1 : Ris lt M1 := by rw [hM1]; exact ris_side HR.out.1 HR.out.2.2.1 (Or.inr (HEQ.out.2.1 c2))
                have s1 : St lt (A1 ++ B1) M1 := by rw [hM1]; exact St.refl _
                have hS2 : Srt enc w blk off d d2 w2 := by rw [hdd2, hw2]; exact HD1.out.2
                rw [← hw2] at hc0 hc1 ⊢
                clear hw2 hdd2 hM1
                have HD2 := Lib.hid (And.intro hd2 (And.intro r1 (And.intro s1 hS2)))
                clear hd2 r1 s1 hS2
                go_wp2
                refine (HTWO.out d2 w2 M1 HD2.out.1 (by have := HD2.out.2.2.1.1.length_eq; rw [List.length_append] at this; exact this) HD2.out.2.2.2 (HNE.out.1 c1) (HNE.out.2.2.2 c4) _ _ _ (by omega) (by omega) (by omega)).mono ?_
                rintro e w3 ⟨rfl, d3, M2, hd3, r2, s2, hS3⟩
                have HD3 := Lib.hid (And.intro hd3 (And.intro r2 (And.intro s2 hS3)))
                clear hd3 r2 s2 hS3
                go_wp2
                go_end0
                exact ⟨rfl, HFIN.out d3 w3 M1 M2 HD3.out.1 HD2.out.2.1 HD3.out.2.1 HD2.out.2.2.1 HD3.out.2.2.1 HD3.out.2.2.2⟩
              · skip
                exfalso
                omega
            · skip
              by_cases c4 : mid + m < b + i
              · skip
                exfalso
                omega
              · skip
                exfalso
                omega
        · skip
          by_cases c2 : i < mid
          · skip
            by_cases c3 : a < i
            · skip
              by_cases c4 : mid + m < b + i
              · skip
                exfalso
                omega
              · skip
                exfalso
                omega
            · skip
              by_cases c4 : mid + m < b + i
              · skip
                exfalso
                omega
              · skip
                exfalso
                omega
          · skip
            by_cases c3 : a < i
            · skip
              by_cases c4 : mid + m < b + i
              · skip
                exfalso
                omega
              · skip
                exfalso
                omega
            · skip
              by_cases c4 : mid + m < b + i
              · skip
                exfalso
                omega
              · skip
                exfalso
                omega
  · have hgd : decide (((a : Int) + b) / 2 < (m : Int)) = false := decide_eq_false (by omega)
    go_enter L.f30, BodyGt.n30_ntmps ρ
    go_wp2
    go_loopw [18, 19] (fun vi vj wr => ∃ i j : Nat, vi = .int .i64 i ∧ vj = .int .i64 j ∧ s0 ≤ i ∧ i ≤ j ∧ j ≤ r0 ∧ (∀ c q : Nat, s0 ≤ c → c < i → q + c + 1 = mid + m → lt d[q]! d[c]! = false) ∧ (∀ c q : Nat, j ≤ c → c < r0 → q + c + 1 = mid + m → lt d[q]! d[c]! = true) ∧ Srt enc w blk off d d wr ∧ wr.cell? ⟨w.heap.size, 0, none⟩ = some (.func (.func g) #[] lb) ∧ wr.cell? ⟨w.heap.size, 1, none⟩ = some (.func (.func sf) #[] sb)) (fun vi vj _ => (intOf vj).toNat - (intOf vi).toNat)
    case atStart =>
      have hc := HC.out
      exact ⟨s0, r0, by congr 1; omega, by congr 1; omega, by omega, by omega, by omega, fun c q h1 h2 => absurd h1 (by omega), fun c q h1 h2 => absurd h1 (by omega), H0.out.1, by simp, by simp⟩
    case round =>
      obtain ⟨i, j, rfl, rfl, hai, hij, hjm, hlo, hhi, hS, hc0, hc1⟩ := hrel
      have HS := Lib.hid (And.intro hS (And.intro hlo hhi))
      clear hlo hhi
      by_cases hlt : i < j
      · obtain ⟨h, hh⟩ : ∃ h : Nat, h = (i + j) / 2 := ⟨_, rfl⟩
        obtain ⟨q, hq⟩ : ∃ q : Nat, q + h + 1 = mid + m := ⟨mid + m - 1 - h, by omega⟩
        have hl := hless wr d hS q h (by omega) (by omega)
        rw [show ((h : Nat) : Int) = ((i : Int) + j) / 2 by omega, show ((q : Nat) : Int) = ((a : Int) + b) / 2 + m - 1 - ((i : Int) + j) / 2 by omega] at hl
        have q4 : i ≤ h := by omega
        have q5 : h < j := by omega
        have HH := Lib.hid (And.intro hh hq)
        clear hS hh hq
        cases hlv : lt d[q]! d[h]! with
        | false =>
          rw [hlv] at hl
          go_wp2_with (go_at_fn g; refine hl.mono ?_; rintro e w1 ⟨rfl, hb1⟩)
          have hs := HS.out
          have hh := HH.out
          refine ⟨⟨h + 1, j, by congr 1; omega, rfl, by omega, by omega, hjm, fun c q' h1 h2 h3 => ?_, hs.2.2, hs.1.below hblk hb1, bcell hb1 hc0, bcell hb1 hc1⟩, by simp [intOf]; omega⟩
          by_cases hk : c < i
          · exact hs.2.1 c q' h1 hk h3
          · exact hwk.tr _ _ _ (hwk.tr _ _ _ (HIB.out q q' (by omega) (by omega) (by omega)) hlv) (HIA.out c h (by omega) (by omega) (by omega))
        | true =>
          rw [hlv] at hl
          go_wp2_with (go_at_fn g; refine hl.mono ?_; rintro e w1 ⟨rfl, hb1⟩)
          have hs := HS.out
          have hh := HH.out
          refine ⟨⟨i, h, rfl, by congr 1; omega, by omega, by omega, by omega, hs.2.1, fun c q' h1 h2 h3 => ?_, hs.1.below hblk hb1, bcell hb1 hc0, bcell hb1 hc1⟩, by simp [intOf]; omega⟩
          exact hwk.lt_le (hwk.le_lt hlv (HIB.out q' q (by omega) (by omega) (by omega))) (HIA.out h c (by omega) h1 (by omega))
      · have he : i = j := by omega
        subst he
        have q6 : i ≤ mid := by omega
        have q7 : i ≤ m := by omega
        have q8 : a ≤ i := by omega
        have q9 : mid + m ≤ b + i := by omega
        obtain ⟨en, hen⟩ : ∃ en : Nat, en + i = mid + m := ⟨mid + m - i, by omega⟩
        have h1 : ∀ z ∈ B.take (en - m), ∀ y ∈ A.drop (i - a), lt z y = true := fun z hz y hy => by
          obtain ⟨k, k1, k2, k3, rfl⟩ := HTB.out _ z hz
          obtain ⟨h, a1, a2, rfl⟩ := HDA.out _ y hy
          have hc := HC.out
          have h3 := HS.out.2.2 i (en - 1) (Nat.le_refl _) (by omega) (by omega)
          exact hwk.lt_le (hwk.le_lt h3 (HIB.out k (en - 1) k1 (by omega) (by omega))) (HIA.out i h q8 (by omega) a2)
        have h2 : ∀ y ∈ A.take (i - a), ∀ z ∈ B.drop (en - m), lt z y = false := fun y hy z hz => by
          obtain ⟨h, a1, a2, a3, rfl⟩ := HTA.out _ y hy
          obtain ⟨k, k1, k2, rfl⟩ := HDB.out _ z hz
          have hc := HC.out
          have h3 := HS.out.2.1 (i - 1) en (by omega) (by omega) (by omega)
          exact hwk.tr _ _ _ (hwk.tr _ _ _ (HIB.out en k (by omega) (by omega) k2) h3) (HIA.out h (i - 1) a1 (by omega) (by omega))
        obtain ⟨A1, eA1⟩ : ∃ A1, A1 = A.take (i - a) := ⟨_, rfl⟩
        obtain ⟨A2, eA2⟩ : ∃ A2, A2 = A.drop (i - a) := ⟨_, rfl⟩
        obtain ⟨B1, eB1⟩ : ∃ B1, B1 = B.take (en - m) := ⟨_, rfl⟩
        obtain ⟨B2, eB2⟩ : ∃ B2, B2 = B.drop (en - m) := ⟨_, rfl⟩
        have hha := HA.out
        have l1 : a + A1.length = i := by rw [eA1, List.length_take]; omega
        have l2 : i + A2.length = m := by rw [eA2, List.length_drop]; omega
        have l3 : m + B1.length = en := by rw [eB1, List.length_take]; omega
        have l4 : en + B2.length = b := by rw [eB2, List.length_drop]; omega
        have hAA : A = A1 ++ A2 := by rw [eA1, eA2, List.take_append_drop]
        have hBB : B = B1 ++ B2 := by rw [eB1, eB2, List.take_append_drop]
        rw [← eA2, ← eB1] at h1
        rw [← eA1, ← eB2] at h2
        have hdd : d.toList = p ++ (A1 ++ (A2 ++ (B1 ++ (B2 ++ s)))) := by rw [H0.out.2.1, hAA, hBB]; simp
        have rA : Ris lt (A1 ++ A2) := by rw [← hAA]; exact H0.out.2.2.1
        have rB : Ris lt (B1 ++ B2) := by rw [← hBB]; exact H0.out.2.2.2
        have hpa := hha.1
        have hNE : (i < m → A2 ≠ []) ∧ (i < mid → B1 ≠ []) ∧ (a < i → A1 ≠ []) ∧ (mid + m < b + i → B2 ≠ []) := ⟨fun h e => by rw [e] at l2; simp at l2; omega, fun h e => by rw [e] at l3; simp at l3; omega, fun h e => by rw [e] at l1; simp at l1; omega, fun h e => by rw [e] at l4; simp at l4; omega⟩
        have hEQ : (¬ i < m → A2 = []) ∧ (¬ i < mid → B1 = []) ∧ (¬ a < i → A1 = []) ∧ (¬ mid + m < b + i → B2 = []) := ⟨fun h => List.eq_nil_of_length_eq_zero (by omega), fun h => List.eq_nil_of_length_eq_zero (by omega), fun h => List.eq_nil_of_length_eq_zero (by omega), fun h => List.eq_nil_of_length_eq_zero (by omega)⟩
        have hFIN : ∀ (dk : Array α) (wk : World) (M1 M2 : List α), dk.toList = p ++ (M1 ++ (M2 ++ s)) → Ris lt M1 → Ris lt M2 → St lt (A1 ++ B1) M1 → St lt (A2 ++ B2) M2 → Srt enc w blk off d dk wk → ∃ (d' : Array α) (M : List α), d'.toList = p ++ (M ++ s) ∧ Ris lt M ∧ St lt (A ++ B) M ∧ Srt enc w blk off d d' wk := fun dk wk M1 M2 e r1 r2 s1 s2 hS => ⟨dk, M1 ++ M2, by rw [e]; simp, merged_ris hwk rA rB h1 h2 r1 r2 s1 s2, by rw [hAA, hBB]; exact merged_st hwk h1 s1 s2, hS⟩
        have hROT : A2 ≠ [] → B1 ≠ [] → ∀ x y z : Int, x = (i : Nat) → y = m → z = en → Calls P (ρ.f 42) #[.agg #[.func (.func g) #[] lb, .func (.func sf) #[] sb], .int .i64 x, .int .i64 y, .int .i64 z] wr fun e w' => e = .returned (.tuple #[]) ∧ ∃ d' : Array α, d'.toList = p ++ (A1 ++ (B1 ++ (A2 ++ (B2 ++ s)))) ∧ Srt enc w blk off d d' w' ∧ w'.cell? ⟨w.heap.size, 0, none⟩ = some (.func (.func g) #[] lb) ∧ w'.cell? ⟨w.heap.size, 1, none⟩ = some (.func (.func sf) #[] sb) := fun n1 n2 x y z hx hy hz => by
          refine (rotate_any HL.out enc g lb sf sb blk off d wr hswap hS.2.1 (Nat.lt_of_lt_of_le hblk hS.1.size) hsz (p := p ++ A1) (A := A2) (B := B1) (s := B2 ++ s) (by rw [hdd]; simp) n1 n2 (by rw [List.length_append, ← hpa, l1]; exact hx) (by rw [List.length_append, ← hpa, l1, l2]; exact hy) (by rw [List.length_append, ← hpa, l1, l2, l3]; exact hz)).mono ?_
          rintro e w' ⟨rfl, d', hd', hS'⟩
          exact ⟨rfl, d', by rw [hd']; simp, hS.trans hS', hS'.1.cell hc0 (by simp; omega), hS'.1.cell hc1 (by simp; omega)⟩
        have hONE : ∀ (dk : Array α) (wk : World), dk.toList = p ++ (A1 ++ (B1 ++ (A2 ++ (B2 ++ s)))) → Srt enc w blk off d dk wk → wk.cell? ⟨w.heap.size, 0, none⟩ = some (.func (.func g) #[] lb) ∧ wk.cell? ⟨w.heap.size, 1, none⟩ = some (.func (.func sf) #[] sb) → A1 ≠ [] → B1 ≠ [] → ∀ x y z : Int, x = a → y = (i : Nat) → z = mid → Calls P (ρ.f 30) #[.agg #[.func (.func g) #[] lb, .func (.func sf) #[] sb], .int .i64 x, .int .i64 y, .int .i64 z] wk fun e w' => e = .returned (.tuple #[]) ∧ ∃ (d' : Array α) (M1 : List α), d'.toList = p ++ (M1 ++ (A2 ++ (B2 ++ s))) ∧ Ris lt M1 ∧ St lt (A1 ++ B1) M1 ∧ Srt enc w blk off d d' w' ∧ w'.cell? ⟨w.heap.size, 0, none⟩ = some (.func (.func g) #[] lb) ∧ w'.cell? ⟨w.heap.size, 1, none⟩ = some (.func (.func sf) #[] sb) := fun dk wk e hk hbx n1 n2 x y z hx hy hz => by
          refine (HIH.out dk wk p A1 B1 (A2 ++ (B2 ++ s)) (by rw [hAA, hBB, List.length_append, List.length_append]; omega) n1 n2 e (Ris.app.1 rA).1 (Ris.app.1 rB).1 hk x y z (by rw [← hpa]; exact hx) (by rw [← hpa, l1]; exact hy) (by rw [← hpa, l1, show i + B1.length = mid by omega]; exact hz)).mono ?_
          rintro e w' ⟨rfl, d', M1, hd', r1, s1, hS'⟩
          exact ⟨rfl, d', M1, hd', r1, s1, hk.trans hS', hS'.1.cell hbx.1 (by simp; omega), hS'.1.cell hbx.2 (by simp; omega)⟩
        have hTWO : ∀ (dk : Array α) (wk : World) (M1 : List α), dk.toList = p ++ (M1 ++ (A2 ++ (B2 ++ s))) → M1.length = A1.length + B1.length → Srt enc w blk off d dk wk → A2 ≠ [] → B2 ≠ [] → ∀ x y z : Int, x = mid → y = en → z = b → Calls P (ρ.f 30) #[.agg #[.func (.func g) #[] lb, .func (.func sf) #[] sb], .int .i64 x, .int .i64 y, .int .i64 z] wk fun e w' => e = .returned (.tuple #[]) ∧ ∃ (d' : Array α) (M2 : List α), d'.toList = p ++ (M1 ++ (M2 ++ s)) ∧ Ris lt M2 ∧ St lt (A2 ++ B2) M2 ∧ Srt enc w blk off d d' w' := fun dk wk M1 e hm1' hk n1 n2 x y z hx hy hz => by
          refine (HIH.out dk wk (p ++ M1) A2 B2 s (by rw [hAA, hBB, List.length_append, List.length_append]; omega) n1 n2 (by rw [e]; simp) (Ris.app.1 rA).2.1 (Ris.app.1 rB).2.1 hk x y z (by rw [List.length_append, ← hpa, hm1', show a + (A1.length + B1.length) = mid by omega]; exact hx) (by rw [List.length_append, ← hpa, hm1', show a + (A1.length + B1.length) + A2.length = en by omega]; exact hy) (by rw [List.length_append, ← hpa, hm1', show a + (A1.length + B1.length) + A2.length + B2.length = b by omega]; exact hz)).mono ?_
          rintro e w' ⟨rfl, d', M2, hd', r2, s2, hS'⟩
          exact ⟨rfl, d', M2, by rw [hd']; simp, r2, s2, hk.trans hS'⟩
        have HNE := Lib.hid hNE
        have HEQ := Lib.hid hEQ
        have HFIN := Lib.hid hFIN
        have HROT := Lib.hid hROT
        have HONE := Lib.hid hONE
        have HTWO := Lib.hid hTWO
        have HR := Lib.hid (And.intro (Ris.app.1 rA).1 (And.intro (Ris.app.1 rA).2.1 (And.intro (Ris.app.1 rB).1 (Ris.app.1 rB).2.1)))
        have HDD := Lib.hid (And.intro hdd (And.intro hS (And.intro hc0 hc1)))
        have hen1 : en + i ≤ mid + m := by omega
        have hen2 : mid + m ≤ en + i := by omega
        clear hNE hEQ hFIN hROT hONE hTWO rA rB hdd h1 h2 eA1 eA2 eB1 eB2 hha l1 l2 l3 l4 hAA hBB hpa hen hS
        by_cases c1 : i < m
        · skip
          by_cases c2 : i < mid
          · skip
            by_cases c3 : a < i
            · skip
              by_cases c4 : mid + m < b + i
              · skip
                go_wp2
                refine (HROT.out (HNE.out.1 c1) (HNE.out.2.1 c2) _ _ _ (by omega) (by omega) (by omega)).mono ?_
                rintro e w1 ⟨rfl, d1, hd1, hS1, hc0, hc1⟩
                have HD1 := Lib.hid (And.intro hd1 hS1)
                clear hd1 hS1
                go_wp2
                refine (HONE.out d1 w1 HD1.out.1 HD1.out.2 ⟨hc0, hc1⟩ (HNE.out.2.2.1 c3) (HNE.out.2.1 c2) _ _ _ (by omega) (by omega) (by omega)).mono ?_
                clear hc0 hc1
                rintro e w2 ⟨rfl, d2, M1, hd2, r1, s1, hS2, hc0, hc1⟩
                have HD2 := Lib.hid (And.intro hd2 (And.intro r1 (And.intro s1 hS2)))
                clear hd2 r1 s1 hS2
                go_wp2
                refine (HTWO.out d2 w2 M1 HD2.out.1 (by have := HD2.out.2.2.1.1.length_eq; rw [List.length_append] at this; exact this) HD2.out.2.2.2 (HNE.out.1 c1) (HNE.out.2.2.2 c4) _ _ _ (by omega) (by omega) (by omega)).mono ?_
                rintro e w3 ⟨rfl, d3, M2, hd3, r2, s2, hS3⟩
                have HD3 := Lib.hid (And.intro hd3 (And.intro r2 (And.intro s2 hS3)))
                clear hd3 r2 s2 hS3
                go_wp2
                go_end0
                exact ⟨rfl, HFIN.out d3 w3 M1 M2 HD3.out.1 HD2.out.2.1 HD3.out.2.1 HD2.out.2.2.1 HD3.out.2.2.1 HD3.out.2.2.2⟩
              · skip
                exfalso
                omega
            · skip
              by_cases c4 : mid + m < b + i
              · skip
                go_wp2
                refine (HROT.out (HNE.out.1 c1) (HNE.out.2.1 c2) _ _ _ (by omega) (by omega) (by omega)).mono ?_
                rintro e w1 ⟨rfl, d1, hd1, hS1, hc0, hc1⟩
                have HD1 := Lib.hid (And.intro hd1 hS1)
                clear hd1 hS1
                obtain ⟨w2, hw2⟩ : ∃ w2, w2 = w1 := ⟨_, rfl⟩
                obtain ⟨d2, hdd2⟩ : ∃ d2, d2 = d1 := ⟨_, rfl⟩
                obtain ⟨M1, hM1⟩ : ∃ M1, M1 = A1 ++ B1 := ⟨_, rfl⟩
                have hd2 : d2.toList = p ++ (M1 ++ (A2 ++ (B2 ++ s))) := by rw [hdd2, HD1.out.1, hM1]; simp
                have r1 : Ris lt M1 := by rw [hM1]; exact ris_side HR.out.1 HR.out.2.2.1 (Or.inl (HEQ.out.2.2.1 c3))
                have s1 : St lt (A1 ++ B1) M1 := by rw [hM1]; exact St.refl _
                have hS2 : Srt enc w blk off d d2 w2 := by rw [hdd2, hw2]; exact HD1.out.2
                rw [← hw2] at hc0 hc1 ⊢
                clear hw2 hdd2 hM1
                have HD2 := Lib.hid (And.intro hd2 (And.intro r1 (And.intro s1 hS2)))
                clear hd2 r1 s1 hS2
                go_wp2
                refine (HTWO.out d2 w2 M1 HD2.out.1 (by have := HD2.out.2.2.1.1.length_eq; rw [List.length_append] at this; exact this) HD2.out.2.2.2 (HNE.out.1 c1) (HNE.out.2.2.2 c4) _ _ _ (by omega) (by omega) (by omega)).mono ?_
                rintro e w3 ⟨rfl, d3, M2, hd3, r2, s2, hS3⟩
                have HD3 := Lib.hid (And.intro hd3 (And.intro r2 (And.intro s2 hS3)))
                clear hd3 r2 s2 hS3
                go_wp2
                go_end0
                exact ⟨rfl, HFIN.out d3 w3 M1 M2 HD3.out.1 HD2.out.2.1 HD3.out.2.1 HD2.out.2.2.1 HD3.out.2.2.1 HD3.out.2.2.2⟩
              · skip
                go_wp2
                refine (HROT.out (HNE.out.1 c1) (HNE.out.2.1 c2) _ _ _ (by omega) (by omega) (by omega)).mono ?_
                rintro e w1 ⟨rfl, d1, hd1, hS1, hc0, hc1⟩
                have HD1 := Lib.hid (And.intro hd1 hS1)
                clear hd1 hS1
                obtain ⟨w2, hw2⟩ : ∃ w2, w2 = w1 := ⟨_, rfl⟩
                obtain ⟨d2, hdd2⟩ : ∃ d2, d2 = d1 := ⟨_, rfl⟩
                obtain ⟨M1, hM1⟩ : ∃ M1, M1 = A1 ++ B1 := ⟨_, rfl⟩
                have hd2 : d2.toList = p ++ (M1 ++ (A2 ++ (B2 ++ s))) := by rw [hdd2, HD1.out.1, hM1]; simp
                have r1 : Ris lt M1 := by rw [hM1]; exact ris_side HR.out.1 HR.out.2.2.1 (Or.inl (HEQ.out.2.2.1 c3))
                have s1 : St lt (A1 ++ B1) M1 := by rw [hM1]; exact St.refl _
                have hS2 : Srt enc w blk off d d2 w2 := by rw [hdd2, hw2]; exact HD1.out.2
                rw [← hw2] at hc0 hc1 ⊢
                clear hw2 hdd2 hM1
                have HD2 := Lib.hid (And.intro hd2 (And.intro r1 (And.intro s1 hS2)))
                clear hd2 r1 s1 hS2
                go_wp2
                go_end0
                exact ⟨rfl, HFIN.out d2 w2 M1 (A2 ++ B2) (by rw [HD2.out.1]; simp) HD2.out.2.1 (ris_side HR.out.2.1 HR.out.2.2.2 (Or.inr (HEQ.out.2.2.2 c4))) HD2.out.2.2.1 (St.refl _) HD2.out.2.2.2⟩
          · skip
            by_cases c3 : a < i
            · skip
              by_cases c4 : mid + m < b + i
              · skip
                exfalso
                omega
              · skip
                exfalso
                omega
            · skip
              by_cases c4 : mid + m < b + i
              · skip
                exfalso
                omega
              · skip
                exfalso
                omega
        · skip
          by_cases c2 : i < mid
          · skip
            by_cases c3 : a < i
            · skip
              by_cases c4 : mid + m < b + i
              · skip
                obtain ⟨w1, hw1⟩ : ∃ w1, w1 = wr := ⟨_, rfl⟩
                have hd1 : d.toList = p ++ (A1 ++ (B1 ++ (A2 ++ (B2 ++ s)))) := by rw [HDD.out.1, HEQ.out.1 c1]; simp
                have hS1 := HDD.out.2.1
                obtain ⟨d1, hdd1⟩ : ∃ d1, d1 = d := ⟨_, rfl⟩
                have hS1 : Srt enc w blk off d d1 w1 := by rw [hdd1, hw1]; exact HDD.out.2.1
                have hd1 : d1.toList = p ++ (A1 ++ (B1 ++ (A2 ++ (B2 ++ s)))) := by rw [hdd1]; exact hd1
                rw [← hw1] at hc0 hc1 ⊢
                clear hw1 hdd1
                have HD1 := Lib.hid (And.intro hd1 hS1)
                clear hd1 hS1
                go_wp2
                refine (HONE.out d1 w1 HD1.out.1 HD1.out.2 ⟨hc0, hc1⟩ (HNE.out.2.2.1 c3) (HNE.out.2.1 c2) _ _ _ (by omega) (by omega) (by omega)).mono ?_
                clear hc0 hc1
                rintro e w2 ⟨rfl, d2, M1, hd2, r1, s1, hS2, hc0, hc1⟩
                have HD2 := Lib.hid (And.intro hd2 (And.intro r1 (And.intro s1 hS2)))
                clear hd2 r1 s1 hS2
                go_wp2
                go_end0
                exact ⟨rfl, HFIN.out d2 w2 M1 (A2 ++ B2) (by rw [HD2.out.1]; simp) HD2.out.2.1 (ris_side HR.out.2.1 HR.out.2.2.2 (Or.inl (HEQ.out.1 c1))) HD2.out.2.2.1 (St.refl _) HD2.out.2.2.2⟩
              · skip
                exfalso
                omega
            · skip
              by_cases c4 : mid + m < b + i
              · skip
                exfalso
                omega
              · skip
                exfalso
                omega
          · skip
            by_cases c3 : a < i
            · skip
              by_cases c4 : mid + m < b + i
              · skip
                obtain ⟨w1, hw1⟩ : ∃ w1, w1 = wr := ⟨_, rfl⟩
                have hd1 : d.toList = p ++ (A1 ++ (B1 ++ (A2 ++ (B2 ++ s)))) := by rw [HDD.out.1, HEQ.out.1 c1]; simp
                have hS1 := HDD.out.2.1
                obtain ⟨d1, hdd1⟩ : ∃ d1, d1 = d := ⟨_, rfl⟩
                have hS1 : Srt enc w blk off d d1 w1 := by rw [hdd1, hw1]; exact HDD.out.2.1
                have hd1 : d1.toList = p ++ (A1 ++ (B1 ++ (A2 ++ (B2 ++ s)))) := by rw [hdd1]; exact hd1
                rw [← hw1] at hc0 hc1 ⊢
                clear hw1 hdd1
                have HD1 := Lib.hid (And.intro hd1 hS1)
                clear hd1 hS1
                obtain ⟨w2, hw2⟩ : ∃ w2, w2 = w1 := ⟨_, rfl⟩
                obtain ⟨d2, hdd2⟩ : ∃ d2, d2 = d1 := ⟨_, rfl⟩
                obtain ⟨M1, hM1⟩ : ∃ M1, M1 = A1 ++ B1 := ⟨_, rfl⟩
                have hd2 : d2.toList = p ++ (M1 ++ (A2 ++ (B2 ++ s))) := by rw [hdd2, HD1.out.1, hM1]; simp
                have r1 : Ris lt M1 := by rw [hM1]; exact ris_side HR.out.1 HR.out.2.2.1 (Or.inr (HEQ.out.2.1 c2))
                have s1 : St lt (A1 ++ B1) M1 := by rw [hM1]; exact St.refl _
                have hS2 : Srt enc w blk off d d2 w2 := by rw [hdd2, hw2]; exact HD1.out.2
                rw [← hw2] at hc0 hc1 ⊢
                clear hw2 hdd2 hM1
                have HD2 := Lib.hid (And.intro hd2 (And.intro r1 (And.intro s1 hS2)))
                clear hd2 r1 s1 hS2
                go_wp2
                go_end0
                exact ⟨rfl, HFIN.out d2 w2 M1 (A2 ++ B2) (by rw [HD2.out.1]; simp) HD2.out.2.1 (ris_side HR.out.2.1 HR.out.2.2.2 (Or.inl (HEQ.out.1 c1))) HD2.out.2.2.1 (St.refl _) HD2.out.2.2.2⟩
              · skip
                exfalso
                omega
            · skip
              by_cases c4 : mid + m < b + i
              · skip
                exfalso
                omega
              · skip
                exfalso
                omega
end Go.Proofs.YtbnfeicpjmfooaaGreatDoor.Stb
