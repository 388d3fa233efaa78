/-
Parts of the proof, one behind the other: SrtP, ShelfT, SrtW.
-/
import Derived.Test.YtbnfeicpjmfooaaGreatDoorMX
import Derived.Test.YtbnfeicpjmfooaaGreatDoorMS
import Derived.Shelf.GgSortMore.Lays
import Derived.Test.YtbnfeicpjmfooaaGreatDoorProg
/-
Sorting values: plain.
-/
set_option linter.unusedSimpArgs false
set_option linter.unusedVariables false
namespace Go.Proofs.YtbnfeicpjmfooaaGreatDoor.NumA
open Go.RowKit Go.Lib Go.Proofs.YtbnfeicpjmfooaaGreatDoor.ValA Go.Proofs.YtbnfeicpjmfooaaGreatDoor.FloH Go.Proofs.YtbnfeicpjmfooaaGreatDoor.Stb
/-- A value is less. -/
def ltV (x y : V) : Bool := decide (cmpV x y < 0)
theorem wk_ltV : Wk ltV where
  anti x y h := by
    have h1 := of_decide_eq_true h
    have h2 := cmpV_anti _ x (Nat.lt_succ_self _) y
    exact decide_eq_false (by omega)
  tr x y z h k := by
    have h1 := of_decide_eq_false h
    have h2 := of_decide_eq_false k
    have h3 := cmpV_chain _ x (Nat.lt_succ_self _) y z
    refine decide_eq_false ?_
    unfold Chain at h3
    omega
theorem ltV_total (x y : V) : (!ltV y x || !ltV x y) = true := by
  cases h : ltV y x with
  | false => rfl
  | true => rw [wk_ltV.anti y x h]; rfl
/-- A list, sorted. -/
def sortV (l : List V) : List V := l.mergeSort fun x y => !ltV y x
theorem sortV_perm (l : List V) : (sortV l).Perm l := List.mergeSort_perm _ _
theorem sortV_ris (l : List V) : Ris ltV (sortV l) := by
  have h := List.pairwise_mergeSort (le := fun x y => !ltV y x) (fun a b c h1 h2 => by
    simp only [Bool.not_eq_true'] at h1 h2 ⊢
    exact wk_ltV.tr c b a h2 h1) (fun a b => ltV_total a b) l
  exact h.imp fun {x y} h => by simpa using h
theorem sortV_len (l : List V) : (sortV l).length = l.length := (sortV_perm l).length_eq
theorem mem_sortV {l : List V} {y : V} : y ∈ sortV l ↔ y ∈ l := (sortV_perm l).mem_iff
theorem tx_nil0 {s t : ByteArray} (h : tx s t = 0) : s = t := by
  have e : s.toList = t.toList := by
    rcases tri s.toList t.toList with a | a | a
    · rw [tx_lt a] at h; omega
    · exact a
    · rw [tx_gt a] at h; omega
  cases s
  cases t
  congr 1
  simpa [ByteArray.toList_eq] using e
theorem lexC_zero {α : Type} {f : α → α → Int} : ∀ {l l' : List α}, (∀ a ∈ l, ∀ b ∈ l', f a b = 0 → a = b) → lexC f l l' = 0 → l = l'
  | [], [], _, _ => rfl
  | [], y :: l', _, h => by simp only [lexC, List.length_cons] at h; omega
  | x :: l, [], _, h => by simp only [lexC, List.length_cons] at h; omega
  | x :: l, y :: l', hh, h => by
    simp only [lexC] at h
    split at h
    · rename_i e
      rw [hh x (List.mem_cons_self ..) y (List.mem_cons_self ..) e, lexC_zero (fun a ha b hb => hh a (List.mem_cons_of_mem _ ha) b (List.mem_cons_of_mem _ hb)) h]
    · rename_i e
      exact absurd h e
theorem flat_eq {x : V} (hx : WL x) (h0 : x.f0 ≤ 4) : x = ⟨x.f0, if x.f0 = 3 then x.f1 else 0, if x.f0 = 4 then x.f2 else ⟨#[]⟩, [], [], []⟩ := by
  have hs := wf_shape hx
  obtain ⟨f0, f1, f2, f3, f4, f5⟩ := x
  have h0' : f0 ≤ 4 := h0
  obtain rfl : f3 = [] := hs.2.2.1 (by show f0 ≠ 5; omega)
  obtain ⟨rfl, rfl⟩ : f4 = [] ∧ f5 = [] := hs.2.2.2 (by show f0 ≠ 6; omega)
  have e1 : f1 = if f0 = 3 then f1 else 0 := by
    split
    · rfl
    · rename_i h
      exact hs.1 h
  have e2 : f2 = if f0 = 4 then f2 else ⟨#[]⟩ := by
    split
    · rfl
    · rename_i h
      exact hs.2.1 h
  show (⟨f0, f1, f2, [], [], []⟩ : V) = ⟨f0, if f0 = 3 then f1 else 0, if f0 = 4 then f2 else ⟨#[]⟩, [], [], []⟩
  rw [← e1, ← e2]
theorem cmp_eq : ∀ (N : Nat) (x : V), SizeOf.sizeOf x < N → ∀ y : V, WL x → WL y → cmpV x y = 0 → x = y
  | 0, _, h, _, _, _, _ => absurd h (Nat.not_lt_zero _)
  | N + 1, x, hN, y, hx, hy, h => by
    rw [cmpV_inn] at h
    have h' := Int.sign_eq_zero_iff_zero.1 h
    clear h
    have e0 : x.f0 = y.f0 := by
      split at h' <;> omega
    rw [if_pos (by omega)] at h'
    have hf := (wf_facts hx).2.1
    have hg := (wf_facts hx).1
    by_cases c : x.f0 ≤ 4
    · have e1 := flat_eq hx c
      have e2 := flat_eq hy (by omega)
      unfold inn at h'
      rw [e1, e2, ← e0]
      by_cases c3 : x.f0 = 3
      · rw [if_pos c3] at h'
        rw [if_pos c3, if_pos c3, if_neg (by omega), if_neg (by omega)]
        congr 1
        omega
      · rw [if_neg c3] at h'
        rw [if_neg c3, if_neg c3]
        by_cases c4 : x.f0 = 4
        · rw [if_pos c4] at h'
          rw [if_pos c4, if_pos c4, tx_nil0 h']
        · rw [if_neg c4, if_neg c4]
    · obtain ⟨_, _, _, _, _, _, w3, w5⟩ := id hx
      obtain ⟨_, _, _, _, _, _, v3, v5⟩ := id hy
      unfold inn at h'
      rw [if_neg (by omega), if_neg (by omega)] at h'
      by_cases c5 : x.f0 = 5
      · rw [if_pos c5, cmpL_lex] at h'
        have e3 := lexC_zero (fun a ha b hb => cmp_eq N a (by have h1 := List.sizeOf_lt_of_mem ha; have h2 := size3 x; omega) b (w3 a ha) (v3 b hb)) h'
        rw [list_eq hx c5, list_eq hy (by omega), e3]
      · rw [if_neg c5, if_pos (by omega)] at h'
        have ek : cmpK x.f4 y.f4 = 0 := by
          by_cases e : cmpK x.f4 y.f4 = 0
          · exact e
          · rw [if_neg e] at h'
            exact h'
        rw [if_pos ek, cmpL_lex] at h'
        rw [cmpK_lex] at ek
        have e4 := lexC_zero (fun a _ b _ e => tx_nil0 e) ek
        have e5 := lexC_zero (fun a ha b hb => cmp_eq N a (by have h1 := List.sizeOf_lt_of_mem ha; have h2 := size5 x; omega) b (w5 a ha) (v5 b hb)) h'
        rw [map_eq hx (by omega), map_eq hy (by omega), e4, e5]
/-- There is one sorted list. -/
theorem ris_uniq : ∀ {a b : List V}, Ris ltV a → Ris ltV b → a.Perm b → (∀ x ∈ a, ∀ y ∈ a, cmpV x y = 0 → x = y) → a = b
  | [], b, _, _, hp, _ => by rw [List.nil_perm.1 hp]
  | x :: a, [], _, _, hp, _ => by have := hp.length_eq; simp at this
  | x :: a, y :: b, ha, hb, hp, he => by
    have ha' := List.pairwise_cons.1 ha
    have hb' := List.pairwise_cons.1 hb
    have hy := hp.mem_iff.2 (List.mem_cons_self (a := y) (l := b))
    have hx := hp.mem_iff.1 (List.mem_cons_self (a := x) (l := a))
    have hyx : ltV y x = false := by
      rcases List.mem_cons.1 hy with e | e
      · rw [e]; exact wk_ltV.self x
      · exact ha'.1 y e
    have hxy : ltV x y = false := by
      rcases List.mem_cons.1 hx with e | e
      · rw [e]; exact wk_ltV.self y
      · exact hb'.1 x e
    have e : x = y := he x (List.mem_cons_self ..) y hy (by
      have h1 := of_decide_eq_false hyx
      have h2 := of_decide_eq_false hxy
      have h3 := cmpV_anti _ x (Nat.lt_succ_self _) y
      omega)
    subst e
    rw [ris_uniq ha'.2 hb'.2 ((List.perm_cons x).1 hp) (fun u hu v hv => he u (List.mem_cons_of_mem _ hu) v (List.mem_cons_of_mem _ hv))]
theorem sort_one {l M : List V} (hl : ∀ y ∈ l, WL y) (hp : M.Perm l) (hr : Ris ltV M) : M = sortV l :=
  ris_uniq hr (sortV_ris l) (hp.trans (sortV_perm l).symm) fun x hx y hy h => cmp_eq _ x (Nat.lt_succ_self _) y (hl x (hp.mem_iff.1 hx)) (hl y (hp.mem_iff.1 hy)) h
end Go.Proofs.YtbnfeicpjmfooaaGreatDoor.NumA
/-
  DERIVED: THE SHELF's CONTRACTS AT THIS DUMP, IN PLAIN WORDS (tools/lay-plain.mjs out of 'YtbnfeicpjmfooaaGreatDoorShelfT.lean', which tools/lay-shelf.mjs wrote): THE SAME DECLARATIONS UNDER THE SAME NAMES: 'import', 'namespace', 'open', 'def', 'theorem' AND NOTHING ELSE: no command of the shelf's: FOR A HAND-IN. Each laying: the table of numbers ('.._ren') and one theorem, a field a fact of the dump's own or the kernel's comparison; each contract: ONE APPLICATION.
-/
namespace Go.Proofs
open Go.Shelf
def Tryz.laysStable_ren : Go.Shelf.Ren := ⟨fun | 8 => 191 | 13 => 226 | 14 => 227 | 16 => 229 | 15 => 228 | 29 => 274 | 30 => 275 | 42 => 294 | 49 => 308 | n => n, fun | 20 => 20 | 26 => 100 | 36 => 261 | 0 => 0 | 38 => 263 | 42 => 267 | 3 => 3 | 4 => 4 | 47 => 172 | 17 => 17 | 33 => 258 | 34 => 259 | 89 => 421 | 12 => 12 | 56 => 245 | 82 => 415 | 5 => 5 | 83 => 416 | 84 => 417 | 85 => 244 | 86 => 418 | 87 => 419 | n => n, fun | n => n⟩
theorem Tryz.laysStable : Go.Proofs.LaysGt.n8 Tryz.prog Tryz.laysStable_ren := {
  mixed := by kernel_rfl
  f8 := Tryz.func191.trans (congrArg some (by kernel_rfl))
  f13 := Tryz.func226.trans (congrArg some (by kernel_rfl))
  f14 := Tryz.func227.trans (congrArg some (by kernel_rfl))
  f15 := Tryz.func228.trans (congrArg some (by kernel_rfl))
  f16 := Tryz.func229.trans (congrArg some (by kernel_rfl))
  f29 := Tryz.func274.trans (congrArg some (by kernel_rfl))
  f30 := Tryz.func275.trans (congrArg some (by kernel_rfl))
  f42 := Tryz.func294.trans (congrArg some (by kernel_rfl))
  f49 := Tryz.func308.trans (congrArg some (by kernel_rfl))
  t0 := Tryz.underlying0
  a0 := Tryz.isAgg0
  z0 := Tryz.sizeOf0
  v0 := Tryz.zeroValue0
  i0 := by kernel_rfl
  t3 := Tryz.underlying3
  a3 := Tryz.isAgg3
  z3 := Tryz.sizeOf3
  v3 := Tryz.zeroValue3
  i3 := by kernel_rfl
  t4 := Tryz.underlying4
  a4 := Tryz.isAgg4
  z4 := Tryz.sizeOf4
  v4 := Tryz.zeroValue4
  i4 := by kernel_rfl
  t5 := Tryz.underlying5
  a5 := Tryz.isAgg5
  z5 := Tryz.sizeOf5
  v5 := Tryz.zeroValue5
  i5 := by kernel_rfl
  t12 := Tryz.underlying12
  a12 := Tryz.isAgg12
  z12 := Tryz.sizeOf12
  v12 := Tryz.zeroValue12
  i12 := by kernel_rfl
  t17 := Tryz.underlying17
  a17 := Tryz.isAgg17
  z17 := Tryz.sizeOf17
  v17 := Tryz.zeroValue17
  i17 := by kernel_rfl
  t20 := Tryz.underlying20
  a20 := Tryz.isAgg20
  z20 := Tryz.sizeOf20
  v20 := Tryz.zeroValue20
  i20 := by kernel_rfl
  t26 := Tryz.underlying100
  a26 := Tryz.isAgg100
  z26 := Tryz.sizeOf100
  v26 := Tryz.zeroValue100
  i26 := by kernel_rfl
  t33 := Tryz.underlying258
  a33 := Tryz.isAgg258
  z33 := Tryz.sizeOf258
  v33 := Tryz.zeroValue258
  i33 := by kernel_rfl
  t34 := Tryz.underlying259
  a34 := Tryz.isAgg259
  z34 := Tryz.sizeOf259
  v34 := Tryz.zeroValue259
  i34 := by kernel_rfl
  t36 := Tryz.underlying261
  a36 := Tryz.isAgg261
  z36 := Tryz.sizeOf261
  v36 := Tryz.zeroValue261
  i36 := by kernel_rfl
  t38 := Tryz.underlying263
  a38 := Tryz.isAgg263
  z38 := Tryz.sizeOf263
  v38 := Tryz.zeroValue263
  i38 := by kernel_rfl
  t42 := Tryz.underlying267
  a42 := Tryz.isAgg267
  z42 := Tryz.sizeOf267
  v42 := Tryz.zeroValue267
  i42 := by kernel_rfl
  t47 := Tryz.underlying172
  a47 := Tryz.isAgg172
  z47 := Tryz.sizeOf172
  v47 := Tryz.zeroValue172
  i47 := by kernel_rfl
  t56 := Tryz.underlying245
  a56 := Tryz.isAgg245
  z56 := Tryz.sizeOf245
  v56 := Tryz.zeroValue245
  i56 := by kernel_rfl
  t82 := Tryz.underlying415
  a82 := Tryz.isAgg415
  z82 := Tryz.sizeOf415
  v82 := Tryz.zeroValue415
  i82 := by kernel_rfl
  t83 := Tryz.underlying416
  a83 := Tryz.isAgg416
  z83 := Tryz.sizeOf416
  v83 := Tryz.zeroValue416
  i83 := by kernel_rfl
  t84 := Tryz.underlying417
  a84 := Tryz.isAgg417
  z84 := Tryz.sizeOf417
  v84 := Tryz.zeroValue417
  i84 := by kernel_rfl
  t85 := Tryz.underlying244
  a85 := Tryz.isAgg244
  z85 := Tryz.sizeOf244
  v85 := Tryz.zeroValue244
  i85 := by kernel_rfl
  t86 := Tryz.underlying418
  a86 := Tryz.isAgg418
  z86 := Tryz.sizeOf418
  v86 := Tryz.zeroValue418
  i86 := by kernel_rfl
  t87 := Tryz.underlying419
  a87 := Tryz.isAgg419
  z87 := Tryz.sizeOf419
  v87 := Tryz.zeroValue419
  i87 := by kernel_rfl
  t89 := Tryz.underlying421
  a89 := Tryz.isAgg421
  z89 := Tryz.sizeOf421
  v89 := Tryz.zeroValue421
  i89 := by kernel_rfl }
end Go.Proofs
/-
gojq.sortItems: values with keys, in the order of their keys.
-/
set_option linter.unusedSimpArgs false
set_option linter.unusedVariables false
namespace Go.Proofs.YtbnfeicpjmfooaaGreatDoor.NumA
open Go.RowKit Go.Lib Go.Sort Go.Proofs.YtbnfeicpjmfooaaGreatDoor.ValA Go.Proofs.YtbnfeicpjmfooaaGreatDoor.FloH Go.Proofs.YtbnfeicpjmfooaaGreatDoorW.PrintWords Go.Proofs.YtbnfeicpjmfooaaGreatDoorW.PrintLast Go.Proofs.YtbnfeicpjmfooaaGreatDoorW.PrintMore Go.Proofs.YtbnfeicpjmfooaaGreatDoor.PzzFits1 Go.Proofs.YtbnfeicpjmfooaaGreatDoor.Stb
theorem info_it : (Tryz.prog.info? 180).map (fun i => (i.zero, i.size, i.bytes)) = some (some (.pointer none), 1, 8) := by kernel_rfl
theorem made_ptr (n : Nat) : madeCells (Value.cells (.pointer none)) (n * 1) = (List.replicate n (Value.pointer none)).toArray := by
  have e : Value.cells (.pointer none) = #[Value.pointer none] := rfl
  rw [e, Nat.mul_one]
  unfold madeCells
  apply Array.ext
  · simp
  · intro i h1 h2
    simp [Nat.mod_one]
theorem runMakeP (n : Nat) (hn : n ≤ 1000000) (w : World) : (Instr.makeSlice 177 (.int .i64 n) (.int .i64 n)).run Tryz.prog w = .ok (.slice (some ⟨w.heap.size, 0, none⟩) n n) (w.alloc (.cells (List.replicate n (Value.pointer none)).toArray 180)) := by
  have hi := info_it
  cases h : Tryz.prog.info? 180 with
  | none => rw [h] at hi; cases hi
  | some i =>
    rw [h] at hi
    have hi := Option.some.inj hi
    simp only [Prod.mk.injEq] at hi
    obtain ⟨h1, h2, h3⟩ := hi
    have := run_makeSlice (P := Tryz.prog) w 177 180 i (.pointer none) Tryz.underlying177 h h1 .i64 .i64 (n : Int) (n : Int) (by omega) (by omega) (by rw [h2]; omega) (by rw [h3]; omega) (by omega)
    rw [this, Int.toNat_natCast, h2, made_ptr]
/-- A value's own blocks are rows of values and maps: what else is written does not matter. -/
theorem G.keepT {n : Nat} {w w' : World} {x : V} {g : Value} (h : G n w x g) (hl : ∀ (b : Nat) (l : Array Value), w.heap[b]? = some (.cells l 20 (0, 0)) → w'.heap[b]? = some (.cells l 20 (0, 0))) (hm : ∀ (b : Nat) (es : Array MapEntry) (c : Nat), w.heap[b]? = some (.map es c) → w'.heap[b]? = some (.map es c)) : G n w' x g := by
  induction h with
  | flat x h1 => exact .flat x h1
  | list x h1 b l hb hl' hw he ih => exact .list x h1 b l hb hl' (hl b _ hw) ih
  | map x h1 b es c hb hl' hw hst hkey he ih => exact .map x h1 b es c hb hl' (hm b _ _ hw) hst hkey ih
/-- What a row of pointers does to values: nothing. -/
theorem G.grownP {n blk : Nat} {w w' : World} {x : V} {g : Value} (h : G n w x g) (hg : w.grownBy w' (some blk)) {cs : Array Value} {fr : Nat × Nat} (hb : w.heap[blk]? = some (.cells cs 180 fr)) : G n w' x g :=
  h.keepT (fun b l hw => (hg.block b (ValA.lt_of_heap hw) (fun e => by cases e; rw [hb] at hw; cases hw)).trans hw) (fun b es c hw => (hg.block b (ValA.lt_of_heap hw) (fun e => by cases e; rw [hb] at hw; cases hw)).trans hw)
theorem two_c {w : World} {b : Nat} {u v : Value} {t : TypeId} (h : w.heap[b]? = some (.cells #[u, v] t (0, 0))) : w.cell? ⟨b, 0, none⟩ = some u ∧ w.cell? ⟨b, 1, none⟩ = some v ∧ True :=
  ⟨(list_cell (vs := [u, v]) (j := 0) h (by simp)).1, (list_cell (vs := [u, v]) (j := 1) h (by simp)).1, trivial⟩
set_option maxRecDepth 100000 in
set_option maxHeartbeats 4000000 in
/-- Two items are compared. -/
theorem less_any (w : World) (bx R n c i j p q : Nat) (x y : Value) (z : Int) (hi : i < n) (hj : j < n) (hbx : w.cell? ⟨bx, 0, none⟩ = some (.slice (some ⟨R, 0, none⟩) n c)) (hri : w.cell? ⟨R, i, none⟩ = some (.pointer (some ⟨p, 0, none⟩))) (hrj : w.cell? ⟨R, j, none⟩ = some (.pointer (some ⟨q, 0, none⟩)))
    (hp : w.cell? ⟨p, 1, none⟩ = some x) (hq : w.cell? ⟨q, 1, none⟩ = some y) (hsx : x = .nilIface ∨ ∃ t u, x = .iface t u) (hsy : y = .nilIface ∨ ∃ t u, y = .iface t u) (HC : ∀ w1, Below w.heap.size w w1 → Calls Tryz.prog 163 #[x, y] w1 (Gz z w1)) :
    Calls Tryz.prog 192 #[.int .i64 i, .int .i64 j, .pointer (some ⟨bx, 0, none⟩)] w fun e w' => e = .returned (.bool (decide (z < 0))) ∧ Below w.heap.size w w' := by
  have HCC := Lib.hid HC
  have hi2 : (i : Int) < (n : Int) := by omega
  have hj2 : (j : Int) < (n : Int) := by omega
  clear HC hi hj
  · go_enter Tryz.func192, Tryz.ntmps192
    go_wp2_with fail
    refine start_ (n := 17) (S := fun w' => w'.cell? ⟨bx, 0, none⟩ = some (.slice (some ⟨R, 0, none⟩) n c) ∧ w'.cell? ⟨R, i, none⟩ = some (.pointer (some ⟨p, 0, none⟩)) ∧ w'.cell? ⟨R, j, none⟩ = some (.pointer (some ⟨q, 0, none⟩)) ∧ w'.cell? ⟨p, 1, none⟩ = some (x) ∧ w'.cell? ⟨q, 1, none⟩ = some (y) ∧ Below w.heap.size w w') (ds := []) #[false, false, false, false, false, false, false, false, false, false, false, false, false, false, false, false, false] (by kernel_rfl) rfl rfl ⟨hbx, hri, hrj, hp, hq, (pw_below_drewN (Below.refl _ _) 1)⟩ (fun hHeld => ?_)
    refine pure_ (i := 1) (N := some 7) (v := ?_) (a' := ?_) #[false, true, false, false, false, false, false, false, false, false, false, false, false, false, false, false, false] rfl rfl (by kernel_rfl) (fun _ _ _ h => h) (Or.inl ⟨by rfl, ?_⟩) ?_ ?_
    rotate_left
    · intro w'
      go_simp
      with_reducible rfl
    rotate_left
    · simp only [Act.put, List.setIfInBounds_toArray, List.set_cons_zero, List.set_cons_succ, i64_w, i32_w]
      rfl
    refine pure_ (i := 8) (N := some 14) (v := ?_) (a' := ?_) #[false, true, false, false, false, false, false, false, true, false, false, false, false, false, false, false, false] rfl rfl (by kernel_rfl) (fun _ _ _ h => h) (Or.inl ⟨by rfl, ?_⟩) ?_ ?_
    rotate_left
    · intro w'
      go_simp
      with_reducible rfl
    rotate_left
    · simp only [Act.put, List.setIfInBounds_toArray, List.set_cons_zero, List.set_cons_succ, i64_w, i32_w]
      rfl
    refine take_ (i := 0) (N := some 6) (v := ?_) (a' := ?_) #[true, true, false, false, false, false, false, false, true, false, false, false, false, false, false, false, false] rfl rfl (by kernel_rfl) (fun _ _ _ h => h) (Or.inl ⟨by rfl, ?_⟩) hHeld ?_ ?_
    rotate_left
    · rintro w' ⟨s0, s1, s2, s3, s4, s5⟩
      go_simp
      with_reducible rfl
    rotate_left
    · simp only [Act.put, List.setIfInBounds_toArray, List.set_cons_zero, List.set_cons_succ, i64_w, i32_w]
      rfl
    refine pure_ (i := 2) (N := some 8) (v := ?_) (a' := ?_) #[true, true, true, false, false, false, false, false, true, false, false, false, false, false, false, false, false] rfl rfl (by kernel_rfl) (fun _ _ _ h => h) (Or.inl ⟨by rfl, ?_⟩) ?_ ?_
    rotate_left
    · intro w'
      go_simp
      with_reducible rfl
    rotate_left
    · simp only [Act.put, List.setIfInBounds_toArray, List.set_cons_zero, List.set_cons_succ, i64_w, i32_w]
      rfl
    refine take_ (i := 3) (N := some 9) (v := ?_) (a' := ?_) #[true, true, true, true, false, false, false, false, true, false, false, false, false, false, false, false, false] rfl rfl (by kernel_rfl) (fun _ _ _ h => h) (Or.inl ⟨by rfl, ?_⟩) hHeld ?_ ?_
    rotate_left
    · rintro w' ⟨s0, s1, s2, s3, s4, s5⟩
      go_simp
      with_reducible rfl
    rotate_left
    · simp only [Act.put, List.setIfInBounds_toArray, List.set_cons_zero, List.set_cons_succ, i64_w, i32_w]
      rfl
    refine pure_ (i := 4) (N := some 10) (v := ?_) (a' := ?_) #[true, true, true, true, true, false, false, false, true, false, false, false, false, false, false, false, false] rfl rfl (by kernel_rfl) (fun _ _ _ h => h) (Or.inl ⟨by rfl, ?_⟩) ?_ ?_
    rotate_left
    · intro w'
      go_simp
      with_reducible rfl
    rotate_left
    · simp only [Act.put, List.setIfInBounds_toArray, List.set_cons_zero, List.set_cons_succ, i64_w, i32_w]
      rfl
    refine pure_ (i := 5) (N := some 11) (v := ?_) (a' := ?_) #[true, true, true, true, true, true, false, false, true, false, false, false, false, false, false, false, false] rfl rfl (by kernel_rfl) (fun _ _ _ h => h) (Or.inl ⟨by rfl, ?_⟩) ?_ ?_
    rotate_left
    · intro w'
      go_simp
      with_reducible rfl
    rotate_left
    · simp only [Act.put, List.setIfInBounds_toArray, List.set_cons_zero, List.set_cons_succ, i64_w, i32_w]
      rfl
    refine take_ (i := 6) (N := some 12) (v := ?_) (a' := ?_) #[true, true, true, true, true, true, true, false, true, false, false, false, false, false, false, false, false] rfl rfl (by kernel_rfl) (fun _ _ _ h => h) (Or.inl ⟨by rfl, ?_⟩) hHeld ?_ ?_
    rotate_left
    · rintro w' ⟨s0, s1, s2, s3, s4, s5⟩
      go_simp
      with_reducible rfl
    rotate_left
    · simp only [Act.put, List.setIfInBounds_toArray, List.set_cons_zero, List.set_cons_succ, i64_w, i32_w]
      rfl
    refine take_ (i := 7) (N := some 13) (v := ?_) (a' := ?_) #[true, true, true, true, true, true, true, true, true, false, false, false, false, false, false, false, false] rfl rfl (by kernel_rfl) (fun _ _ _ h => h) (Or.inl ⟨by rfl, ?_⟩) hHeld ?_ ?_
    rotate_left
    · rintro w' ⟨s0, s1, s2, s3, s4, s5⟩
      go_simp
      with_reducible rfl
    rotate_left
    · simp only [Act.put, List.setIfInBounds_toArray, List.set_cons_zero, List.set_cons_succ, i64_w, i32_w]
      rfl
    refine pure_ (i := 9) (N := some 15) (v := ?_) (a' := ?_) #[true, true, true, true, true, true, true, true, true, true, false, false, false, false, false, false, false] rfl rfl (by kernel_rfl) (fun _ _ _ h => h) (Or.inl ⟨by rfl, ?_⟩) ?_ ?_
    rotate_left
    · intro w'
      go_simp
      with_reducible rfl
    rotate_left
    · simp only [Act.put, List.setIfInBounds_toArray, List.set_cons_zero, List.set_cons_succ, i64_w, i32_w]
      rfl
    refine take_ (i := 10) (N := some 16) (v := ?_) (a' := ?_) #[true, true, true, true, true, true, true, true, true, true, true, false, false, false, false, false, false] rfl rfl (by kernel_rfl) (fun _ _ _ h => h) (Or.inl ⟨by rfl, ?_⟩) hHeld ?_ ?_
    rotate_left
    · rintro w' ⟨s0, s1, s2, s3, s4, s5⟩
      go_simp
      with_reducible rfl
    rotate_left
    · simp only [Act.put, List.setIfInBounds_toArray, List.set_cons_zero, List.set_cons_succ, i64_w, i32_w]
      rfl
    refine pure_ (i := 11) (N := some 17) (v := ?_) (a' := ?_) #[true, true, true, true, true, true, true, true, true, true, true, true, false, false, false, false, false] rfl rfl (by kernel_rfl) (fun _ _ _ h => h) (Or.inl ⟨by rfl, ?_⟩) ?_ ?_
    rotate_left
    · intro w'
      go_simp
      with_reducible rfl
    rotate_left
    · simp only [Act.put, List.setIfInBounds_toArray, List.set_cons_zero, List.set_cons_succ, i64_w, i32_w]
      rfl
    refine pure_ (i := 12) (N := some 18) (v := ?_) (a' := ?_) #[true, true, true, true, true, true, true, true, true, true, true, true, true, false, false, false, false] rfl rfl (by kernel_rfl) (fun _ _ _ h => h) (Or.inl ⟨by rfl, ?_⟩) ?_ ?_
    rotate_left
    · intro w'
      go_simp
      with_reducible rfl
    rotate_left
    · simp only [Act.put, List.setIfInBounds_toArray, List.set_cons_zero, List.set_cons_succ, i64_w, i32_w]
      rfl
    refine take_ (i := 13) (N := some 19) (v := ?_) (a' := ?_) #[true, true, true, true, true, true, true, true, true, true, true, true, true, true, false, false, false] rfl rfl (by kernel_rfl) (fun _ _ _ h => h) (Or.inl ⟨by rfl, ?_⟩) hHeld ?_ ?_
    rotate_left
    · rintro w' ⟨s0, s1, s2, s3, s4, s5⟩
      go_simp
      with_reducible rfl
    rotate_left
    · simp only [Act.put, List.setIfInBounds_toArray, List.set_cons_zero, List.set_cons_succ, i64_w, i32_w]
      rfl
    refine one_ (i := 14) (N := some 20) #[true, true, true, true, true, true, true, true, true, true, true, true, true, true, true, false, false] rfl rfl (by kernel_rfl) (by decide) (fun K hK => ?_)
    refine goes_ Tryz.func163 (by kernel_rfl) rfl #[x, y] (by rfl) rfl rfl (by simp only [List.map_toArray, List.map_cons, List.map_nil]; rfl) ?_
    with_reducible refine ((HCC.out _ hHeld.2.2.2.2.2)).mono ?_
    rintro e wz ⟨rfl, hbz⟩
    refine ⟨_, rfl, ?_⟩
    refine hK.out _ _ ⟨(pw_cell_below hbz hHeld.1), (pw_cell_below hbz hHeld.2.1), (pw_cell_below hbz hHeld.2.2.1), (pw_cell_below hbz hHeld.2.2.2.1), (pw_cell_below hbz hHeld.2.2.2.2.1), (hHeld.2.2.2.2.2.trans (hbz.mono hHeld.2.2.2.2.2.size))⟩ (fun hHeld => ?_)
    clear hK K
    refine norm_ (a' := ?_) ?_ ?_
    rotate_left
    · show Act.put _ (some 20) _ = _
      simp only [Act.put, List.setIfInBounds_toArray, List.set_cons_zero, List.set_cons_succ, i64_w, i32_w]
      rfl
    refine pure_ (i := 15) (N := some 21) (v := ?_) (a' := ?_) #[true, true, true, true, true, true, true, true, true, true, true, true, true, true, true, true, false] rfl rfl (by kernel_rfl) (fun _ _ _ h => h) (Or.inl ⟨by rfl, ?_⟩) ?_ ?_
    rotate_left
    · intro w'
      go_simp
      with_reducible rfl
    rotate_left
    · simp only [Act.put, List.setIfInBounds_toArray, List.set_cons_zero, List.set_cons_succ, i64_w, i32_w]
      rfl
    refine pure_ (i := 16) (N := some 5) (v := ?_) (a' := ?_) #[true, true, true, true, true, true, true, true, true, true, true, true, true, true, true, true, true] rfl rfl (by kernel_rfl) (fun _ _ _ h => h) (Or.inl ⟨by rfl, ?_⟩) ?_ ?_
    rotate_left
    · intro w'
      go_simp
      with_reducible rfl
    rotate_left
    · simp only [Act.put, List.setIfInBounds_toArray, List.set_cons_zero, List.set_cons_succ, i64_w, i32_w]
      rfl
    refine done_ (by kernel_rfl) ?_
    go_wp2_with fail
    go_ret
    exact ⟨rfl, hHeld.2.2.2.2.2⟩
/-- The items, while they are made. -/
def RI (w : World) (n : Nat) (vs xs : List Value) (k : Nat) (i : Value) (wr : World) : Prop := ∃ j : Nat, i = .int .i64 j ∧ k + j = n ∧ Below w.heap.size w wr ∧ wr.heap.size = w.heap.size + 2 + j ∧
  wr.heap[w.heap.size]? = some (.cells ((List.range j).map (fun i => Value.pointer (some ⟨w.heap.size + 2 + i, 0, none⟩)) ++ List.replicate (n - j) (Value.pointer none)).toArray 180 (0, 0)) ∧
  wr.heap[w.heap.size + 1]? = some (.cells #[.slice (some ⟨w.heap.size, 0, none⟩) n n] 177 (0, 0)) ∧
  ∀ i, i < j → wr.heap[w.heap.size + 2 + i]? = some (.cells #[vs.getD i .nilIface, xs.getD i .nilIface] 182 (0, 0))
theorem ri_step {w wr : World} {n j : Nat} {vs xs : List Value} {v x : Value} (hj : j < n) (hb : Below w.heap.size w wr) (hs : wr.heap.size = w.heap.size + 2 + j)
    (hr : wr.heap[w.heap.size]? = some (.cells ((List.range j).map (fun i => Value.pointer (some ⟨w.heap.size + 2 + i, 0, none⟩)) ++ List.replicate (n - j) (Value.pointer none)).toArray 180 (0, 0)))
    (hx : wr.heap[w.heap.size + 1]? = some (.cells #[.slice (some ⟨w.heap.size, 0, none⟩) n n] 177 (0, 0))) (hi : ∀ i, i < j → wr.heap[w.heap.size + 2 + i]? = some (.cells #[vs.getD i .nilIface, xs.getD i .nilIface] 182 (0, 0)))
    (hv : vs[j]? = some v) (hxx : xs[j]? = some x) : ∀ k, k + (j + 1) = n → RI w n vs xs k (.int .i64 ((j + 1 : Nat) : Int)) (((wr.setCell ⟨w.heap.size, j, none⟩ (.pointer (some ⟨wr.heap.size, 0, none⟩))).alloc (.cells #[v, x] 182)).drew) := by
  intro k hk
  obtain ⟨W0, hW0⟩ : ∃ W0, W0 = wr.setCell ⟨w.heap.size, j, none⟩ (.pointer (some ⟨wr.heap.size, 0, none⟩)) := ⟨_, rfl⟩
  have hg : wr.grownBy W0 (some w.heap.size) := by rw [hW0]; exact grown_set (World.grownBy.refl wr _) j _
  have hz0 : W0.heap.size = wr.heap.size := by rw [hW0]; exact World.size_setCell wr _ _
  have hr0 : W0.heap[w.heap.size]? = some (.cells ((List.range (j + 1)).map (fun i => Value.pointer (some ⟨w.heap.size + 2 + i, 0, none⟩)) ++ List.replicate (n - (j + 1)) (Value.pointer none)).toArray 180 (0, 0)) := by
    rw [hW0, heap_set hr j _]
    obtain ⟨m, hm⟩ : ∃ m, n - j = m + 1 := ⟨n - j - 1, by omega⟩
    have e : (((List.range j).map (fun i => Value.pointer (some ⟨w.heap.size + 2 + i, 0, none⟩)) ++ List.replicate (n - j) (Value.pointer none))).set j (.pointer (some ⟨wr.heap.size, 0, none⟩)) = (List.range (j + 1)).map (fun i => Value.pointer (some ⟨w.heap.size + 2 + i, 0, none⟩)) ++ List.replicate (n - (j + 1)) (Value.pointer none) := by
      rw [hm, show n - (j + 1) = m by omega, List.replicate_succ, List.range_succ, List.map_append, List.append_assoc, List.set_append_right _ _ (by simp), hs]
      simp
    simp only [List.setIfInBounds_toArray, e]
  rw [← hW0]
  clear hW0
  have hb1 : Below W0.heap.size W0 (W0.alloc (.cells #[v, x] 182)).drew := pw_below_drewN ((Below.refl _ W0).alloc (Nat.le_refl _) _) 1
  have hn1 : (W0.alloc (.cells #[v, x] 182)).drew.heap[W0.heap.size]? = some (.cells #[v, x] 182 (0, 0)) := heap_alloc_new W0 _
  have hz1 : (W0.alloc (.cells #[v, x] 182)).drew.heap.size = W0.heap.size + 1 := World.size_alloc W0 _
  obtain ⟨W1, hW1⟩ : ∃ W1, W1 = (W0.alloc (.cells #[v, x] 182)).drew := ⟨_, rfl⟩
  rw [← hW1] at hb1 hn1 hz1 ⊢
  clear hW1
  have hbg : Below w.heap.size w W0 := hb.grown hg hb.size (fun k hk => by cases hk; exact Nat.le_refl _)
  have hkeep : ∀ (b : Nat) (o : Obj), wr.heap[b]? = some o → b ≠ w.heap.size → W1.heap[b]? = some o := fun b o h hne => by
    have h1 := (hg.block b (ValA.lt_of_heap h) (fun e => hne (Option.some.inj e))).trans h
    exact (hb1.block b (ValA.lt_of_heap h1)).trans h1
  refine ⟨j + 1, rfl, hk, hbg.trans (hb1.mono hbg.size), by omega, (hb1.block _ (ValA.lt_of_heap hr0)).trans hr0, hkeep _ _ hx (by omega), ?_⟩
  intro i hij
  by_cases c : i < j
  · exact hkeep _ _ (hi i c) (by omega)
  · obtain rfl : i = j := by omega
    rw [← hs, ← hz0, hn1, List.getD_eq_getElem?_getD, List.getD_eq_getElem?_getD, hv, hxx]
    rfl
/-- Items stand in a row, in the order M. -/
def ItemsAt (p n : Nat) (M : List Nat) (vs xs : List Value) (w' : World) : Prop := M.length = n ∧ (∀ j, j < n → w'.cell? ⟨p, j, none⟩ = some (.pointer (some ⟨p + 2 + M.getD j 0, 0, none⟩))) ∧
  ∀ i, i < n → w'.cell? ⟨p + 2 + i, 0, none⟩ = some (vs.getD i .nilIface) ∧ w'.cell? ⟨p + 2 + i, 1, none⟩ = some (xs.getD i .nilIface)
theorem ItemsAt.later {p n : Nat} {M : List Nat} {vs xs : List Value} {w w' : World} (h : ItemsAt p n M vs xs w) (hb : Below w.heap.size w w') : ItemsAt p n M vs xs w' :=
  ⟨h.1, fun j hj => pw_cell_below hb (h.2.1 j hj), fun i hi => ⟨pw_cell_below hb (h.2.2 i hi).1, pw_cell_below hb (h.2.2 i hi).2⟩⟩
noncomputable def itS : TypeInfo := (Tryz.prog.info? 177).get (by kernel_rfl)
noncomputable def itE : TypeInfo := (Tryz.prog.info? 180).get (by kernel_rfl)
theorem itK (n : Nat) (h2 : 2 ≤ n) : Lib.swapperK n itE 22 = 3 := by
  have a : itE.hasPointers = true := by kernel_rfl
  have b : itE.bytes = 8 := by kernel_rfl
  have c : (n == 0) = false := by simp; omega
  have d : (n == 1) = false := by simp; omega
  simp [Lib.swapperK, a, b, c, d]
theorem itF (n : Nat) : ∃ f, Tryz.prog.funcs.findIdx? (·.name == "internal/reflectlite" ++ ".Swapper$" ++ toString (Lib.swapperK n itE 22)) = some f ∧ (2 ≤ n → ∃ gS : Bool, ∀ args W, (callFunc f args).run Tryz.prog W = ((Extern.ReflectliteSwapper.swap gS args).run Tryz.prog W).andThen fun v w' => .ok (.value v) w') := by
  by_cases h0 : n = 0
  · subst h0
    exact ⟨265, by kernel_rfl, fun h => absurd h (by omega)⟩
  by_cases h1 : n = 1
  · subst h1
    exact ⟨266, by kernel_rfl, fun h => absurd h (by omega)⟩
  rw [itK n (by omega)]
  exact ⟨267, by kernel_rfl, fun _ => ⟨true, fun args W => run_callFunc_extern Tryz.func267 (by kernel_rfl) (by kernel_rfl) (by kernel_rfl) (e := Extern.ReflectliteSwapper.swap true) (by kernel_rfl) args W⟩⟩
/-- The order of items: that of their keys. -/
def ltI (kl : List V) (i j : Nat) : Bool := ltV (rd_T26 kl i) (rd_T26 kl j)
theorem wk_ltI (kl : List V) : Wk (ltI kl) where
  anti x y h := wk_ltV.anti _ _ h
  tr x y z h k := wk_ltV.tr _ _ _ h k
set_option maxHeartbeats 4000000 in
/-- sort.SliceStable over the items. -/
theorem sort_rows (w wr : World) (n m : Nat) (vs xs : List Value) (kl : List V) (hn : n ≤ 1000000) (hxs : xs.length = n) (hk : kl.length = n) (hw : ∀ y ∈ kl, WL y ∧ Sz y) (hG : ∀ (j : Nat) (v : Value), xs[j]? = some v → G m w (rd_T26 kl j) v)
    (hr : RI w n vs xs 0 (.int .i64 (n : Nat)) wr) :
    Calls Tryz.prog 191 #[.iface 177 (.slice (some ⟨w.heap.size, 0, none⟩) n n), .func (.func 192) #[] #[.pointer (some ⟨w.heap.size + 1, 0, none⟩)]] wr fun e w' => e = .returned (.tuple #[]) ∧ Below w.heap.size w w' ∧ w'.cell? ⟨w.heap.size + 1, 0, none⟩ = some (.slice (some ⟨w.heap.size, 0, none⟩) n n) ∧
      ∃ M : List Nat, ItemsAt w.heap.size n M vs xs w' ∧ Ris (ltI kl) M ∧ St (ltI kl) (List.range n) M := by
  obtain ⟨j, he, hj, hb, hsz, hrow, hbox, hit⟩ := hr
  obtain rfl : j = n := by simpa using hj
  clear he hj
  rw [Nat.sub_self, List.replicate_zero, List.append_nil] at hrow
  obtain ⟨p, hp⟩ : ∃ p, p = w.heap.size := ⟨_, rfl⟩
  rw [← hp] at hb hsz hrow hbox hit ⊢
  have hH : Holds (fun i : Nat => Value.pointer (some ⟨p + 2 + i, 0, none⟩)) wr p 0 (Array.range j) := fun i hi => by
    rw [Array.size_range] at hi
    have h := list_cell (j := i) hrow (by simpa using hi)
    rw [Nat.zero_add]
    refine ⟨?_, h.2⟩
    rw [h.1]
    simp [hi]
  have hplt : p < wr.heap.size := by omega
  have hless : LessB Tryz.prog 192 #[.pointer (some ⟨p + 1, 0, none⟩)] (fun i : Nat => Value.pointer (some ⟨p + 2 + i, 0, none⟩)) (ltI kl) p 0 (Array.range j) wr := by
    intro w1 dk hS a b ha hb'
    rw [Array.size_range] at ha hb'
    have hz := hS.size
    rw [Array.size_range] at hz
    have hmem : ∀ t, t < j → dk[t]! < j := fun t ht => by
      have h1 : dk[t]! ∈ dk.toList := by
        rw [getElem!_pos dk t (by omega)]
        exact Array.getElem_mem_toList _
      have h2 := hS.2.2.mem_iff.1 h1
      simpa using h2
    have c1 := hS.cell (v := .slice (some ⟨p, 0, none⟩) j j) (g := p + 1) (k := 0) (list_cell (vs := [Value.slice (some ⟨p, 0, none⟩) j j]) (j := 0) hbox (by simp)).1 (by omega)
    have c2 := (hS.2.1 a (by omega)).1
    have c3 := (hS.2.1 b (by omega)).1
    rw [Nat.zero_add] at c2 c3
    have hka := hmem a ha
    have hkb := hmem b hb'
    have c4 := hS.cell (g := p + 2 + dk[a]!) (k := 1) (two_c (hit _ hka)).2.1 (by omega)
    have c5 := hS.cell (g := p + 2 + dk[b]!) (k := 1) (two_c (hit _ hkb)).2.1 (by omega)
    have gx : ∀ t, t < j → G m w1 (rd_T26 kl t) (xs.getD t .nilIface) := fun t ht => by
      have e : xs[t]? = some (xs.getD t .nilIface) := by rw [List.getD_eq_getElem?_getD, List.getElem?_eq_getElem (by omega)]; rfl
      exact ((hG t _ e).keepB (hp ▸ hb)).grownP hS.1 hrow
    have sx : ∀ t, t < j → xs.getD t .nilIface = .nilIface ∨ ∃ a b, xs.getD t .nilIface = .iface a b := fun t ht => (gx t ht).shape
    have hmw := fun t (ht : t < j) => hw _ (rd_mem kl t (by omega))
    refine (less_any w1 (p + 1) p j j a b _ _ _ _ (cmpV (rd_T26 kl dk[a]!) (rd_T26 kl dk[b]!)) ha hb' c1 c2 c3 c4 c5 (sx _ hka) (sx _ hkb) fun w2 hb2 => ?_).mono ?_
    · exact compare_any _ _ (Nat.lt_succ_self _) (hmw _ hka).1 (hmw _ hka).2 _ (hmw _ hkb).1 (hmw _ hkb).2 _ _ m m w2 ((gx _ hka).keepB hb2) ((gx _ hkb).keepB hb2)
    · rintro e w2 ⟨rfl, hb2⟩
      exact ⟨rfl, hb2⟩
  have hS := sliceStable_any (P := Tryz.prog) (ρ := Tryz.laysStable_ren) Tryz.laysStable 177 180 itS itE (by kernel_rfl) (by kernel_rfl) (by kernel_rfl) (by kernel_rfl) 22 (fun _ => by kernel_rfl) (by kernel_rfl) (fun _ => by kernel_rfl) (fun i : Nat => Value.pointer (some ⟨p + 2 + i, 0, none⟩)) (fun _ => rfl) (ltI kl) (wk_ltI kl) 192 _
    (enters_of Tryz.func192 (by kernel_rfl) rfl) p 0 j (Array.range j) (by rw [Array.size_range]; omega) itF wr hless hH hplt
  rw [Array.size_range] at hS
  change Calls Tryz.prog 191 _ _ _ at hS
  refine hS.mono ?_
  rintro e w' ⟨rfl, d', hr, hst, hS'⟩
  have hz := hS'.size
  rw [Array.size_range] at hz
  refine ⟨rfl, ?_, ?_, d'.toList, ⟨by rw [Array.length_toList]; exact hz, fun i hi => ?_, fun i hi => ?_⟩, hr, by simpa using hst⟩
  · rw [hp] at hb hplt ⊢
    exact hb.grown hS'.1 hb.size (fun k hk => by cases hk; omega)
  · exact hS'.cell (list_cell (vs := [Value.slice (some ⟨p, 0, none⟩) j j]) (j := 0) hbox (by simp)).1 (by omega)
  · have h := (hS'.2.1 i (by omega)).1
    rw [Nat.zero_add] at h
    rw [h, getElem!_pos d' i (by omega), List.getD_eq_getElem?_getD, List.getElem?_eq_getElem (by rw [Array.length_toList]; omega)]
    simp
  · exact ⟨hS'.cell (two_c (hit i hi)).1 (by omega), hS'.cell (two_c (hit i hi)).2.1 (by omega)⟩
set_option maxRecDepth 100000 in
set_option maxHeartbeats 4000000 in
theorem sort_items (w : World) (nm : ByteArray) (b b' n m : Nat) (vs xs : List Value) (kl : List V) (hn : n ≤ 1000000) (hvs : vs.length = n) (hxs : xs.length = n) (hk : kl.length = n) (hb : w.heap[b]? = some (.cells vs.toArray 20 (0, 0))) (hb' : w.heap[b']? = some (.cells xs.toArray 20 (0, 0)))
    (hsh : ∀ v ∈ vs, v = .nilIface ∨ ∃ t u, v = .iface t u) (hw : ∀ y ∈ kl, WL y ∧ Sz y) (hG : ∀ (j : Nat) (v : Value), xs[j]? = some v → G m w (rd_T26 kl j) v) :
    Calls Tryz.prog 162 #[.string nm, .iface 81 (.slice (some ⟨b, 0, none⟩) n n), .iface 81 (.slice (some ⟨b', 0, none⟩) n n)] w fun e w' => e = .returned (.tuple #[.slice (some ⟨w.heap.size, 0, none⟩) n n, .nilIface]) ∧ Below w.heap.size w w' ∧
      ∃ M : List Nat, ItemsAt w.heap.size n M vs xs w' ∧ Ris (ltI kl) M ∧ St (ltI kl) (List.range n) M := by
  have HS := Lib.hid (fun wr hr => sort_rows w wr n m vs xs kl hn hxs hk hw hG hr)
  have hmk := fun w => runMakeP n hn w
  have gL := fun w => qL (.slice (some ⟨b, 0, none⟩) n n) w
  have gL' := fun w => qL (.slice (some ⟨b', 0, none⟩) n n) w
  have HB := Lib.hid (And.intro hb hb')
  have HN := Lib.hid (And.intro hn (And.intro hvs hxs))
  have HSH := Lib.hid (show (∀ v ∈ vs, v = .nilIface ∨ ∃ t u, v = .iface t u) ∧ ∀ v ∈ xs, v = .nilIface ∨ ∃ t u, v = .iface t u from And.intro hsh (fun (v : Value) (hv : v ∈ xs) => by
    obtain ⟨j, hj, rfl⟩ := List.mem_iff_getElem.1 hv
    exact (hG j _ (List.getElem?_eq_getElem hj)).shape))
  clear hb hb' hn hvs hxs hk hw hG hsh
  go_enter Tryz.func162, Tryz.ntmps162
  go_wp2_with fail
  obtain ⟨W1, hW1⟩ : ∃ W1, W1 = (w.alloc (.cells (List.replicate n (Value.pointer none)).toArray 180)).alloc (.cells #[.slice (some ⟨w.heap.size, 0, none⟩) n n] 177) := ⟨_, rfl⟩
  have H1 := Lib.hid (show RI w n vs xs n (.int .i64 ((0 : Nat) : Int)) W1 by
    have e1 := heap_alloc_new w (.cells (List.replicate n (Value.pointer none)).toArray 180)
    refine ⟨0, rfl, rfl, by rw [hW1]; exact ((Below.refl _ w).alloc (Nat.le_refl _) _).alloc (by rw [World.size_alloc]; omega) _, by rw [hW1, World.size_alloc, World.size_alloc], ?_, ?_, fun i hi => absurd hi (by omega)⟩
    · rw [hW1, (Below.heap_alloc _ _ _ (ValA.lt_of_heap e1)), e1]
      simp
    · have e2 := heap_alloc_new (w.alloc (.cells (List.replicate n (Value.pointer none)).toArray 180)) (.cells #[.slice (some ⟨w.heap.size, 0, none⟩) n n] 177)
      rw [World.size_alloc] at e2
      rw [hW1]
      exact e2)
  try rw [List.toArray_replicate] at hW1
  rw [← hW1]
  clear hW1 hmk
  go_loopg [66] n (fun k i wr => RI w n vs xs k i wr)
  case atStart => exact H1.out
  case round =>
    clear H1
    obtain ⟨j, rfl, hkj, hbr, hsz, hrow, hbox, hit⟩ := hrel
    have HR := Lib.hid (And.intro hbr (And.intro hsz (And.intro hrow (And.intro hbox hit))))
    have HK := Lib.hid hkj
    by_cases hlt : j < n
    · obtain ⟨v, hv⟩ : ∃ v, vs[j]? = some v := ⟨_, List.getElem?_eq_getElem (by have := HN.out.2.1; omega)⟩
      obtain ⟨x, hx⟩ : ∃ x, xs[j]? = some x := ⟨_, List.getElem?_eq_getElem (by have := HN.out.2.2; omega)⟩
      have hs := HSH.out.1 v (List.mem_of_getElem? hv)
      have hs' := HSH.out.2 x (List.mem_of_getElem? hx)
      have x0 : wr.cell? ⟨b, j, none⟩ = some v := by
        have h := list_cell ((hbr.block _ (ValA.lt_of_heap HB.out.1)).trans HB.out.1) (by have := HN.out.2.1; omega : j < vs.length)
        have hv2 := hv
        rw [List.getElem?_eq_getElem (by have := HN.out.2.1; omega)] at hv2
        rw [h.1, Option.some.inj hv2]
      have x1 : wr.cell? ⟨b', j, none⟩ = some x := by
        have h := list_cell ((hbr.block _ (ValA.lt_of_heap HB.out.2)).trans HB.out.2) (by have := HN.out.2.2; omega : j < xs.length)
        have hv2 := hx
        rw [List.getElem?_eq_getElem (by have := HN.out.2.2; omega)] at hv2
        rw [h.1, Option.some.inj hv2]
      have x2 : wr.cell? ⟨w.heap.size + 1, 0, none⟩ = some (.slice (some ⟨w.heap.size, 0, none⟩) n n) := (list_cell (vs := [Value.slice (some ⟨w.heap.size, 0, none⟩) n n]) (j := 0) hbox (by simp)).1
      have hfr := list_cell (j := j) hrow (by simp; omega)
      have hplt : w.heap.size < wr.heap.size := by omega
      have H4 := Lib.hid (ri_step hlt hbr hsz hrow hbox hit hv hx)
      obtain ⟨old, hold⟩ : ∃ old, wr.cell? ⟨w.heap.size, j, none⟩ = some old := ⟨_, hfr.1⟩
      have q1 := hfr.2
      have hlt2 : (j : Int) < (n : Int) := by omega
      have HLT := Lib.hid hlt
      clear hbr hsz hrow hbox hit hkj hlt hv hx hfr
      rcases hs with rfl | ⟨tt, gg, rfl⟩ <;> rcases hs' with rfl | ⟨tt', gg', rfl⟩
      · have H5 := H4
        go_wp2_with fail
        refine start_ (n := 11) (S := fun w' => w'.cell? ⟨b', j, none⟩ = some (.nilIface) ∧ w'.cell? ⟨w.heap.size + 1, 0, none⟩ = some (.slice (some ⟨w.heap.size, 0, none⟩) n n) ∧ w'.cell? ⟨w.heap.size, j, none⟩ = some old ∧ w'.frozen? ⟨w.heap.size, j, none⟩ = false) (ds := [10]) #[false, false, false, false, false, false, false, false, false, false, false] (by kernel_rfl) rfl rfl ⟨x1, x2, hold, q1⟩ (fun hHeld => ?_)
        refine pure_ (i := 1) (N := some 72) (v := ?_) (a' := ?_) #[false, true, false, false, false, false, false, false, false, false, false] rfl rfl (by kernel_rfl) (fun _ _ _ h => h) (Or.inl ⟨by rfl, ?_⟩) ?_ ?_
        rotate_left
        · intro w'
          go_simp
          with_reducible rfl
        rotate_left
        · simp only [Act.put, List.setIfInBounds_toArray, List.set_cons_zero, List.set_cons_succ, i64_w, i32_w]
          rfl
        refine pure_ (i := 2) (N := some 73) (v := ?_) (a' := ?_) #[false, true, true, false, false, false, false, false, false, false, false] rfl rfl (by kernel_rfl) (fun _ _ _ h => h) (Or.inl ⟨by rfl, ?_⟩) ?_ ?_
        rotate_left
        · intro w'
          go_simp
          with_reducible rfl
        rotate_left
        · simp only [Act.put, List.setIfInBounds_toArray, List.set_cons_zero, List.set_cons_succ, i64_w, i32_w]
          rfl
        refine pure_ (i := 3) (N := some 74) (v := ?_) (a' := ?_) #[false, true, true, true, false, false, false, false, false, false, false] rfl rfl (by kernel_rfl) (fun _ _ _ h => h) (Or.inl ⟨by rfl, ?_⟩) ?_ ?_
        rotate_left
        · intro w'
          go_simp
          with_reducible rfl
        rotate_left
        · simp only [Act.put, List.setIfInBounds_toArray, List.set_cons_zero, List.set_cons_succ, i64_w, i32_w]
          rfl
        refine pure_ (i := 4) (N := some 75) (v := ?_) (a' := ?_) #[false, true, true, true, true, false, false, false, false, false, false] rfl rfl (by kernel_rfl) (fun _ _ _ h => h) (Or.inl ⟨by rfl, ?_⟩) ?_ ?_
        rotate_left
        · intro w'
          go_simp
          with_reducible rfl
        rotate_left
        · simp only [Act.put, List.setIfInBounds_toArray, List.set_cons_zero, List.set_cons_succ, i64_w, i32_w]
          rfl
        refine pure_ (i := 5) (N := some 76) (v := ?_) (a' := ?_) #[false, true, true, true, true, true, false, false, false, false, false] rfl rfl (by kernel_rfl) (fun _ _ _ h => h) (Or.inl ⟨by rfl, ?_⟩) ?_ ?_
        rotate_left
        · intro w'
          go_simp
          with_reducible rfl
        rotate_left
        · simp only [Act.put, List.setIfInBounds_toArray, List.set_cons_zero, List.set_cons_succ, i64_w, i32_w]
          rfl
        refine take_ (i := 0) (N := some 71) (v := ?_) (a' := ?_) #[true, true, true, true, true, true, false, false, false, false, false] rfl rfl (by kernel_rfl) (fun _ _ _ h => h) (Or.inl ⟨by rfl, ?_⟩) hHeld ?_ ?_
        rotate_left
        · rintro w' ⟨s0, s1, s2, s3⟩
          go_simp
          with_reducible rfl
        rotate_left
        · simp only [Act.put, List.setIfInBounds_toArray, List.set_cons_zero, List.set_cons_succ, i64_w, i32_w]
          rfl
        refine take_ (i := 6) (N := some 77) (v := ?_) (a' := ?_) #[true, true, true, true, true, true, true, false, false, false, false] rfl rfl (by kernel_rfl) (fun _ _ _ h => h) (Or.inl ⟨by rfl, ?_⟩) hHeld ?_ ?_
        rotate_left
        · rintro w' ⟨s0, s1, s2, s3⟩
          go_simp
          with_reducible rfl
        rotate_left
        · simp only [Act.put, List.setIfInBounds_toArray, List.set_cons_zero, List.set_cons_succ, i64_w, i32_w]
          rfl
        refine pure_ (i := 7) (N := some 78) (v := ?_) (a' := ?_) #[true, true, true, true, true, true, true, true, false, false, false] rfl rfl (by kernel_rfl) (fun _ _ _ h => h) (Or.inl ⟨by rfl, ?_⟩) ?_ ?_
        rotate_left
        · intro w'
          go_simp
          with_reducible rfl
        rotate_left
        · simp only [Act.put, List.setIfInBounds_toArray, List.set_cons_zero, List.set_cons_succ, i64_w, i32_w]
          rfl
        refine one_ (i := 8) (N := some 79) #[true, true, true, true, true, true, true, true, true, false, false] rfl rfl (by kernel_rfl) (by decide) (fun K hK => ?_)
        refine value_ (w1 := ?_) (v := ?_) (by rfl) rfl ?_ ?_
        rotate_left 2
        · go_simp
          constructor
          · rfl
          · rfl
        refine hK.out _ _ ⟨(pw_cell_below ((Below.refl _ _).alloc (Nat.le_refl _) _) hHeld.1), (pw_cell_below ((Below.refl _ _).alloc (Nat.le_refl _) _) hHeld.2.1), (pw_cell_below ((Below.refl _ _).alloc (Nat.le_refl _) _) hHeld.2.2.1), ((World.frozen?_of_block (Below.heap_alloc _ _ _ hplt)).trans hHeld.2.2.2)⟩ (fun hHeld => ?_)
        clear hK K
        refine norm_ (a' := ?_) ?_ ?_
        rotate_left
        · show Act.put _ (some 79) _ = _
          simp only [Act.put, List.setIfInBounds_toArray, List.set_cons_zero, List.set_cons_succ, i64_w, i32_w]
          rfl
        refine pure_ (i := 9) (N := some 80) (v := ?_) (a' := ?_) #[true, true, true, true, true, true, true, true, true, true, false] rfl rfl (by kernel_rfl) (fun _ _ _ h => h) (Or.inl ⟨by rfl, ?_⟩) ?_ ?_
        rotate_left
        · intro w'
          go_simp
          with_reducible rfl
        rotate_left
        · simp only [Act.put, List.setIfInBounds_toArray, List.set_cons_zero, List.set_cons_succ, i64_w, i32_w]
          rfl
        refine last_ (i := 10) (N := none) #[true, true, true, true, true, true, true, true, true, true, true] rfl rfl (by kernel_rfl) (by decide) (fun K hK => ?_)
        refine skip_ (w1 := ?_) (by rfl) rfl ?_ ?_
        rotate_left
        · go_simp
          rfl
        refine hK.out _ _ ?_
        clear hK K
        refine done_ (by kernel_rfl) ?_
        go_wp2_with fail
        go_roundg (gk - 1)
        case measure => have := HK.out; have := HLT.out; omega
        case rel =>
          have hw : wrap64 ((j : Int) + 1) = ((j + 1 : Nat) : Int) := by have := HN.out.1; have := HLT.out; unfold wrap64; omega
          rw [hw]
          exact H5.out (gk - 1) (by have := HK.out; have := HLT.out; omega)
      · have H5 := H4
        go_wp2_with fail
        refine start_ (n := 11) (S := fun w' => w'.cell? ⟨b', j, none⟩ = some (.iface tt' gg') ∧ w'.cell? ⟨w.heap.size + 1, 0, none⟩ = some (.slice (some ⟨w.heap.size, 0, none⟩) n n) ∧ w'.cell? ⟨w.heap.size, j, none⟩ = some old ∧ w'.frozen? ⟨w.heap.size, j, none⟩ = false) (ds := [10]) #[false, false, false, false, false, false, false, false, false, false, false] (by kernel_rfl) rfl rfl ⟨x1, x2, hold, q1⟩ (fun hHeld => ?_)
        refine pure_ (i := 1) (N := some 72) (v := ?_) (a' := ?_) #[false, true, false, false, false, false, false, false, false, false, false] rfl rfl (by kernel_rfl) (fun _ _ _ h => h) (Or.inl ⟨by rfl, ?_⟩) ?_ ?_
        rotate_left
        · intro w'
          go_simp
          with_reducible rfl
        rotate_left
        · simp only [Act.put, List.setIfInBounds_toArray, List.set_cons_zero, List.set_cons_succ, i64_w, i32_w]
          rfl
        refine pure_ (i := 2) (N := some 73) (v := ?_) (a' := ?_) #[false, true, true, false, false, false, false, false, false, false, false] rfl rfl (by kernel_rfl) (fun _ _ _ h => h) (Or.inl ⟨by rfl, ?_⟩) ?_ ?_
        rotate_left
        · intro w'
          go_simp
          with_reducible rfl
        rotate_left
        · simp only [Act.put, List.setIfInBounds_toArray, List.set_cons_zero, List.set_cons_succ, i64_w, i32_w]
          rfl
        refine pure_ (i := 3) (N := some 74) (v := ?_) (a' := ?_) #[false, true, true, true, false, false, false, false, false, false, false] rfl rfl (by kernel_rfl) (fun _ _ _ h => h) (Or.inl ⟨by rfl, ?_⟩) ?_ ?_
        rotate_left
        · intro w'
          go_simp
          with_reducible rfl
        rotate_left
        · simp only [Act.put, List.setIfInBounds_toArray, List.set_cons_zero, List.set_cons_succ, i64_w, i32_w]
          rfl
        refine pure_ (i := 4) (N := some 75) (v := ?_) (a' := ?_) #[false, true, true, true, true, false, false, false, false, false, false] rfl rfl (by kernel_rfl) (fun _ _ _ h => h) (Or.inl ⟨by rfl, ?_⟩) ?_ ?_
        rotate_left
        · intro w'
          go_simp
          with_reducible rfl
        rotate_left
        · simp only [Act.put, List.setIfInBounds_toArray, List.set_cons_zero, List.set_cons_succ, i64_w, i32_w]
          rfl
        refine pure_ (i := 5) (N := some 76) (v := ?_) (a' := ?_) #[false, true, true, true, true, true, false, false, false, false, false] rfl rfl (by kernel_rfl) (fun _ _ _ h => h) (Or.inl ⟨by rfl, ?_⟩) ?_ ?_
        rotate_left
        · intro w'
          go_simp
          with_reducible rfl
        rotate_left
        · simp only [Act.put, List.setIfInBounds_toArray, List.set_cons_zero, List.set_cons_succ, i64_w, i32_w]
          rfl
        refine take_ (i := 0) (N := some 71) (v := ?_) (a' := ?_) #[true, true, true, true, true, true, false, false, false, false, false] rfl rfl (by kernel_rfl) (fun _ _ _ h => h) (Or.inl ⟨by rfl, ?_⟩) hHeld ?_ ?_
        rotate_left
        · rintro w' ⟨s0, s1, s2, s3⟩
          go_simp
          with_reducible rfl
        rotate_left
        · simp only [Act.put, List.setIfInBounds_toArray, List.set_cons_zero, List.set_cons_succ, i64_w, i32_w]
          rfl
        refine take_ (i := 6) (N := some 77) (v := ?_) (a' := ?_) #[true, true, true, true, true, true, true, false, false, false, false] rfl rfl (by kernel_rfl) (fun _ _ _ h => h) (Or.inl ⟨by rfl, ?_⟩) hHeld ?_ ?_
        rotate_left
        · rintro w' ⟨s0, s1, s2, s3⟩
          go_simp
          with_reducible rfl
        rotate_left
        · simp only [Act.put, List.setIfInBounds_toArray, List.set_cons_zero, List.set_cons_succ, i64_w, i32_w]
          rfl
        refine pure_ (i := 7) (N := some 78) (v := ?_) (a' := ?_) #[true, true, true, true, true, true, true, true, false, false, false] rfl rfl (by kernel_rfl) (fun _ _ _ h => h) (Or.inl ⟨by rfl, ?_⟩) ?_ ?_
        rotate_left
        · intro w'
          go_simp
          with_reducible rfl
        rotate_left
        · simp only [Act.put, List.setIfInBounds_toArray, List.set_cons_zero, List.set_cons_succ, i64_w, i32_w]
          rfl
        refine one_ (i := 8) (N := some 79) #[true, true, true, true, true, true, true, true, true, false, false] rfl rfl (by kernel_rfl) (by decide) (fun K hK => ?_)
        refine value_ (w1 := ?_) (v := ?_) (by rfl) rfl ?_ ?_
        rotate_left 2
        · go_simp
          constructor
          · rfl
          · rfl
        refine hK.out _ _ ⟨(pw_cell_below ((Below.refl _ _).alloc (Nat.le_refl _) _) hHeld.1), (pw_cell_below ((Below.refl _ _).alloc (Nat.le_refl _) _) hHeld.2.1), (pw_cell_below ((Below.refl _ _).alloc (Nat.le_refl _) _) hHeld.2.2.1), ((World.frozen?_of_block (Below.heap_alloc _ _ _ hplt)).trans hHeld.2.2.2)⟩ (fun hHeld => ?_)
        clear hK K
        refine norm_ (a' := ?_) ?_ ?_
        rotate_left
        · show Act.put _ (some 79) _ = _
          simp only [Act.put, List.setIfInBounds_toArray, List.set_cons_zero, List.set_cons_succ, i64_w, i32_w]
          rfl
        refine pure_ (i := 9) (N := some 80) (v := ?_) (a' := ?_) #[true, true, true, true, true, true, true, true, true, true, false] rfl rfl (by kernel_rfl) (fun _ _ _ h => h) (Or.inl ⟨by rfl, ?_⟩) ?_ ?_
        rotate_left
        · intro w'
          go_simp
          with_reducible rfl
        rotate_left
        · simp only [Act.put, List.setIfInBounds_toArray, List.set_cons_zero, List.set_cons_succ, i64_w, i32_w]
          rfl
        refine last_ (i := 10) (N := none) #[true, true, true, true, true, true, true, true, true, true, true] rfl rfl (by kernel_rfl) (by decide) (fun K hK => ?_)
        refine skip_ (w1 := ?_) (by rfl) rfl ?_ ?_
        rotate_left
        · go_simp
          rfl
        refine hK.out _ _ ?_
        clear hK K
        refine done_ (by kernel_rfl) ?_
        go_wp2_with fail
        go_roundg (gk - 1)
        case measure => have := HK.out; have := HLT.out; omega
        case rel =>
          have hw : wrap64 ((j : Int) + 1) = ((j + 1 : Nat) : Int) := by have := HN.out.1; have := HLT.out; unfold wrap64; omega
          rw [hw]
          exact H5.out (gk - 1) (by have := HK.out; have := HLT.out; omega)
      · have H5 := H4
        go_wp2_with fail
        refine start_ (n := 11) (S := fun w' => w'.cell? ⟨b', j, none⟩ = some (.nilIface) ∧ w'.cell? ⟨w.heap.size + 1, 0, none⟩ = some (.slice (some ⟨w.heap.size, 0, none⟩) n n) ∧ w'.cell? ⟨w.heap.size, j, none⟩ = some old ∧ w'.frozen? ⟨w.heap.size, j, none⟩ = false) (ds := [10]) #[false, false, false, false, false, false, false, false, false, false, false] (by kernel_rfl) rfl rfl ⟨x1, x2, hold, q1⟩ (fun hHeld => ?_)
        refine pure_ (i := 1) (N := some 72) (v := ?_) (a' := ?_) #[false, true, false, false, false, false, false, false, false, false, false] rfl rfl (by kernel_rfl) (fun _ _ _ h => h) (Or.inl ⟨by rfl, ?_⟩) ?_ ?_
        rotate_left
        · intro w'
          go_simp
          with_reducible rfl
        rotate_left
        · simp only [Act.put, List.setIfInBounds_toArray, List.set_cons_zero, List.set_cons_succ, i64_w, i32_w]
          rfl
        refine pure_ (i := 2) (N := some 73) (v := ?_) (a' := ?_) #[false, true, true, false, false, false, false, false, false, false, false] rfl rfl (by kernel_rfl) (fun _ _ _ h => h) (Or.inl ⟨by rfl, ?_⟩) ?_ ?_
        rotate_left
        · intro w'
          go_simp
          with_reducible rfl
        rotate_left
        · simp only [Act.put, List.setIfInBounds_toArray, List.set_cons_zero, List.set_cons_succ, i64_w, i32_w]
          rfl
        refine pure_ (i := 3) (N := some 74) (v := ?_) (a' := ?_) #[false, true, true, true, false, false, false, false, false, false, false] rfl rfl (by kernel_rfl) (fun _ _ _ h => h) (Or.inl ⟨by rfl, ?_⟩) ?_ ?_
        rotate_left
        · intro w'
          go_simp
          with_reducible rfl
        rotate_left
        · simp only [Act.put, List.setIfInBounds_toArray, List.set_cons_zero, List.set_cons_succ, i64_w, i32_w]
          rfl
        refine pure_ (i := 4) (N := some 75) (v := ?_) (a' := ?_) #[false, true, true, true, true, false, false, false, false, false, false] rfl rfl (by kernel_rfl) (fun _ _ _ h => h) (Or.inl ⟨by rfl, ?_⟩) ?_ ?_
        rotate_left
        · intro w'
          go_simp
          with_reducible rfl
        rotate_left
        · simp only [Act.put, List.setIfInBounds_toArray, List.set_cons_zero, List.set_cons_succ, i64_w, i32_w]
          rfl
        refine pure_ (i := 5) (N := some 76) (v := ?_) (a' := ?_) #[false, true, true, true, true, true, false, false, false, false, false] rfl rfl (by kernel_rfl) (fun _ _ _ h => h) (Or.inl ⟨by rfl, ?_⟩) ?_ ?_
        rotate_left
        · intro w'
          go_simp
          with_reducible rfl
        rotate_left
        · simp only [Act.put, List.setIfInBounds_toArray, List.set_cons_zero, List.set_cons_succ, i64_w, i32_w]
          rfl
        refine take_ (i := 0) (N := some 71) (v := ?_) (a' := ?_) #[true, true, true, true, true, true, false, false, false, false, false] rfl rfl (by kernel_rfl) (fun _ _ _ h => h) (Or.inl ⟨by rfl, ?_⟩) hHeld ?_ ?_
        rotate_left
        · rintro w' ⟨s0, s1, s2, s3⟩
          go_simp
          with_reducible rfl
        rotate_left
        · simp only [Act.put, List.setIfInBounds_toArray, List.set_cons_zero, List.set_cons_succ, i64_w, i32_w]
          rfl
        refine take_ (i := 6) (N := some 77) (v := ?_) (a' := ?_) #[true, true, true, true, true, true, true, false, false, false, false] rfl rfl (by kernel_rfl) (fun _ _ _ h => h) (Or.inl ⟨by rfl, ?_⟩) hHeld ?_ ?_
        rotate_left
        · rintro w' ⟨s0, s1, s2, s3⟩
          go_simp
          with_reducible rfl
        rotate_left
        · simp only [Act.put, List.setIfInBounds_toArray, List.set_cons_zero, List.set_cons_succ, i64_w, i32_w]
          rfl
        refine pure_ (i := 7) (N := some 78) (v := ?_) (a' := ?_) #[true, true, true, true, true, true, true, true, false, false, false] rfl rfl (by kernel_rfl) (fun _ _ _ h => h) (Or.inl ⟨by rfl, ?_⟩) ?_ ?_
        rotate_left
        · intro w'
          go_simp
          with_reducible rfl
        rotate_left
        · simp only [Act.put, List.setIfInBounds_toArray, List.set_cons_zero, List.set_cons_succ, i64_w, i32_w]
          rfl
        refine one_ (i := 8) (N := some 79) #[true, true, true, true, true, true, true, true, true, false, false] rfl rfl (by kernel_rfl) (by decide) (fun K hK => ?_)
        refine value_ (w1 := ?_) (v := ?_) (by rfl) rfl ?_ ?_
        rotate_left 2
        · go_simp
          constructor
          · rfl
          · rfl
        refine hK.out _ _ ⟨(pw_cell_below ((Below.refl _ _).alloc (Nat.le_refl _) _) hHeld.1), (pw_cell_below ((Below.refl _ _).alloc (Nat.le_refl _) _) hHeld.2.1), (pw_cell_below ((Below.refl _ _).alloc (Nat.le_refl _) _) hHeld.2.2.1), ((World.frozen?_of_block (Below.heap_alloc _ _ _ hplt)).trans hHeld.2.2.2)⟩ (fun hHeld => ?_)
        clear hK K
        refine norm_ (a' := ?_) ?_ ?_
        rotate_left
        · show Act.put _ (some 79) _ = _
          simp only [Act.put, List.setIfInBounds_toArray, List.set_cons_zero, List.set_cons_succ, i64_w, i32_w]
          rfl
        refine pure_ (i := 9) (N := some 80) (v := ?_) (a' := ?_) #[true, true, true, true, true, true, true, true, true, true, false] rfl rfl (by kernel_rfl) (fun _ _ _ h => h) (Or.inl ⟨by rfl, ?_⟩) ?_ ?_
        rotate_left
        · intro w'
          go_simp
          with_reducible rfl
        rotate_left
        · simp only [Act.put, List.setIfInBounds_toArray, List.set_cons_zero, List.set_cons_succ, i64_w, i32_w]
          rfl
        refine last_ (i := 10) (N := none) #[true, true, true, true, true, true, true, true, true, true, true] rfl rfl (by kernel_rfl) (by decide) (fun K hK => ?_)
        refine skip_ (w1 := ?_) (by rfl) rfl ?_ ?_
        rotate_left
        · go_simp
          rfl
        refine hK.out _ _ ?_
        clear hK K
        refine done_ (by kernel_rfl) ?_
        go_wp2_with fail
        go_roundg (gk - 1)
        case measure => have := HK.out; have := HLT.out; omega
        case rel =>
          have hw : wrap64 ((j : Int) + 1) = ((j + 1 : Nat) : Int) := by have := HN.out.1; have := HLT.out; unfold wrap64; omega
          rw [hw]
          exact H5.out (gk - 1) (by have := HK.out; have := HLT.out; omega)
      · have H5 := H4
        go_wp2_with fail
        refine start_ (n := 11) (S := fun w' => w'.cell? ⟨b', j, none⟩ = some (.iface tt' gg') ∧ w'.cell? ⟨w.heap.size + 1, 0, none⟩ = some (.slice (some ⟨w.heap.size, 0, none⟩) n n) ∧ w'.cell? ⟨w.heap.size, j, none⟩ = some old ∧ w'.frozen? ⟨w.heap.size, j, none⟩ = false) (ds := [10]) #[false, false, false, false, false, false, false, false, false, false, false] (by kernel_rfl) rfl rfl ⟨x1, x2, hold, q1⟩ (fun hHeld => ?_)
        refine pure_ (i := 1) (N := some 72) (v := ?_) (a' := ?_) #[false, true, false, false, false, false, false, false, false, false, false] rfl rfl (by kernel_rfl) (fun _ _ _ h => h) (Or.inl ⟨by rfl, ?_⟩) ?_ ?_
        rotate_left
        · intro w'
          go_simp
          with_reducible rfl
        rotate_left
        · simp only [Act.put, List.setIfInBounds_toArray, List.set_cons_zero, List.set_cons_succ, i64_w, i32_w]
          rfl
        refine pure_ (i := 2) (N := some 73) (v := ?_) (a' := ?_) #[false, true, true, false, false, false, false, false, false, false, false] rfl rfl (by kernel_rfl) (fun _ _ _ h => h) (Or.inl ⟨by rfl, ?_⟩) ?_ ?_
        rotate_left
        · intro w'
          go_simp
          with_reducible rfl
        rotate_left
        · simp only [Act.put, List.setIfInBounds_toArray, List.set_cons_zero, List.set_cons_succ, i64_w, i32_w]
          rfl
        refine pure_ (i := 3) (N := some 74) (v := ?_) (a' := ?_) #[false, true, true, true, false, false, false, false, false, false, false] rfl rfl (by kernel_rfl) (fun _ _ _ h => h) (Or.inl ⟨by rfl, ?_⟩) ?_ ?_
        rotate_left
        · intro w'
          go_simp
          with_reducible rfl
        rotate_left
        · simp only [Act.put, List.setIfInBounds_toArray, List.set_cons_zero, List.set_cons_succ, i64_w, i32_w]
          rfl
        refine pure_ (i := 4) (N := some 75) (v := ?_) (a' := ?_) #[false, true, true, true, true, false, false, false, false, false, false] rfl rfl (by kernel_rfl) (fun _ _ _ h => h) (Or.inl ⟨by rfl, ?_⟩) ?_ ?_
        rotate_left
        · intro w'
          go_simp
          with_reducible rfl
        rotate_left
        · simp only [Act.put, List.setIfInBounds_toArray, List.set_cons_zero, List.set_cons_succ, i64_w, i32_w]
          rfl
        refine pure_ (i := 5) (N := some 76) (v := ?_) (a' := ?_) #[false, true, true, true, true, true, false, false, false, false, false] rfl rfl (by kernel_rfl) (fun _ _ _ h => h) (Or.inl ⟨by rfl, ?_⟩) ?_ ?_
        rotate_left
        · intro w'
          go_simp
          with_reducible rfl
        rotate_left
        · simp only [Act.put, List.setIfInBounds_toArray, List.set_cons_zero, List.set_cons_succ, i64_w, i32_w]
          rfl
        refine take_ (i := 0) (N := some 71) (v := ?_) (a' := ?_) #[true, true, true, true, true, true, false, false, false, false, false] rfl rfl (by kernel_rfl) (fun _ _ _ h => h) (Or.inl ⟨by rfl, ?_⟩) hHeld ?_ ?_
        rotate_left
        · rintro w' ⟨s0, s1, s2, s3⟩
          go_simp
          with_reducible rfl
        rotate_left
        · simp only [Act.put, List.setIfInBounds_toArray, List.set_cons_zero, List.set_cons_succ, i64_w, i32_w]
          rfl
        refine take_ (i := 6) (N := some 77) (v := ?_) (a' := ?_) #[true, true, true, true, true, true, true, false, false, false, false] rfl rfl (by kernel_rfl) (fun _ _ _ h => h) (Or.inl ⟨by rfl, ?_⟩) hHeld ?_ ?_
        rotate_left
        · rintro w' ⟨s0, s1, s2, s3⟩
          go_simp
          with_reducible rfl
        rotate_left
        · simp only [Act.put, List.setIfInBounds_toArray, List.set_cons_zero, List.set_cons_succ, i64_w, i32_w]
          rfl
        refine pure_ (i := 7) (N := some 78) (v := ?_) (a' := ?_) #[true, true, true, true, true, true, true, true, false, false, false] rfl rfl (by kernel_rfl) (fun _ _ _ h => h) (Or.inl ⟨by rfl, ?_⟩) ?_ ?_
        rotate_left
        · intro w'
          go_simp
          with_reducible rfl
        rotate_left
        · simp only [Act.put, List.setIfInBounds_toArray, List.set_cons_zero, List.set_cons_succ, i64_w, i32_w]
          rfl
        refine one_ (i := 8) (N := some 79) #[true, true, true, true, true, true, true, true, true, false, false] rfl rfl (by kernel_rfl) (by decide) (fun K hK => ?_)
        refine value_ (w1 := ?_) (v := ?_) (by rfl) rfl ?_ ?_
        rotate_left 2
        · go_simp
          constructor
          · rfl
          · rfl
        refine hK.out _ _ ⟨(pw_cell_below ((Below.refl _ _).alloc (Nat.le_refl _) _) hHeld.1), (pw_cell_below ((Below.refl _ _).alloc (Nat.le_refl _) _) hHeld.2.1), (pw_cell_below ((Below.refl _ _).alloc (Nat.le_refl _) _) hHeld.2.2.1), ((World.frozen?_of_block (Below.heap_alloc _ _ _ hplt)).trans hHeld.2.2.2)⟩ (fun hHeld => ?_)
        clear hK K
        refine norm_ (a' := ?_) ?_ ?_
        rotate_left
        · show Act.put _ (some 79) _ = _
          simp only [Act.put, List.setIfInBounds_toArray, List.set_cons_zero, List.set_cons_succ, i64_w, i32_w]
          rfl
        refine pure_ (i := 9) (N := some 80) (v := ?_) (a' := ?_) #[true, true, true, true, true, true, true, true, true, true, false] rfl rfl (by kernel_rfl) (fun _ _ _ h => h) (Or.inl ⟨by rfl, ?_⟩) ?_ ?_
        rotate_left
        · intro w'
          go_simp
          with_reducible rfl
        rotate_left
        · simp only [Act.put, List.setIfInBounds_toArray, List.set_cons_zero, List.set_cons_succ, i64_w, i32_w]
          rfl
        refine last_ (i := 10) (N := none) #[true, true, true, true, true, true, true, true, true, true, true] rfl rfl (by kernel_rfl) (by decide) (fun K hK => ?_)
        refine skip_ (w1 := ?_) (by rfl) rfl ?_ ?_
        rotate_left
        · go_simp
          rfl
        refine hK.out _ _ ?_
        clear hK K
        refine done_ (by kernel_rfl) ?_
        go_wp2_with fail
        go_roundg (gk - 1)
        case measure => have := HK.out; have := HLT.out; omega
        case rel =>
          have hw : wrap64 ((j : Int) + 1) = ((j + 1 : Nat) : Int) := by have := HN.out.1; have := HLT.out; unfold wrap64; omega
          rw [hw]
          exact H5.out (gk - 1) (by have := HK.out; have := HLT.out; omega)
    · have hj : j = n := by have := HK.out; omega
      subst hj
      have hk0 : gk = 0 := by have := HK.out; omega
      have hr : RI w j vs xs 0 (.int .i64 (j : Nat)) wr := ⟨j, rfl, Nat.zero_add _, HR.out⟩
      have x2 : wr.cell? ⟨w.heap.size + 1, 0, none⟩ = some (.slice (some ⟨w.heap.size, 0, none⟩) j j) := (list_cell (vs := [Value.slice (some ⟨w.heap.size, 0, none⟩) j j]) (j := 0) hbox (by simp)).1
      have HC := Lib.hid (HS.out wr hr)
      have hlt2 : ¬ (j : Int) < (j : Int) := by omega
      have hlt3 : decide ((j : Int) < (j : Int)) = false := decide_eq_false hlt2
      have hlt4 : decide (j < j) = false := decide_eq_false hlt
      clear hbr hsz hrow hbox hit hkj hlt hlt2 hr
      go_wp2_with fail
      refine HC.out.mono ?_
      rintro e w2 ⟨rfl, hb2, hc2, M, hM⟩
      have H2 := Lib.hid (And.intro hb2 hM)
      clear hb2 hM x2
      go_wp2_with fail
      go_ret2
      exact ⟨rfl, H2.out.1, M, H2.out.2⟩
end Go.Proofs.YtbnfeicpjmfooaaGreatDoor.NumA
