import Derived.Test.YtaiidipcmnejoaaGreatDoorIntM
import Derived.Test.YtaiidipcmnejoaaGreatDoorShelf
import Derived.Test.YtaiidipcmnejoaaGreatDoorPisDigitsx1
import Derived.Lib.OthersKept
import Derived.Stop.Asserts
import Derived.Lib.AppendIntMem

namespace Go.Proofs.YtaiidipcmnejoaaGreatDoor.NumW
open Go.RowKit Go.Lib Go.Proofs.YtaiidipcmnejoaaGreatDoorW.PrintWords Go.Proofs.YtaiidipcmnejoaaGreatDoorW.PrintLast Go.Proofs.YtaiidipcmnejoaaGreatDoorW.PrintMore
open Go.Proofs.YtaiidipcmnejoaaGreatDoor.Nt Go.Proofs.YtaiidipcmnejoaaGreatDoor.Dec Go.Proofs.YtaiidipcmnejoaaGreatDoor.IntW
open Go.Proofs.YtaiidipcmnejoaaGreatDoor.Spec (S S_list S_toList S_size S_of S_ext)

/-! ### ParseInt of a decimal text: plain -/
theorem parseUintM_dig : ∀ (l : List UInt8) (acc : Nat), isDig l → acc ≤ 18446744073709551615 → parseUintM 18446744073709551615 acc l = if acc * 10 ^ l.length + be l ≤ 18446744073709551615 then .ok (acc * 10 ^ l.length + be l) else .range
 | [], acc, _, ha => by simp [parseUintM, be, ha]
 | c :: r, acc, h, ha => by
  have hc := isDig_head h
  have hp : 1 ≤ 10 ^ r.length := Nat.one_le_pow _ _ (by decide)
  have e1 : acc * 10 ^ (c :: r).length + be (c :: r) = (acc * 10 + (c.toNat - 48)) * 10 ^ r.length + be r := by
   rw [be_cons, List.length_cons, Nat.pow_succ, Nat.add_mul, Nat.mul_comm (10 ^ r.length) 10, ← Nat.mul_assoc, Nat.add_assoc]
  have e2 : (acc * 10 + (c.toNat - 48)) * 1 ≤ (acc * 10 + (c.toNat - 48)) * 10 ^ r.length := Nat.mul_le_mul_left _ hp
  unfold parseUintM
  rw [if_pos hc, e1]
  by_cases h1 : 1844674407370955162 ≤ acc
  ·
   rw [if_pos h1, if_neg (by omega)]
  ·
   rw [if_neg h1]
   by_cases h2 : 18446744073709551615 < acc * 10 + (c.toNat - 48)
   ·
    rw [if_pos h2, if_neg (by omega)]
   ·
    rw [if_neg h2, parseUintM_dig r _ (isDig_tail h) (by omega)]
theorem parseUintB_dec (m : Nat) : parseUintB 64 (decDigits m) = if m ≤ 18446744073709551615 then .ok m else .range := by
 unfold parseUintB
 rw [if_neg (decDigits_ne_nil m)]
 have := parseUintM_dig (decDigits m) 0 (isDig_decDigits m) (by omega)
 rw [be_decDigits, Nat.zero_mul, Nat.zero_add] at this
 exact this
theorem parseInt_itoa (n : Int) : parseIntB 64 (itoa n) = if -9223372036854775808 ≤ n ∧ n ≤ 9223372036854775807 then .ok n else .range := by
 by_cases h : n < 0
 ·
  rw [itoa_neg n h]
  unfold parseIntB
  simp only [show (45 : UInt8).toNat = 45 from rfl, or_true, if_true]
  rw [parseUintB_dec]
  by_cases h1 : n.natAbs ≤ 18446744073709551615
  ·
   rw [if_pos h1]
   simp only [true_and, not_true, false_and, if_false]
   by_cases h2 : 2 ^ (64 - 1) < n.natAbs
   ·
    rw [if_pos h2, if_neg (by omega)]
   ·
    rw [if_neg h2, if_pos (by omega)]
    congr 1; omega
  ·
   rw [if_neg h1, if_neg (by omega)]
 ·
  rw [itoa_pos n (by omega)]
  have hd := isDig_decDigits n.natAbs
  have hu := parseUintB_dec n.natAbs
  cases hx : decDigits n.natAbs with
  | nil => exact absurd hx (decDigits_ne_nil _)
  | cons c r =>
   rw [hx] at hd hu
   have hc := isDig_head hd
   unfold parseIntB
   simp only
   rw [if_neg (by omega), hu]
   by_cases h1 : n.natAbs ≤ 18446744073709551615
   ·
    rw [if_pos h1]
    simp only [show (c.toNat = 45) = False from by simp; omega, not_false_eq_true, true_and, false_and, if_false]
    by_cases h2 : 2 ^ (64 - 1) ≤ n.natAbs
    ·
     rw [if_pos h2, if_neg (by omega)]
    ·
     rw [if_neg h2, if_pos (by omega)]
     congr 1; omega
   ·
    rw [if_neg h1, if_neg (by omega)]

/-! ### zzContainsAny(s, ".eE") at a text without these -/
def CH : ByteArray := ⟨#[46, 101, 69]⟩
theorem next_ch (w : World) (k : Nat) (q : Nat) (hq : q < 3) (hk : w.heap[k]? = some (.stringIter CH q)) (ty : TypeId) : (Instr.next (.pointer (some ⟨k, 0, none⟩)) true ty).run Tryz.prog w = .ok (.tuple #[.bool true, .int .i64 q, .int .i32 (if q = 0 then 46 else if q = 1 then 101 else 69)]) (w.iterAt k CH (q + 1)) := by
 match q, hq, hk with
 | 0, _, hk => exact Lib.run_next_ascii_at w k CH 0 ty hk (by decide) (by decide)
 | 1, _, hk => exact Lib.run_next_ascii_at w k CH 1 ty hk (by decide) (by decide)
 | 2, _, hk => exact Lib.run_next_ascii_at w k CH 2 ty hk (by decide) (by decide)
/-- Bytes of a decimal text. -/
def plainB (l : List UInt8) : Prop := ∀ c ∈ l, c.toNat < 128 ∧ c.toNat ≠ 46 ∧ c.toNat ≠ 101 ∧ c.toNat ≠ 69
theorem plain_itoa (n : Int) : plainB (itoa n) := by
 intro c hc
 have hd : ∀ m : Nat, c ∈ decDigits m → c.toNat < 128 ∧ c.toNat ≠ 46 ∧ c.toNat ≠ 101 ∧ c.toNat ≠ 69 := fun m h => by
  have := isDig_decDigits m c h
  omega
 by_cases h : n < 0
 ·
  rw [itoa_neg n h] at hc
  rcases List.mem_cons.1 hc with rfl | hc
  ·
   decide
  ·
   exact hd _ hc
 ·
  rw [itoa_pos n (by omega)] at hc
  exact hd _ hc
set_option maxHeartbeats 1000000 in
theorem indexAny_none (l : List UInt8) (hp : plainB l) (w : World) :
  Calls Tryz.prog 210 #[.string (S l), .string CH] w fun e w' => e = .returned (.int .i64 (-1)) ∧ Below w.heap.size w w' := by
 obtain ⟨s, hs⟩ : ∃ s, s = S l := ⟨_, rfl⟩
 have hsz : s.size = l.length := by rw [hs, S_size]
 have hget : ∀ (i : Nat) (hi : i < l.length) (h : i < s.size), s[i]'h = l[i] := by
  intro i hi h
  subst hs
  rfl
 rw [← hs]
 have HSZ := Lib.hid hsz
 have HGET := Lib.hid hget
 have HPL := Lib.hid hp
 clear hs hsz hget hp
 have hk0 := World.iter_heap w s 0
 have hb0 : Below w.heap.size w (w.iter s 0) := (Below.refl _ w).alloc (Nat.le_refl _) _
 have HK0 := Lib.hid (And.intro hk0 hb0); clear hk0 hb0
 go_enter Tryz.func210, Tryz.ntmps210
 go_wp2_with fail
 go_loopw [5] (fun _ wr => ∃ pos : Nat, Aside0 (pos ≤ s.size ∧ wr.heap[w.heap.size]? = some (.stringIter s pos) ∧ Below w.heap.size w wr)) (fun _ wr => s.size - wr.iterPos w.heap.size)
 case atStart => exact ⟨0, ⟨Nat.zero_le _, HK0.out.1, HK0.out.2⟩⟩
 case round =>
  obtain ⟨pos, H⟩ := hrel
  by_cases hlt : pos < s.size
  ·
   have hlt' : pos < l.length := by have := HSZ.out; omega
   have hpc := HPL.out _ (List.getElem_mem hlt')
   have hn := fun ty => Lib.run_next_ascii_at (P := Tryz.prog) wr w.heap.size s pos ty H.out.2.1 hlt (by rw [HGET.out pos hlt' hlt]; exact hpc.1)
   obtain ⟨c, hc⟩ : ∃ c : Int, c = ((s[pos]'hlt).toNat : Int) := ⟨_, rfl⟩
   have hc3 : c ≠ 46 ∧ c ≠ 101 ∧ c ≠ 69 := by rw [hc, HGET.out pos hlt' hlt]; omega
   rw [← hc] at hn
   have f1 : (c == 46) = false := by rw [beq_eq_false_iff_ne]; exact hc3.1
   have f2 : (c == 101) = false := by rw [beq_eq_false_iff_ne]; exact hc3.2.1
   have f3 : (c == 69) = false := by rw [beq_eq_false_iff_ne]; exact hc3.2.2
   have hmu : wr.iterPos w.heap.size = pos := by simp [World.iterPos, H.out.2.1]
   have HMU := Lib.hid hmu
   have hw1 : ∃ W1, W1 = wr.iterAt w.heap.size s (pos + 1) := ⟨_, rfl⟩
   obtain ⟨W1, hW1⟩ := hw1
   have H1 : Aside0 (W1.heap[w.heap.size]? = some (.stringIter s (pos + 1)) ∧ Below w.heap.size w W1) := ⟨by rw [hW1]; exact Lib.iterAt_heap wr _ s pos _ H.out.2.1, by rw [hW1]; exact Lib.below_iterAt H.out.2.2 (Nat.le_refl _) s _⟩
   rw [← hW1] at hn
   clear hc hc3 hpc hmu hW1 H
   go_wp2_with fail
   have HLT := Lib.hid (IntW.lt_of_heap H1.out.1)
   have HB3 : Aside0 ((W1.iter CH 0).heap[W1.heap.size]? = some (.stringIter CH 0) ∧ (W1.iter CH 0).heap[w.heap.size]? = some (.stringIter s (pos + 1)) ∧ Below w.heap.size w (W1.iter CH 0)) := ⟨World.iter_heap W1 CH 0, (Below.heap_alloc W1 _ _ HLT.out).trans H1.out.1, H1.out.2.alloc (Nat.le_of_lt HLT.out) _⟩
   go_loopw [8] (fun _ wx => ∃ q : Nat, Aside0 (q ≤ 3 ∧ wx.heap[W1.heap.size]? = some (.stringIter CH q) ∧ wx.heap[w.heap.size]? = some (.stringIter s (pos + 1)) ∧ Below w.heap.size w wx)) (fun _ wx => 3 - wx.iterPos W1.heap.size)
   case atStart => exact ⟨0, ⟨by omega, HB3.out⟩⟩
   case round =>
    obtain ⟨wx, rfl⟩ : ∃ wx : World, wx = wr := ⟨_, rfl⟩
    obtain ⟨q, H2⟩ := hrel
    clear hn HB3
    have hq : q = 0 ∨ q = 1 ∨ q = 2 ∨ q = 3 := by have := H2.out.1; omega
    rcases hq with rfl | rfl | rfl | rfl
    ·
     have hn2 := fun ty => next_ch wx W1.heap.size 0 (by omega) H2.out.2.1 ty
     simp only [if_true] at hn2
     have hmu2 : wx.iterPos W1.heap.size = 0 := by simp [World.iterPos, H2.out.2.1]
     obtain ⟨W2, hW2⟩ : ∃ W2, W2 = wx.iterAt W1.heap.size CH (0 + 1) := ⟨_, rfl⟩
     have H3 : Aside0 (0 + 1 ≤ 3 ∧ W2.heap[W1.heap.size]? = some (.stringIter CH (0 + 1)) ∧ W2.heap[w.heap.size]? = some (.stringIter s (pos + 1)) ∧ Below w.heap.size w W2) := ⟨by omega, by rw [hW2]; exact Lib.iterAt_heap wx _ CH 0 _ H2.out.2.1, by rw [hW2, Lib.iterAt_other _ _ _ _ _ (Nat.ne_of_lt HLT.out)]; exact H2.out.2.2.1, by rw [hW2]; exact Lib.below_iterAt H2.out.2.2.2 (Nat.le_of_lt HLT.out) CH _⟩
     have HMU2 := Lib.hid hmu2
     rw [← hW2] at hn2
     clear hmu2 hW2 H2
     go_wp2_with fail
     go_roundw
     case rel => exact ⟨0 + 1, H3⟩
     case measure =>
      have hmu3 : W2.iterPos W1.heap.size = 0 + 1 := by simp [World.iterPos, H3.out.2.1]
      rw [HMU2.out, hmu3]; omega
    ·
     have hn2 := fun ty => next_ch wx W1.heap.size 1 (by omega) H2.out.2.1 ty
     simp only [Nat.one_ne_zero, if_false, if_true] at hn2
     have hmu2 : wx.iterPos W1.heap.size = 1 := by simp [World.iterPos, H2.out.2.1]
     obtain ⟨W2, hW2⟩ : ∃ W2, W2 = wx.iterAt W1.heap.size CH (1 + 1) := ⟨_, rfl⟩
     have H3 : Aside0 (1 + 1 ≤ 3 ∧ W2.heap[W1.heap.size]? = some (.stringIter CH (1 + 1)) ∧ W2.heap[w.heap.size]? = some (.stringIter s (pos + 1)) ∧ Below w.heap.size w W2) := ⟨by omega, by rw [hW2]; exact Lib.iterAt_heap wx _ CH 1 _ H2.out.2.1, by rw [hW2, Lib.iterAt_other _ _ _ _ _ (Nat.ne_of_lt HLT.out)]; exact H2.out.2.2.1, by rw [hW2]; exact Lib.below_iterAt H2.out.2.2.2 (Nat.le_of_lt HLT.out) CH _⟩
     have HMU2 := Lib.hid hmu2
     rw [← hW2] at hn2
     clear hmu2 hW2 H2
     go_wp2_with fail
     go_roundw
     case rel => exact ⟨1 + 1, H3⟩
     case measure =>
      have hmu3 : W2.iterPos W1.heap.size = 1 + 1 := by simp [World.iterPos, H3.out.2.1]
      rw [HMU2.out, hmu3]; omega
    ·
     have hn2 := fun ty => next_ch wx W1.heap.size 2 (by omega) H2.out.2.1 ty
     simp only [show ¬ ((2 : Nat) = 0) by omega, show ¬ ((2 : Nat) = 1) by omega, if_false] at hn2
     have hmu2 : wx.iterPos W1.heap.size = 2 := by simp [World.iterPos, H2.out.2.1]
     obtain ⟨W2, hW2⟩ : ∃ W2, W2 = wx.iterAt W1.heap.size CH (2 + 1) := ⟨_, rfl⟩
     have H3 : Aside0 (2 + 1 ≤ 3 ∧ W2.heap[W1.heap.size]? = some (.stringIter CH (2 + 1)) ∧ W2.heap[w.heap.size]? = some (.stringIter s (pos + 1)) ∧ Below w.heap.size w W2) := ⟨by omega, by rw [hW2]; exact Lib.iterAt_heap wx _ CH 2 _ H2.out.2.1, by rw [hW2, Lib.iterAt_other _ _ _ _ _ (Nat.ne_of_lt HLT.out)]; exact H2.out.2.2.1, by rw [hW2]; exact Lib.below_iterAt H2.out.2.2.2 (Nat.le_of_lt HLT.out) CH _⟩
     have HMU2 := Lib.hid hmu2
     rw [← hW2] at hn2
     clear hmu2 hW2 H2
     go_wp2_with fail
     go_roundw
     case rel => exact ⟨2 + 1, H3⟩
     case measure =>
      have hmu3 : W2.iterPos W1.heap.size = 2 + 1 := by simp [World.iterPos, H3.out.2.1]
      rw [HMU2.out, hmu3]; omega
    ·
     have hn2 := fun ty => Lib.run_next_end_at (P := Tryz.prog) wx W1.heap.size CH 3 ty H2.out.2.1 (by decide)
     have H3 := H2
     clear H2
     go_wp2_with fail
     go_roundw
     case rel => exact ⟨pos + 1, ⟨hlt, H3.out.2.2.1, H3.out.2.2.2⟩⟩
     case measure =>
      have hmu3 : wx.iterPos w.heap.size = pos + 1 := by simp [World.iterPos, H3.out.2.2.1]
      rw [HMU.out, hmu3]; omega
  ·
   have hn := fun ty => Lib.run_next_end_at (P := Tryz.prog) wr w.heap.size s pos ty H.out.2.1 hlt
   have HB := Lib.hid H.out.2.2
   clear H
   go_wp2_with fail
   go_ret
   exact ⟨rfl, HB.out⟩
theorem containsAny_none (l : List UInt8) (hp : plainB l) (w : World) :
  Calls Tryz.prog 169 #[.string (S l), .string CH] w fun e w' => e = .returned (.bool false) ∧ Below w.heap.size w w' := by
 have HC := Lib.hid (indexAny_none l hp w)
 clear hp
 go_enter Tryz.func169, Tryz.ntmps169
 go_wp2_with fail
 refine HC.out.mono ?_
 rintro e w1 ⟨rfl, hb⟩
 have HB := Lib.hid hb; clear hb
 go_wp2_with fail
 go_ret
 exact ⟨rfl, HB.out⟩
end Go.Proofs.YtaiidipcmnejoaaGreatDoor.NumW

namespace Go.Proofs.YtaiidipcmnejoaaGreatDoor.NumV
open Go.RowKit Go.Lib Go.Proofs.YtaiidipcmnejoaaGreatDoorW.PrintWords Go.Proofs.YtaiidipcmnejoaaGreatDoorW.PrintLast Go.Proofs.YtaiidipcmnejoaaGreatDoorW.PrintMore
open Go.Proofs.YtaiidipcmnejoaaGreatDoor.Nt Go.Proofs.YtaiidipcmnejoaaGreatDoor.Dec Go.Proofs.YtaiidipcmnejoaaGreatDoor.IntW Go.Proofs.YtaiidipcmnejoaaGreatDoor.NumW
open Go.Proofs.YtaiidipcmnejoaaGreatDoor.Spec (S S_list S_toList S_size S_of S_ext)

/-- The two package variables that the integers' code reads. -/
def Env (w : World) : Prop := (∃ tp p, w.var? Tryz.prog "strconv.ErrRange" = some #[.iface tp p]) ∧ Lib.TabIs Tryz.prog w "internal/strconv.uint64pow10" .u64 Lib.pow10Tab
theorem var_keep {w w' : World} {n : String} {g : Nat} {cs : Array Value} (hg : Tryz.prog.globalNamed n = some g) (h : w.var? Tryz.prog n = some cs) (hb : Below w.heap.size w w') : w'.var? Tryz.prog n = some cs := by
 unfold World.var? at h ⊢
 rw [hg] at h ⊢
 simp only [Option.bind_some] at h ⊢
 have hlt : g < w.heap.size := by
  rcases Nat.lt_or_ge g w.heap.size with h' | h'
  ·
   exact h'
  ·
   rw [Array.getElem?_eq_none h'] at h; cases h
 rw [hb.block g hlt]
 exact h
theorem globRange : Tryz.prog.globalNamed "strconv.ErrRange" = some 7 := Tryz.laysC174.m16
theorem globPow : Tryz.prog.globalNamed "internal/strconv.uint64pow10" = some 1 := by kernel_rfl
theorem Env.below {w w' : World} (h : Env w) (hb : Below w.heap.size w w') : Env w' := by
 obtain ⟨⟨tp, p, hv⟩, ht⟩ := h
 exact ⟨⟨tp, p, var_keep globRange hv hb⟩, var_keep globPow ht hb⟩

/-- A number of gojq that is an integer. -/
def GoN (w : World) (n : Int) (L : Nat) (v : Value) : Prop :=
 (v = .iface 3 (.int .i64 n) ∧ -9223372036854775808 ≤ n ∧ n ≤ 9223372036854775807) ∨ (∃ g, v = .iface 62 (.pointer (some ⟨g, 0, none⟩)) ∧ IntAt w g n L)
theorem GoN.below {w w' : World} {n : Int} {L : Nat} {v : Value} (h : GoN w n L v) (hb : Below w.heap.size w w') : GoN w' n L v := by
 rcases h with h | ⟨g, h1, h2⟩
 ·
  exact .inl h
 ·
  exact .inr ⟨g, h1, h2.below hb⟩
theorem GoN.mono {w : World} {n : Int} {L L' : Nat} {v : Value} (h : GoN w n L v) (hl : L ≤ L') : GoN w n L' v := by
 rcases h with h | ⟨g, h1, h2⟩
 ·
  exact .inl h
 ·
  exact .inr ⟨g, h1, h2.mono hl⟩

theorem ser_data (l : List UInt8) : (S l).data.toList = l := rfl

theorem int64_ok (n : Int) (h0 : -9223372036854775808 ≤ n) (h1 : n ≤ 9223372036854775807) (s : ByteArray) (hs : s = S (itoa n)) (hL : (itoa n).length ≤ 200000) (w : World) :
  Calls Tryz.prog 168 #[.string s] w fun e w' => e = .returned (.tuple #[.int .i64 n, .nilIface]) ∧ Below w.heap.size w w' := by
 have hp : Lib.parseIntB 64 s.data.toList = .ok n := by
  rw [hs, ser_data, parseInt_itoa, if_pos ⟨h0, h1⟩]
 have hsz : s.size ≤ 9223372036854775806 := by
  have : s.size = (itoa n).length := by rw [hs, S_size]
  omega
 have HC := Lib.hid (Tryz.strconv_ParseInt_10_at64_ok s hsz n hp w)
 clear hp hsz hs hL h0 h1
 go_enter Tryz.func168, Tryz.ntmps168
 go_wp2_with fail
 refine HC.out.mono ?_
 rintro e w1 ⟨rfl, hw⟩
 have hb : Below w.heap.size w w1 := by
  rcases hw with rfl | ⟨t, rfl⟩
  ·
   exact Below.refl _ _
  ·
   exact Lib.bytesWorld_below _ _ _
 have HB := Lib.hid hb; clear hb hw
 go_wp2_with fail
 go_ret2
 exact ⟨rfl, HB.out⟩
theorem int64_range (n : Int) (h : ¬ (-9223372036854775808 ≤ n ∧ n ≤ 9223372036854775807)) (s : ByteArray) (hs : s = S (itoa n)) (hL : (itoa n).length ≤ 200000) (w : World) (hE : Env w) :
  Calls Tryz.prog 168 #[.string s] w fun e w' => ∃ v q, e = .returned (.tuple #[.int .i64 v, .iface 293 q]) ∧ Below w.heap.size w w' := by
 obtain ⟨⟨tp, p, hv⟩, -⟩ := hE
 have hp : Lib.parseIntB 64 s.data.toList = .range := by
  rw [hs, ser_data, parseInt_itoa, if_neg h]
 have hsz : s.size ≤ 281474976710656 := by
  have : s.size = (itoa n).length := by rw [hs, S_size]
  omega
 have HC := Lib.hid (Any.strconv_ParseInt_10_at64_range_var Tryz.laysC174 s hsz hp tp p w hv)
 clear hp hsz hs hL h hv
 go_enter Tryz.func168, Tryz.ntmps168
 go_wp2_with fail
 refine HC.out.mono ?_
 rintro e w1 ⟨k, rfl, -, -, hb⟩
 have HB := Lib.hid hb; clear hb
 go_wp2_with fail
 go_ret2
 exact ⟨_, _, rfl, HB.out⟩
theorem numString_any (s : ByteArray) (w : World) : Calls Tryz.prog 134 #[.string s] w fun e w' => e = .returned (.string s) ∧ Below w.heap.size w w' := by
 go_enter Tryz.func134, Tryz.ntmps134
 go_wp2_with fail
 go_ret
 exact ⟨rfl, Below.refl _ _⟩
theorem setString_any (g : Nat) (b0 : Bool) (a0 : Option Addr) (l0 k0 : Nat) (n : Int) (s : ByteArray) (hs : s = S (itoa n)) (hL : (itoa n).length ≤ 100000) (w : World) (hg : w.heap[g]? = some (.cells #[.bool b0, .slice a0 l0 k0] 97 (0, 0))) :
  Calls Tryz.prog 170 #[.pointer (some ⟨g, 0, none⟩), .string s, .int .i64 10] w fun e w' => e = .returned (.tuple #[.pointer (some ⟨g, 0, none⟩), .bool true]) ∧ IntAt w' g n (itoa n).length ∧ w.grownBy w' (some g) := by
 by_cases h : n < 0
 ·
  have he := itoa_neg n h
  have hl : (itoa n).length = (decDigits n.natAbs).length + 1 := by rw [he]; rfl
  refine (setString_true g b0 a0 l0 k0 n.natAbs (by omega) s (by rw [hs, he]) (by omega) w hg).mono ?_
  rintro e w' ⟨h1, h2, h3⟩
  rw [show (-(n.natAbs : Int)) = n by omega] at h2
  exact ⟨h1, h2.mono (by omega), h3⟩
 ·
  have he := itoa_pos n (by omega)
  have hl : (itoa n).length = (decDigits n.natAbs).length := by rw [he]
  refine (setString_false g b0 a0 l0 k0 n.natAbs s (by rw [hs, he]) (by omega) w hg).mono ?_
  rintro e w' ⟨h1, h2, h3⟩
  rw [show ((n.natAbs : Int)) = n by omega] at h2
  exact ⟨h1, h2.mono (by omega), h3⟩
theorem parse_small (n : Int) (h0 : -9223372036854775808 ≤ n) (h1 : n ≤ 9223372036854775807) (s : ByteArray) (hs : s = S (itoa n)) (hL : (itoa n).length ≤ 100000) (w : World) :
  Calls Tryz.prog 126 #[.string s] w fun e w' => e = .returned (.iface 3 (.int .i64 n)) ∧ Below w.heap.size w w' := by
 have HC := Lib.hid (int64_ok n h0 h1 s hs (by omega) w)
 have f1 : decide (-9223372036854775808 ≤ n) = true := decide_eq_true h0
 have f2 : decide (n ≤ 9223372036854775807) = true := decide_eq_true h1
 clear hs hL h0 h1
 go_enter Tryz.func126, Tryz.ntmps126
 go_wp2_with fail
 refine HC.out.mono ?_
 rintro e w1 ⟨rfl, hb⟩
 have HB := Lib.hid hb; clear hb
 go_wp2_with fail
 go_ret
 exact ⟨rfl, HB.out⟩
theorem parse_big (n : Int) (h : ¬ (-9223372036854775808 ≤ n ∧ n ≤ 9223372036854775807)) (s : ByteArray) (hs : s = S (itoa n)) (hL : (itoa n).length ≤ 100000) (w : World) (hE : Env w) :
  Calls Tryz.prog 126 #[.string s] w fun e w' => ∃ g, e = .returned (.iface 62 (.pointer (some ⟨g, 0, none⟩))) ∧ IntAt w' g n (itoa n).length ∧ Below w.heap.size w w' := by
 have HC := Lib.hid (int64_range n h s hs (by omega) w hE)
 have HX := Lib.hid (fun w : World => hs ▸ containsAny_none (itoa n) (plain_itoa n) w)
 have HS := Lib.hid (fun (g : Nat) (b0 : Bool) (a0 : Option Addr) (l0 k0 : Nat) (w : World) => setString_any g b0 a0 l0 k0 n s hs hL w)
 have HL := Lib.hid hL
 clear hs hL h hE
 go_enter Tryz.func126, Tryz.ntmps126
 go_wp2_with fail
 refine HC.out.mono ?_
 rintro e w1 ⟨v, q, rfl, hb⟩
 have HB := Lib.hid hb; clear hb
 go_wp2_with fail
 refine (numString_any s _).mono ?_
 rintro e w2 ⟨rfl, hb⟩
 have HB2 := Lib.hid hb; clear hb
 go_wp2_with fail
 refine (HX.out _).mono ?_
 rintro e w3 ⟨rfl, hb⟩
 have HB3 := Lib.hid hb; clear hb
 go_wp2_with fail
 refine (numString_any s _).mono ?_
 rintro e w4 ⟨rfl, hb⟩
 have hn : w4.heap[w3.heap.size]? = some (.cells #[.bool false, .slice none 0 0] 97 (0, 0)) := by
  have h0 := heap_alloc_new w3 (.cells #[.bool false, .slice none 0 0] 97 (0, 0))
  rw [hb.block w3.heap.size (IntW.lt_of_heap h0)]
  exact h0
 have hb4 : Below w3.heap.size w3 w4 := ((Below.refl _ w3).alloc (Nat.le_refl _) _).trans (hb.mono (by rw [World.alloc]; simp))
 have HB4 := Lib.hid hb4; clear hb
 have HN := Lib.hid hn; clear hb4 hn
 go_wp2_with fail
 refine (HS.out w3.heap.size false none 0 0 w4 HN.out).mono ?_
 rintro e w5 ⟨rfl, hI, hg⟩
 have HI := Lib.hid hI
 have HG := Lib.hid hg; clear hI hg
 go_wp2_with fail
 go_ret
 have h2 : Below w.heap.size w w2 := HB.out.trans (HB2.out.mono HB.out.size)
 have h3 : Below w.heap.size w w3 := h2.trans (HB3.out.mono h2.size)
 have h4 : Below w.heap.size w w4 := h3.trans (HB4.out.mono h3.size)
 exact ⟨_, rfl, HI.out, h4.grown HG.out h4.size (fun k hk => by cases hk; exact h3.size)⟩
theorem parse_any (n : Int) (s : ByteArray) (hs : s = S (itoa n)) (hL : (itoa n).length ≤ 100000) (w : World) (hE : Env w) :
  Calls Tryz.prog 126 #[.string s] w fun e w' => ∃ v, e = .returned v ∧ GoN w' n (itoa n).length v ∧ Below w.heap.size w w' := by
 by_cases h : -9223372036854775808 ≤ n ∧ n ≤ 9223372036854775807
 ·
  refine (parse_small n h.1 h.2 s hs hL w).mono ?_
  rintro e w' ⟨h1, h2⟩
  exact ⟨_, h1, .inl ⟨rfl, h⟩, h2⟩
 ·
  refine (parse_big n h s hs hL w hE).mono ?_
  rintro e w' ⟨g, h1, h2, h3⟩
  exact ⟨_, h1, .inr ⟨g, rfl, h2⟩, h3⟩
theorem toNumber_any (n : Int) (s : ByteArray) (hs : s = S (itoa n)) (hL : (itoa n).length ≤ 100000) (w : World) (hE : Env w) :
  Calls Tryz.prog 79 #[.string s] w fun e w' => ∃ v, e = .returned v ∧ GoN w' n (itoa n).length v ∧ Below w.heap.size w w' := by
 have HC := Lib.hid (parse_any n s hs hL w hE)
 clear hs hL hE
 go_enter Tryz.func79, Tryz.ntmps79
 go_wp2_with fail
 refine HC.out.mono ?_
 rintro e w1 ⟨v, rfl, hv, hb⟩
 have HB := Lib.hid (And.intro hv hb); clear hb hv
 go_wp2_with fail
 go_ret
 exact ⟨_, rfl, HB.out⟩
theorem zzToNumber_any (n : Int) (s : ByteArray) (hs : s = S (itoa n)) (hL : (itoa n).length ≤ 100000) (w : World) (hE : Env w) :
  Calls Tryz.prog 55 #[.string s] w fun e w' => ∃ v, e = .returned v ∧ GoN w' n (itoa n).length v ∧ Below w.heap.size w w' := by
 have HC := Lib.hid (toNumber_any n s hs hL w hE)
 clear hs hL hE
 go_enter Tryz.func55, Tryz.ntmps55
 go_wp2_with fail
 refine HC.out.mono ?_
 rintro e w1 ⟨v, rfl, hv, hb⟩
 have HB := Lib.hid (And.intro hv hb); clear hb hv
 go_wp2_with fail
 go_ret
 exact ⟨_, rfl, HB.out⟩
end Go.Proofs.YtaiidipcmnejoaaGreatDoor.NumV

namespace Go.Proofs.YtaiidipcmnejoaaGreatDoor.NumV
open Go.RowKit Go.Lib Go.Proofs.YtaiidipcmnejoaaGreatDoorW.PrintWords Go.Proofs.YtaiidipcmnejoaaGreatDoorW.PrintLast Go.Proofs.YtaiidipcmnejoaaGreatDoorW.PrintMore
open Go.Proofs.YtaiidipcmnejoaaGreatDoor.Nt Go.Proofs.YtaiidipcmnejoaaGreatDoor.Dec Go.Proofs.YtaiidipcmnejoaaGreatDoor.IntW Go.Proofs.YtaiidipcmnejoaaGreatDoor.NumW
open Go.Proofs.YtaiidipcmnejoaaGreatDoor.Spec (S S_list S_toList S_size S_of S_ext)

theorem S_inj {a b : List UInt8} (h : S a = S b) : a = b := by
 have := congrArg ByteArray.toList h
 rwa [S_toList, S_toList] at this
theorem toGo_neg (m : Nat) (hm : m ≠ 0) (s : ByteArray) (hs : s = S (45 :: decDigits m)) (hL : (decDigits m).length ≤ 90000) (w : World) (hE : Env w) :
  Calls Tryz.prog 32 #[.string s] w fun e w' => ∃ v, e = .returned (.tuple #[v, .bool true]) ∧ GoN w' (-(m : Int)) (itoa (-(m : Int))).length v ∧ Below w.heap.size w w' := by
 have hi : itoa (-(m : Int)) = 45 :: decDigits m := by
  rw [Dec.itoa_neg _ (by omega)]; simp
 have HC := Lib.hid (fun w hE => zzToNumber_any (-(m : Int)) s (by rw [hs, hi]) (by rw [hi]; simp; omega) w hE)
 have HD := Lib.hid (fun w => (PisDigits.impl_isDigits.calls ((decDigits m).length + 2) (S (decDigits m)) true w (Spec.isDigits_dec m (by omega) _ (Nat.le_refl _))))
 obtain ⟨t, ht⟩ : ∃ t, t = S (decDigits m) := ⟨_, rfl⟩
 have h0 : ∀ wx : World, (Instr.index 9 (.string s) (.int .i64 0)).run Tryz.prog wx = .ok (.int .u8 45) wx := by
  intro wx
  have := idx_S (45 :: decDigits m) 0 (by simp) wx
  rw [hs]
  simpa using this
 have e1 : (s.toList == []) = false := by rw [beq_eq_false_iff_ne, hs, S_toList]; simp
 have e2 : (t.toList == [48]) = false := by rw [beq_eq_false_iff_ne, ht, S_toList]; intro h; exact hm (decDigits_eq48.1 h)
 have hsl : ∀ wx : World, (Instr.slice 9 (.string s) (some (.int .i64 1)) none none).run Tryz.prog wx = .ok (.string t) wx := by
  intro wx
  have h1 : (1 : Int) ≤ (s.size : Int) := by rw [hs, S_size, List.length_cons]; omega
  rw [run_slice_string_l (ht := Tryz.underlying9) (kl := .i64) (l := 1) (h0 := by omega) (h1 := h1), ht, hs, S_size]
  congr 2
  exact (Spec.S_drop (45 :: decDigits m) 1 _ rfl)
 rw [← ht] at HD
 have HE := Lib.hid hE
 clear hE ht hs hL
 go_enter Tryz.func32, Tryz.ntmps32
 go_wp2_with fail
 refine (HD.out _).mono ?_
 rintro e w1 ⟨rfl, hd⟩
 have HB := Lib.hid hd.below; clear hd
 go_wp2_with fail
 refine (HC.out _ (HE.out.below HB.out)).mono ?_
 rintro e w2 ⟨v, rfl, hv, hb⟩
 have HV := Lib.hid (And.intro hv hb); clear hv hb
 go_wp2_with fail
 go_ret2
 exact ⟨_, rfl, HV.out.1, HB.out.trans (HV.out.2.mono HB.out.size)⟩
theorem toGo_pos (m : Nat) (s : ByteArray) (hs : s = S (decDigits m)) (hL : (decDigits m).length ≤ 90000) (w : World) (hE : Env w) :
  Calls Tryz.prog 32 #[.string s] w fun e w' => ∃ v, e = .returned (.tuple #[v, .bool true]) ∧ GoN w' (m : Int) (itoa (m : Int)).length v ∧ Below w.heap.size w w' := by
 have hi : itoa (m : Int) = decDigits m := by
  rw [itoa_pos _ (by omega)]; simp
 have HC := Lib.hid (fun w hE => zzToNumber_any (m : Int) s (by rw [hs, hi]) (by rw [hi]; omega) w hE)
 have HD := Lib.hid (fun w => (PisDigits.impl_isDigits.calls ((decDigits m).length + 2) s true w (hs ▸ Spec.isDigits_dec m (by omega) _ (Nat.le_refl _))))
 obtain ⟨c, r, hc⟩ : ∃ c r, decDigits m = c :: r := by
  cases h : decDigits m with
  | nil => exact absurd h (decDigits_ne_nil m)
  | cons c r => exact ⟨c, r, rfl⟩
 have hd := isDig_decDigits m
 rw [hc] at hd
 have hdc := isDig_head hd
 obtain ⟨x, hx⟩ : ∃ x : Int, x = (c.toNat : Int) := ⟨_, rfl⟩
 have h0 : ∀ wx : World, (Instr.index 9 (.string s) (.int .i64 0)).run Tryz.prog wx = .ok (.int .u8 x) wx := by
  intro wx
  have := idx_S (c :: r) 0 (by simp) wx
  rw [hs, hc, hx]
  simpa using this
 have e0 : (x == 45) = false := by rw [beq_eq_false_iff_ne]; omega
 have e1 : (s.toList == []) = false := by rw [beq_eq_false_iff_ne, hs, S_toList, hc]; simp
 have HE := Lib.hid hE
 clear hE hs hL hd hdc hx hc hi
 go_enter Tryz.func32, Tryz.ntmps32
 go_wp2_with fail
 refine (HD.out _).mono ?_
 rintro e w1 ⟨rfl, hd⟩
 have HB := Lib.hid hd.below; clear hd
 go_wp2_with fail
 refine (HC.out _ (HE.out.below HB.out)).mono ?_
 rintro e w2 ⟨v, rfl, hv, hb⟩
 have HV := Lib.hid (And.intro hv hb); clear hv hb
 go_wp2_with fail
 go_ret2
 exact ⟨_, rfl, HV.out.1, HB.out.trans (HV.out.2.mono HB.out.size)⟩
/-- impl.bigToGo at a text of an integer. -/
theorem toGo_any (n : Int) (s : ByteArray) (hs : s = S (itoa n)) (hL : (itoa n).length ≤ 90000) (w : World) (hE : Env w) :
  Calls Tryz.prog 32 #[.string s] w fun e w' => ∃ v, e = .returned (.tuple #[v, .bool true]) ∧ GoN w' n (itoa n).length v ∧ Below w.heap.size w w' := by
 by_cases h : n < 0
 ·
  have he := Dec.itoa_neg n h
  rw [he] at hs hL
  have := toGo_neg n.natAbs (by omega) s hs (by simp at hL; omega) w hE
  rw [show (-(n.natAbs : Int)) = n by omega] at this
  exact this
 ·
  have he := itoa_pos n (by omega)
  rw [he] at hs hL
  have := toGo_pos n.natAbs s hs hL w hE
  rw [show ((n.natAbs : Int)) = n by omega] at this
  exact this

theorem noErr3 (v : Value) (w : World) : (Instr.typeAssert (.iface 3 v) 20 51 true).run Tryz.prog w = .ok (.tuple #[.nilIface, .bool false]) w := run_typeAssert_lacksB Tryz.underlying51 (by kernel_rfl) (by kernel_rfl) v 20 w
theorem noErr62 (v : Value) (w : World) : (Instr.typeAssert (.iface 62 v) 20 51 true).run Tryz.prog w = .ok (.tuple #[.nilIface, .bool false]) w := run_typeAssert_lacksB Tryz.underlying51 (by kernel_rfl) (by kernel_rfl) v 20 w
theorem is3 (v : Value) (w : World) : (Instr.typeAssert (.iface 3 v) 20 3 true).run Tryz.prog w = .ok (.tuple #[v, .bool true]) w := by kernel_rfl
theorem no3 (v : Value) (w : World) : (Instr.typeAssert (.iface 62 v) 20 3 true).run Tryz.prog w = .ok (.tuple #[.int .i64 0, .bool false]) w := by kernel_rfl
theorem is62 (v : Value) (w : World) : (Instr.typeAssert (.iface 62 v) 20 62 true).run Tryz.prog w = .ok (.tuple #[v, .bool true]) w := by kernel_rfl
theorem fromGo_int (n : Int) (h0 : -9223372036854775808 ≤ n) (h1 : n ≤ 9223372036854775807) (w : World) (hE : Env w) :
  Calls Tryz.prog 33 #[.iface 3 (.int .i64 n)] w fun e w' => e = .returned (.agg #[.string (S (itoa n)), .int .i64 0]) ∧ Below w.heap.size w w' := by
 have HC := Lib.hid (fun w (hE : Env w) => (Tryz.strconv_Itoa n h0 h1 w hE.2).mono (fun e w' ⟨h, k, os, hw⟩ => (⟨h, hw ▸ Lib.below_grow _ w (Nat.le_refl _) k os⟩ : e = Ending.returned (.string (S (itoa n))) ∧ Below w.heap.size w w')))
 have HE := Lib.hid hE
 have a1 := fun w => noErr3 (.int .i64 n) w
 have a2 := fun w => is3 (.int .i64 n) w
 clear hE h0 h1
 go_enter Tryz.func33, Tryz.ntmps33
 go_wp2_with fail
 obtain ⟨w0, hw0⟩ : ∃ w0, w0 = w.alloc (.cells #[.string ⟨#[]⟩, .int .i64 0] 25) := ⟨_, rfl⟩
 have hx : w0.heap[w.heap.size]? = some (.cells #[.string ⟨#[]⟩, .int .i64 0] 25) := by rw [hw0]; exact heap_alloc_new w _
 have hb : Below w.heap.size w w0 := by rw [hw0]; exact (Below.refl _ w).alloc (Nat.le_refl _) _
 have HB0 := Lib.hid hb
 have HX := Lib.hid hx
 rw [← hw0]
 clear hw0 hx hb
 refine (HC.out w0 (HE.out.below HB0.out)).mono ?_
 rintro e w1 ⟨rfl, hb⟩
 have hx : w1.heap[w.heap.size]? = some (.cells #[.string ⟨#[]⟩, .int .i64 0] 25) := by rw [hb.block _ (IntW.lt_of_heap HX.out)]; exact HX.out
 have HB := Lib.hid (HB0.out.trans (hb.mono HB0.out.size)); clear hb
 have y := two_cells hx
 go_wp2_with fail
 have hz : ((w1.setCell ⟨w.heap.size, 0, none⟩ (.string (S (itoa n)))).setCell ⟨w.heap.size, 1, none⟩ (.int .i64 0)).heap[w.heap.size]? = some (.cells #[.string (S (itoa n)), .int .i64 0] 25 (0, 0)) := by
  rw [heap_set (heap_set hx 0 _) 1 _]; rfl
 have hg := grown_set (grown_set (⟨rfl, rfl, rfl, Nat.le_refl _, fun _ _ _ => rfl⟩ : w1.grownBy w1 (some w.heap.size)) 0 (.string (S (itoa n)))) 1 (.int .i64 0)
 obtain ⟨W2, hW⟩ : ∃ W2, W2 = ((w1.setCell ⟨w.heap.size, 0, none⟩ (.string (S (itoa n)))).setCell ⟨w.heap.size, 1, none⟩ (.int .i64 0)) := ⟨_, rfl⟩
 rw [← hW] at hz hg ⊢
 obtain ⟨q0, q1, q2, q3⟩ := two_cells hz
 refine bodyPost_ret (v := .agg #[.string (S (itoa n)), .int .i64 0]) (by simp [results, Tryz.results33, go_sem, q0, q1]) rfl ?_
 exact ⟨rfl, HB.out.grown hg HB.out.size (fun k hk => by cases hk; exact Nat.le_refl _)⟩
theorem fromGo_big (g : Nat) (n : Int) (L : Nat) (w : World) (h : IntAt w g n L) (hL : L ≤ 100000) :
  Calls Tryz.prog 33 #[.iface 62 (.pointer (some ⟨g, 0, none⟩))] w fun e w' => e = .returned (.agg #[.string (S (itoa n)), .int .i64 0]) ∧ Below w.heap.size w w' := by
 have HC := Lib.hid (fun w (h : IntAt w g n L) => string_any g n L w h hL)
 have HE := Lib.hid h
 have a1 := fun w => noErr62 (.pointer (some ⟨g, 0, none⟩)) w
 have a2 := fun w => no3 (.pointer (some ⟨g, 0, none⟩)) w
 have a3 := fun w => is62 (.pointer (some ⟨g, 0, none⟩)) w
 clear h hL
 go_enter Tryz.func33, Tryz.ntmps33
 go_wp2_with fail
 obtain ⟨w0, hw0⟩ : ∃ w0, w0 = w.alloc (.cells #[.string ⟨#[]⟩, .int .i64 0] 25) := ⟨_, rfl⟩
 have hx : w0.heap[w.heap.size]? = some (.cells #[.string ⟨#[]⟩, .int .i64 0] 25) := by rw [hw0]; exact heap_alloc_new w _
 have hb : Below w.heap.size w w0 := by rw [hw0]; exact (Below.refl _ w).alloc (Nat.le_refl _) _
 have HB0 := Lib.hid hb
 have HX := Lib.hid hx
 rw [← hw0]
 clear hw0 hx hb
 refine (HC.out w0 (HE.out.below HB0.out)).mono ?_
 rintro e w1 ⟨rfl, hb⟩
 have hx : w1.heap[w.heap.size]? = some (.cells #[.string ⟨#[]⟩, .int .i64 0] 25) := by rw [hb.block _ (IntW.lt_of_heap HX.out)]; exact HX.out
 have HB := Lib.hid (HB0.out.trans (hb.mono HB0.out.size)); clear hb
 have y := two_cells hx
 go_wp2_with fail
 have hz : ((w1.setCell ⟨w.heap.size, 0, none⟩ (.string (S (itoa n)))).setCell ⟨w.heap.size, 1, none⟩ (.int .i64 0)).heap[w.heap.size]? = some (.cells #[.string (S (itoa n)), .int .i64 0] 25 (0, 0)) := by
  rw [heap_set (heap_set hx 0 _) 1 _]; rfl
 have hg := grown_set (grown_set (⟨rfl, rfl, rfl, Nat.le_refl _, fun _ _ _ => rfl⟩ : w1.grownBy w1 (some w.heap.size)) 0 (.string (S (itoa n)))) 1 (.int .i64 0)
 obtain ⟨W2, hW⟩ : ∃ W2, W2 = ((w1.setCell ⟨w.heap.size, 0, none⟩ (.string (S (itoa n)))).setCell ⟨w.heap.size, 1, none⟩ (.int .i64 0)) := ⟨_, rfl⟩
 rw [← hW] at hz hg ⊢
 obtain ⟨q0, q1, q2, q3⟩ := two_cells hz
 refine bodyPost_ret (v := .agg #[.string (S (itoa n)), .int .i64 0]) (by simp [results, Tryz.results33, go_sem, q0, q1]) rfl ?_
 exact ⟨rfl, HB.out.grown hg HB.out.size (fun k hk => by cases hk; exact Nat.le_refl _)⟩
theorem fromGo_any (v : Value) (n : Int) (L : Nat) (w : World) (h : GoN w n L v) (hL : L ≤ 100000) (hE : Env w) :
  Calls Tryz.prog 33 #[v] w fun e w' => e = .returned (.agg #[.string (S (itoa n)), .int .i64 0]) ∧ Below w.heap.size w w' := by
 rcases h with ⟨rfl, h0, h1⟩ | ⟨g, rfl, h⟩
 ·
  exact fromGo_int n h0 h1 w hE
 ·
  exact fromGo_big g n L w h hL
end Go.Proofs.YtaiidipcmnejoaaGreatDoor.NumV
