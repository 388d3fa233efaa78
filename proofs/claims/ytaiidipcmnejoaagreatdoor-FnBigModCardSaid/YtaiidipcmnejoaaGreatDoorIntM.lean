import Derived.Test.YtaiidipcmnejoaaGreatDoorNatM
import Derived.WalkSpells
import Derived.WalkLawsBesides
import Derived.Lib.Hide
import Derived.Deep.RegionWith
import Derived.Test.YtaiidipcmnejoaaGreatDoorSpecM
import Derived.Lib.SlBytesConst

/- The walks of package big: whole numbers in memory; SetInt64, NewInt. -/
namespace Go.Proofs.YtaiidipcmnejoaaGreatDoor.IntW
open Go.RowKit Go.Lib Go.Proofs.YtaiidipcmnejoaaGreatDoorW.PrintWords Go.Proofs.YtaiidipcmnejoaaGreatDoorW.PrintLast Go.Proofs.YtaiidipcmnejoaaGreatDoorW.PrintMore
open Go.Proofs.YtaiidipcmnejoaaGreatDoor.Nt

theorem NatV.move {w w' : World} {v : Value} {xs : List Int} (h : NatV w v xs) (hm : ∀ a n, w.cell? a = some (.int .u32 n) → w'.cell? a = some (.int .u32 n)) : NatV w' v xs := by
 obtain ⟨A, c, h1, h2, h3, h4, h5⟩ := h
 refine ⟨A, c, h1, h2, h3, h4, fun hp => ?_⟩
 obtain ⟨ad, e, hc⟩ := h5 hp
 refine ⟨ad, e, fun j p hj => ?_⟩
 obtain ⟨cs, hl, hK, hcell⟩ := hc j p hj
 refine ⟨cs, hl, hK, fun i u hi => ?_⟩
 have hcs : cs = [.int .u32 p] := hK
 have hu : u = .int .u32 p := by
  rw [hcs] at hi
  cases i with
  | zero => simpa using hi.symm
  | succ i => simp at hi
 rw [hu]
 exact hm _ _ (by rw [← hu]; exact hcell i u hi)
theorem heap_set {w : World} {g : Nat} {c : Array Value} {e : TypeId} {fz : Nat × Nat} (h : w.heap[g]? = some (.cells c e fz)) (j : Nat) (v : Value) : (w.setCell ⟨g, j, none⟩ v).heap[g]? = some (.cells (c.setIfInBounds j v) e fz) := by
 simp [World.setCell, Array.getElem?_modify, h]
theorem grown_set {w w' : World} {g : Nat} (h : w.grownBy w' (some g)) (j : Nat) (v : Value) : w.grownBy (w'.setCell ⟨g, j, none⟩ v) (some g) :=
 ⟨h.os, h.tape, h.output, by simpa [World.setCell] using h.size, fun k hk hne => by
  rw [Below.heap_setCell _ _ _ _ (fun e => hne (by rw [e]))]
  exact h.block k hk hne⟩
/-- What two cells of a big.Int hold is no digit. -/
theorem int_ne {w w' : World} {g : Nat} {b : Bool} {a : Option Addr} {l c : Nat} {t : TypeId} {fz : Nat × Nat} (hg : w.heap[g]? = some (.cells #[.bool b, .slice a l c] t fz)) (hw : w.grownBy w' (some g)) (p : Addr) (n : Int) (h : w.cell? p = some (.int .u32 n)) : w'.cell? p = some (.int .u32 n) := by
 refine hw.cell h ?_
 intro e
 have e' : p.block = g := Option.some.inj e
 unfold World.cell? at h
 rw [e', hg] at h
 simp only at h
 split at h
 ·
  cases h
 ·
  rcases p with ⟨pb, po, ps⟩
  simp only at h
  rcases po with _ | _ | po
  ·
   simp at h
  ·
   simp at h
  ·
   simp at h
theorem NatV.slice {w : World} {v : Value} {xs : List Int} (h : NatV w v xs) : ∃ a l c, v = .slice a l c := by
 obtain ⟨A, c, h1, _⟩ := h
 exact ⟨_, _, _, h1⟩
/-- Block g is a big.Int of value n, of at most L digits. -/
def IntAt (w : World) (g : Nat) (n : Int) (L : Nat) : Prop :=
 ∃ neg ds sv, w.heap[g]? = some (.cells #[.bool neg, sv] 97 (0, 0)) ∧ NatV w sv ds ∧ isN ds ∧ n = (if neg then - nv ds else nv ds) ∧ (neg = true → ds ≠ []) ∧ ds.length ≤ L
theorem lt_of_heap {w : World} {g : Nat} {o : Obj} (h : w.heap[g]? = some o) : g < w.heap.size := (Array.getElem?_eq_some_iff.1 h).1
theorem IntAt.lt {w : World} {g : Nat} {n : Int} {L : Nat} (h : IntAt w g n L) : g < w.heap.size := by
 obtain ⟨_, _, _, h1, _⟩ := h
 exact lt_of_heap h1
theorem IntAt.below {w w' : World} {g : Nat} {n : Int} {L : Nat} (h : IntAt w g n L) (hb : Below w.heap.size w w') : IntAt w' g n L := by
 obtain ⟨neg, ds, sv, h1, h2, h3⟩ := h
 exact ⟨neg, ds, sv, by rw [hb.block g (lt_of_heap h1)]; exact h1, h2.below hb, h3⟩
theorem IntAt.mono {w : World} {g : Nat} {n : Int} {L L' : Nat} (h : IntAt w g n L) (hl : L ≤ L') : IntAt w g n L' := by
 obtain ⟨neg, ds, sv, h1, h2, h3, h4, h5, h6⟩ := h
 exact ⟨neg, ds, sv, h1, h2, h3, h4, h5, by omega⟩
/-- Another big.Int is written. -/
theorem IntAt.other {w w' : World} {g g' : Nat} {n : Int} {L : Nat} (h : IntAt w g n L) {b : Bool} {a : Option Addr} {l c : Nat} {t : TypeId} {fz : Nat × Nat} (hg : w.heap[g']? = some (.cells #[.bool b, .slice a l c] t fz)) (hw : w.grownBy w' (some g')) (hne : g ≠ g') : IntAt w' g n L := by
 obtain ⟨neg, ds, sv, h1, h2, h3⟩ := h
 exact ⟨neg, ds, sv, by rw [hw.block g (lt_of_heap h1) (fun e => hne (Option.some.inj e))]; exact h1, NatV.move h2 (int_ne hg hw), h3⟩

theorem u64neg (x : Int) (h0 : -9223372036854775808 ≤ x) (h1 : x < 0) : IntKind.u64.wrap (-IntKind.u64.wrap x) = -x := by rw [u64m, u64m]; omega
theorem two_cells {w : World} {g : Nat} {c0 c1 : Value} {t : TypeId} (h : w.heap[g]? = some (.cells #[c0, c1] t (0, 0))) :
  w.cell? ⟨g, 0, none⟩ = some c0 ∧ w.cell? ⟨g, 1, none⟩ = some c1 ∧ w.frozen? ⟨g, 0, none⟩ = false ∧ w.frozen? ⟨g, 1, none⟩ = false := by
 simp [World.cell?, World.frozen?, h]
/-- Both fields written. -/
theorem set_both {w1 : World} {g : Nat} {c0 c1 : Value} {t : TypeId} (h : w1.heap[g]? = some (.cells #[c0, c1] t (0, 0))) (v0 v1 : Value) :
  ((w1.setCell ⟨g, 1, none⟩ v1).setCell ⟨g, 0, none⟩ v0).heap[g]? = some (.cells #[v0, v1] t (0, 0)) := by
 rw [heap_set (heap_set h 1 v1) 0 v0]; rfl

/-- SetInt64 at a block of its own. -/
theorem setInt64_any (x : Int) (h0 : -9223372036854775808 ≤ x) (h1 : x ≤ 9223372036854775807) (g : Nat) (b0 : Bool) (a0 : Option Addr) (l0 k0 : Nat) (w : World) (hg : w.heap[g]? = some (.cells #[.bool b0, .slice a0 l0 k0] 97 (0, 0))) :
  Calls Tryz.prog 152 #[.pointer (some ⟨g, 0, none⟩), .int .i64 x] w fun e w' => e = .returned (.pointer (some ⟨g, 0, none⟩)) ∧ IntAt w' g x 2 ∧ w.grownBy w' (some g) := by
 have HG := Lib.hid hg; clear hg
 have H0 := Lib.hid h0; clear h0
 have H1 := Lib.hid h1; clear h1
 have fin : ∀ (neg : Bool) (v' : Value) (r : List Int) (w1 : World), NatV w1 v' r → isN r → x = (if neg then - nv r else nv r) → (neg = true → r ≠ []) → r.length ≤ 2 → Below w.heap.size w w1 →
   IntAt ((w1.setCell ⟨g, 1, none⟩ v').setCell ⟨g, 0, none⟩ (.bool neg)) g x 2 ∧ w.grownBy ((w1.setCell ⟨g, 1, none⟩ v').setCell ⟨g, 0, none⟩ (.bool neg)) (some g) := by
  intro neg v' r w1 hV hN hx hn hl hb
  have hg1 : w1.heap[g]? = some (.cells #[.bool b0, .slice a0 l0 k0] 97 (0, 0)) := by rw [hb.block g (lt_of_heap HG.out)]; exact HG.out
  have hw1 : w1.grownBy ((w1.setCell ⟨g, 1, none⟩ v').setCell ⟨g, 0, none⟩ (.bool neg)) (some g) := grown_set (grown_set (World.grownBy.refl w1 _) 1 v') 0 _
  refine ⟨⟨neg, r, v', set_both hg1 _ _, NatV.move hV (int_ne hg1 hw1), hN, hx, hn, hl⟩, grown_set (grown_set (grown_of_below hb _) 1 v') 0 _⟩
 have FIN := Lib.hid fin; clear fin
 by_cases hneg : x < 0
 ·
  have hd : decide (x < 0) = true := decide_eq_true hneg
  have hu := u64neg x H0.out hneg
  go_enter Tryz.func152, Tryz.ntmps152
  go_wp2_with fail
  refine (c_natOf _ w (by have := H0.out; omega) (by have := H0.out; omega)).mono ?_
  rintro e w1 ⟨v', r, rfl, hV, hN, hnv, hl, hb⟩
  obtain ⟨a', l', c', rfl⟩ := NatV.slice hV
  obtain ⟨q0, q1, q2, q3⟩ := two_cells (show w1.heap[g]? = some (.cells #[.bool b0, .slice a0 l0 k0] 97 (0, 0)) by rw [hb.block g (lt_of_heap HG.out)]; exact HG.out)
  have FF := Lib.hid (FIN.out true _ r w1 hV hN (by simp; omega) (fun _ => by rintro rfl; simp [nv] at hnv; omega) hl hb)
  clear hV hN hnv hl hb hu
  go_wp2_with fail
  go_ret
  exact ⟨rfl, FF.out⟩
 ·
  have hd : decide (x < 0) = false := decide_eq_false hneg
  have hu : IntKind.u64.wrap x = x := u64w x (by omega) (by have := H1.out; omega)
  go_enter Tryz.func152, Tryz.ntmps152
  go_wp2_with fail
  refine (c_natOf _ w (by omega) (by have := H1.out; omega)).mono ?_
  rintro e w1 ⟨v', r, rfl, hV, hN, hnv, hl, hb⟩
  obtain ⟨a', l', c', rfl⟩ := NatV.slice hV
  obtain ⟨q0, q1, q2, q3⟩ := two_cells (show w1.heap[g]? = some (.cells #[.bool b0, .slice a0 l0 k0] 97 (0, 0)) by rw [hb.block g (lt_of_heap HG.out)]; exact HG.out)
  have FF := Lib.hid (FIN.out false _ r w1 hV hN (by simp; omega) (fun h => by cases h) hl hb)
  clear hV hN hnv hl hb
  go_wp2_with fail
  go_ret
  exact ⟨rfl, FF.out⟩

/-- NewInt: a new big.Int. -/
theorem newInt_any (x : Int) (h0 : -9223372036854775808 ≤ x) (h1 : x ≤ 9223372036854775807) (w : World) :
  Calls Tryz.prog 84 #[.int .i64 x] w fun e w' => ∃ g, e = .returned (.pointer (some ⟨g, 0, none⟩)) ∧ w.heap.size ≤ g ∧ IntAt w' g x 2 ∧ Below w.heap.size w w' := by
 have H0 := Lib.hid h0; clear h0
 have H1 := Lib.hid h1; clear h1
 go_enter Tryz.func84, Tryz.ntmps84
 go_wp2_with fail
 refine (setInt64_any x H0.out H1.out _ _ _ _ _ _ (heap_alloc_new w _)).mono ?_
 rintro e w1 ⟨rfl, hI, hgr⟩
 have HI := Lib.hid hI; clear hI
 have HB := Lib.hid (((Below.refl w.heap.size w).alloc (Nat.le_refl _) _).grown hgr (by simp) (fun k hk => by cases hk; exact Nat.le_refl _)); clear hgr
 go_wp2_with fail
 go_ret
 exact ⟨_, rfl, Nat.le_refl _, HI.out, HB.out⟩
end Go.Proofs.YtaiidipcmnejoaaGreatDoor.IntW

/- The walks of package big: the sum of two whole numbers, at every sign and order. -/
namespace Go.Proofs.YtaiidipcmnejoaaGreatDoor.IntW
open Go.RowKit Go.Lib Go.Proofs.YtaiidipcmnejoaaGreatDoorW.PrintWords Go.Proofs.YtaiidipcmnejoaaGreatDoorW.PrintLast Go.Proofs.YtaiidipcmnejoaaGreatDoorW.PrintMore
open Go.Proofs.YtaiidipcmnejoaaGreatDoor.Nt

theorem NatV.drewN {w : World} {v : Value} {xs : List Int} (h : NatV w v xs) (n : Nat) : NatV (w.drewN n) v xs := by
 obtain ⟨A, c, h1, h2, h3⟩ := h
 exact ⟨A, c, h1, h2, Kd.C_drewN h3 n⟩
end Go.Proofs.YtaiidipcmnejoaaGreatDoor.IntW

/- The walks of package big: Add and Sub of whole numbers in memory. -/
namespace Go.Proofs.YtaiidipcmnejoaaGreatDoor.IntW
open Go.RowKit Go.Lib Go.Proofs.YtaiidipcmnejoaaGreatDoorW.PrintWords Go.Proofs.YtaiidipcmnejoaaGreatDoorW.PrintLast Go.Proofs.YtaiidipcmnejoaaGreatDoorW.PrintMore
open Go.Proofs.YtaiidipcmnejoaaGreatDoor.Nt

theorem IntAt.drewN {w : World} {g : Nat} {n : Int} {L : Nat} (h : IntAt w g n L) (k : Nat) : IntAt (w.drewN k) g n L := by
 obtain ⟨neg, ds, sv, h1, h2, h3⟩ := h
 exact ⟨neg, ds, sv, h1, NatV.drewN h2 k, h3⟩
theorem grown_drewN {w w' : World} {k : Nat} {row : Option Nat} (h : (w.drewN k).grownBy w' row) : w.grownBy w' row := by
 have hb : Below w.heap.size w (w.drewN k) := pw_below_drewN (Below.refl _ _) k
 exact ⟨h.os.trans hb.os, h.tape.trans hb.tape, h.output.trans hb.output, Nat.le_trans hb.size h.size, fun i hi hne => (h.block i (Nat.lt_of_lt_of_le hi hb.size) hne).trans (hb.block i hi)⟩

end Go.Proofs.YtaiidipcmnejoaaGreatDoor.IntW

/- The walks of package big: the decimal text of a whole number. -/
namespace Go.Proofs.YtaiidipcmnejoaaGreatDoor.IntW
open Go.RowKit Go.Lib Go.Proofs.YtaiidipcmnejoaaGreatDoorW.PrintWords Go.Proofs.YtaiidipcmnejoaaGreatDoorW.PrintLast Go.Proofs.YtaiidipcmnejoaaGreatDoorW.PrintMore
open Go.Proofs.YtaiidipcmnejoaaGreatDoor.Nt Go.Proofs.YtaiidipcmnejoaaGreatDoor.Dec

theorem info5 : (Tryz.prog.info? 5).map (fun i => (i.zero, i.size, i.bytes)) = some (some (.int .u8 0), 1, 1) := by kernel_rfl
/-- A text's bytes as numbers. -/
def bI (l : List UInt8) : List Int := l.map fun c => (c.toNat : Int)
theorem bI_len (l : List UInt8) : (bI l).length = l.length := by simp [bI]
theorem bI_snoc (l : List UInt8) (c : UInt8) : bI (l ++ [c]) = bI l ++ [(c.toNat : Int)] := by simp [bI]
/-- A slice value that reads as these bytes. -/
def BytesV (w : World) (v : Value) (l : List UInt8) : Prop := ∃ A c, v = .slice A (bI l).length c ∧ Kd.C (Kd.int .u8) w A (bI l).length (bI l)
set_option maxRecDepth 100000 in
theorem text_zero (neg : Bool) (A : Option Addr) (c : Nat) (w : World) :
  Calls Tryz.prog 151 #[.slice A 0 c, .bool neg, .int .i64 10] w fun e w' => ∃ v, e = .returned v ∧ BytesV w' v [48] ∧ Below w.heap.size w w' := by
 have kc := fun (w : World) (C : Array Value) (n c : Nat) => Lib.run_convert_bytes_const (P := Tryz.prog) w 49 5 C n c Tryz.underlying49 Tryz.underlying5
 go_enter Tryz.func151, Tryz.ntmps151
 go_wp2_with fail
 go_ret
 refine ⟨_, rfl, ⟨some ⟨w.heap.size, 0, none⟩, 1, rfl, rfl, by simp [bI], fun _ => ⟨_, rfl, fun j p hj => ?_⟩⟩, below_alloc (Below.refl _ _) _⟩
 cases j with
 | succ j => simp [bI] at hj
 | zero =>
  refine ⟨[.int .u8 48], rfl, ?_, fun i u hi => ?_⟩
  ·
   have : p = 48 := by simpa [bI] using hj.symm
   rw [this]; rfl
  ·
   cases i with
   | succ i => simp at hi
   | zero =>
    have : u = .int .u8 48 := by simpa using hi.symm
    rw [this]
    have hh : (w.alloc (.cells #[.int .u8 48] 5 (1, 2))).heap[w.heap.size]? = some (.cells #[.int .u8 48] 5 (1, 2)) := by
     show (w.heap.push _)[w.heap.size]? = _
     simp
    show (w.alloc (.cells #[.int .u8 48] 5 (1, 2))).cell? ⟨w.heap.size, 0, none⟩ = some (.int .u8 48)
    simp only [World.cell?]; rw [hh]; rfl

def D (n : Nat) : List UInt8 := if n = 0 then [] else decDigits n
theorem D_zero : D 0 = [] := rfl
theorem D_step (n : Nat) (h : 0 < n) : D n = D (n / 10) ++ [UInt8.ofNat (48 + n % 10)] := by
 unfold D
 rw [if_neg (by omega)]
 rw [decDigits]
 split
 ·
  rw [if_pos (by omega)]
  rw [Nat.mod_eq_of_lt (by omega)]; rfl
 ·
  rw [if_neg (by omega)]
theorem len_dec (n m : Nat) (hm : 1 ≤ m) (h : n < 10 ^ m) : (decDigits n).length ≤ m := by
 by_cases h0 : n = 0
 ·
  subst h0; rw [decDigits_zero]; simpa using hm
 ·
  have hh := head_decDigits n h0
  have hd := isDig_decDigits n
  have hv := be_decDigits n
  cases hx : decDigits n with
  | nil => simp
  | cons c r =>
   rw [hx] at hh hd hv
   have h2 := be_pos hd (fun e => hh (by simp [e]))
   rw [hv] at h2
   by_cases hle : (c :: r).length ≤ m
   ·
    exact hle
   ·
    have : 10 ^ m ≤ 10 ^ r.length := Nat.pow_le_pow_right (by decide) (by simp at hle; omega)
    omega
theorem nv_small (xs : List Int) (h : isU xs) : (nv xs).toNat < 10 ^ (10 * xs.length) := by
 have h1 := nv_lt xs h
 have h0 := nv_nonneg xs h
 have h2 : (4294967296 : Nat) ^ xs.length ≤ (10 ^ 10) ^ xs.length := Nat.pow_le_pow_left (by decide) _
 rw [← Nat.pow_mul] at h2
 have h3 : ((4294967296 ^ xs.length : Nat) : Int) = (4294967296 : Int) ^ xs.length := by simp
 omega
/-- One digit more. -/
theorem D_emit (M r : Nat) (i : Nat) (hi : i < 9) (h : 0 < M * 10 ^ (9 - i) + r) : D (M * 10 ^ (9 - i) + r) = D (M * 10 ^ (9 - (i + 1)) + r / 10) ++ [UInt8.ofNat (48 + r % 10)] := by
 have e : M * 10 ^ (9 - i) = 10 * (M * 10 ^ (9 - (i + 1))) := by
  rw [show 9 - i = (9 - (i + 1)) + 1 by omega, Nat.pow_succ, ← Nat.mul_assoc, Nat.mul_comm]
 rw [D_step _ h, e]
 congr 2
 ·
  omega
 ·
  congr 1; omega
theorem pow10_cast : ∀ i : Nat, i ≤ 9 → (10 : Nat) ^ i ≤ 1000000000 := fun i h => by
 have : (10 : Nat) ^ i ≤ 10 ^ 9 := Nat.pow_le_pow_right (by decide) h
 simpa using this

def DIG : ByteArray := ⟨#[48, 49, 50, 51, 52, 53, 54, 55, 56, 57, 97, 98, 99, 100, 101, 102, 103, 104, 105, 106, 107, 108, 109, 110, 111, 112, 113, 114, 115, 116, 117, 118, 119, 120, 121, 122, 65, 66, 67, 68, 69, 70, 71, 72, 73, 74, 75, 76, 77, 78, 79, 80, 81, 82, 83, 84, 85, 86, 87, 88, 89, 90]⟩
/-! ### Turned round in place -/
def swapped (s : List Int) (i : Nat) (L : List Int) : Prop := L.length = s.length ∧ ∀ p, p < s.length → L[p]? = if p < i ∨ s.length - i ≤ p then s[s.length - 1 - p]? else s[p]?
theorem swapped_zero (s : List Int) : swapped s 0 s := ⟨rfl, fun p hp => by rw [if_neg (by omega)]⟩
theorem swapped_done {s L : List Int} {i : Nat} (h : swapped s i L) (hi : s.length ≤ 2 * i + 1) : L = s.reverse := by
 apply List.ext_getElem?
 intro p
 by_cases hp : p < s.length
 ·
  rw [h.2 p hp, List.getElem?_reverse hp]
  split
  ·
   rfl
  ·
   congr 1; omega
 ·
  rw [List.getElem?_eq_none (by rw [h.1]; omega), List.getElem?_eq_none (by simp; omega)]
theorem swapped_step {s L : List Int} {i j : Nat} (h : swapped s i L) (hij : i < j) (hn : i + j + 1 = s.length) : swapped s (i + 1) ((L.set i (rd L (j : Int))).set j (rd L (i : Int))) := by
 refine ⟨by simp [h.1], fun p hp => ?_⟩
 have hL := h.1
 have ri : rd L (i : Int) = L[i]'(by omega) := rd_at L i (by omega)
 have rj : rd L (j : Int) = L[j]'(by omega) := rd_at L j (by omega)
 have ei : L[i]? = s[i]? := by rw [h.2 i (by omega), if_neg (by omega)]
 have ej : L[j]? = s[j]? := by rw [h.2 j (by omega), if_neg (by omega)]
 rw [List.getElem?_eq_getElem (show i < L.length by omega)] at ei
 rw [List.getElem?_eq_getElem (show j < L.length by omega)] at ej
 by_cases hpj : p = j
 ·
  subst hpj
  rw [List.getElem?_set_self (by simp; omega), if_pos (by omega), ri, ei]
  congr 1; omega
 ·
  rw [List.getElem?_set_ne (fun e => hpj e.symm)]
  by_cases hpi : p = i
  ·
   subst hpi
   rw [List.getElem?_set_self (by omega), if_pos (by omega), rj, ej]
   congr 1; omega
  ·
   rw [List.getElem?_set_ne (fun e => hpi e.symm), h.2 p hp]
   by_cases hc : p < i ∨ s.length - i ≤ p
   ·
    rw [if_pos hc, if_pos (by omega)]
   ·
    rw [if_neg hc, if_neg (by omega)]

theorem idx_0 (w : World) : (Instr.index 9 (.string DIG) (.int .u32 0)).run Tryz.prog w = .ok (.int .u8 48) w := by kernel_rfl
theorem idx_1 (w : World) : (Instr.index 9 (.string DIG) (.int .u32 1)).run Tryz.prog w = .ok (.int .u8 49) w := by kernel_rfl
theorem idx_2 (w : World) : (Instr.index 9 (.string DIG) (.int .u32 2)).run Tryz.prog w = .ok (.int .u8 50) w := by kernel_rfl
theorem idx_3 (w : World) : (Instr.index 9 (.string DIG) (.int .u32 3)).run Tryz.prog w = .ok (.int .u8 51) w := by kernel_rfl
theorem idx_4 (w : World) : (Instr.index 9 (.string DIG) (.int .u32 4)).run Tryz.prog w = .ok (.int .u8 52) w := by kernel_rfl
theorem idx_5 (w : World) : (Instr.index 9 (.string DIG) (.int .u32 5)).run Tryz.prog w = .ok (.int .u8 53) w := by kernel_rfl
theorem idx_6 (w : World) : (Instr.index 9 (.string DIG) (.int .u32 6)).run Tryz.prog w = .ok (.int .u8 54) w := by kernel_rfl
theorem idx_7 (w : World) : (Instr.index 9 (.string DIG) (.int .u32 7)).run Tryz.prog w = .ok (.int .u8 55) w := by kernel_rfl
theorem idx_8 (w : World) : (Instr.index 9 (.string DIG) (.int .u32 8)).run Tryz.prog w = .ok (.int .u8 56) w := by kernel_rfl
theorem idx_9 (w : World) : (Instr.index 9 (.string DIG) (.int .u32 9)).run Tryz.prog w = .ok (.int .u8 57) w := by kernel_rfl
theorem idx_dig (d : Int) (h0 : 0 ≤ d) (h1 : d < 10) (w : World) : (Instr.index 9 (.string DIG) (.int .u32 d)).run Tryz.prog w = .ok (.int .u8 (48 + d)) w := by
 have h : d = 0 ∨ d = 1 ∨ d = 2 ∨ d = 3 ∨ d = 4 ∨ d = 5 ∨ d = 6 ∨ d = 7 ∨ d = 8 ∨ d = 9 := by omega
 rcases h with rfl | rfl | rfl | rfl | rfl | rfl | rfl | rfl | rfl | rfl
 ·
  exact idx_0 w
 ·
  exact idx_1 w
 ·
  exact idx_2 w
 ·
  exact idx_3 w
 ·
  exact idx_4 w
 ·
  exact idx_5 w
 ·
  exact idx_6 w
 ·
  exact idx_7 w
 ·
  exact idx_8 w
 ·
  exact idx_9 w

theorem c_divW' (v : Value) (x : List Int) (y : Int) (w : World) (hv : NatV w v x) (hx : isN x) (hy0 : 0 < y) (hy1 : y < 4294967296) (hxm : x.length ≤ 1000000) :
  Calls Tryz.prog 187 #[v, .int .u32 y] w fun e w' => ∃ v' q r, e = .returned (.tuple #[v', .int .u32 r]) ∧ Kd.V (Kd.int .u32) 175 w' w.heap.size (fun k => w.heap.size ≤ k) v' q ∧ isN q ∧ nv x = nv q * y + r ∧ 0 ≤ r ∧ r < y ∧ q.length ≤ x.length ∧ Below w.heap.size w w' := by
 obtain ⟨A, c, rfl, hc, hr⟩ := hv
 obtain ⟨q, r, e1, h1, h2, h3, h4, h5⟩ := divW_f x hx.1 y hy0 hy1 (by omega) (2 * x.length + 2) (by omega)
 refine (Pdiv.smallbig_nat_divW.calls _ A c x y q r w hr hc e1).mono ?_
 rintro e w' ⟨v', rfl, hV, hb⟩
 exact ⟨v', q, r, rfl, hV, h1, h2, h3, h4, h5, hb⟩
set_option maxRecDepth 100000 in
set_option maxHeartbeats 1000000 in
theorem text_pos (neg : Bool) (v : Value) (xs : List Int) (w : World) (hv : NatV w v xs) (hN : isN xs) (h0 : xs ≠ []) (hl : xs.length ≤ 100000) :
  Calls Tryz.prog 151 #[v, .bool neg, .int .i64 10] w fun e w' => ∃ v, e = .returned v ∧ BytesV w' v (itoa (if neg then - nv xs else nv xs)) ∧ Below w.heap.size w w' := by
 have HV := Lib.hid hv
 obtain ⟨A, c, rfl, hc, hC⟩ := hv
 have hpos : 0 < xs.length := by
  cases xs with
  | nil => exact absurd rfl h0
  | cons _ _ => simp
 have HN := Lib.hid hN
 have HL := Lib.hid hl
 have H0 := Lib.hid h0
 have t0 : ((xs.length : Int) == 0) = false := by rw [beq_eq_false_iff_ne]; omega
 have t1 : (xs.length == 0) = false := by rw [beq_eq_false_iff_ne]; omega
 clear hC hN hl h0 hpos
 go_enter Tryz.func151, Tryz.ntmps151
 go_wp2_with fail
 go_loop [7, 8] (fun b k => (b = .int .u64 10 ∧ k = .int .i64 1) ∨ (b = .int .u64 100 ∧ k = .int .i64 2) ∨ (b = .int .u64 1000 ∧ k = .int .i64 3) ∨ (b = .int .u64 10000 ∧ k = .int .i64 4) ∨ (b = .int .u64 100000 ∧ k = .int .i64 5) ∨ (b = .int .u64 1000000 ∧ k = .int .i64 6) ∨ (b = .int .u64 10000000 ∧ k = .int .i64 7) ∨ (b = .int .u64 100000000 ∧ k = .int .i64 8) ∨ (b = .int .u64 1000000000 ∧ k = .int .i64 9)) (fun _ k => (9 - intOf k).toNat)
 case atStart => exact Or.inl ⟨rfl, rfl⟩
 case round =>
  rcases hrel with ⟨rfl, rfl⟩ | ⟨rfl, rfl⟩ | ⟨rfl, rfl⟩ | ⟨rfl, rfl⟩ | ⟨rfl, rfl⟩ | ⟨rfl, rfl⟩ | ⟨rfl, rfl⟩ | ⟨rfl, rfl⟩ | ⟨rfl, rfl⟩
  iterate 8
   ·
    go_wp2_with fail
    go_round
    case rel => simp
    case measure => simp [intOf]
  go_wp2_with fail
  go_loopg [0, 9] (nv xs).toNat (fun kq v0 v9 w' => ∃ (q : List Int) (s : List UInt8), Aside0 (NatV w' v0 q ∧ isN q ∧ q.length ≤ xs.length) ∧ Aside0 ((nv q).toNat ≤ kq) ∧ Aside0 (Kd.R (Kd.int .u8) 5 w' w.heap.size (fun _ => True) v9 (bI s)) ∧ Aside0 (D (nv q).toNat ++ s.reverse = decDigits (nv xs).toNat) ∧ Aside0 (Below w.heap.size w w'))
  case atStart =>
   have hp := nv_pos HN.out H0.out
   have hp2 := W_pos (xs.length - 1)
   exact ⟨xs, [], ⟨⟨HV.out, HN.out, Nat.le_refl _⟩⟩, ⟨Nat.le_refl _⟩, ⟨Kd.R_nil _ _ _ _ _⟩, ⟨by simp [D]; omega⟩, ⟨Below.refl _ _⟩⟩
  case round =>
   obtain ⟨q, s, HQ, HK, HR, HD, HB⟩ := hrel
   obtain ⟨⟨A1, c1, rfl, hc1, hC1⟩, hN1, hl1⟩ := HQ.out
   have HQ1 : Aside0 (NatV wr (.slice A1 q.length c1) q ∧ isN q ∧ q.length ≤ xs.length) := HQ
   clear hc1 hC1 hN1 hl1 HQ
   by_cases hq : 0 < q.length
   ·
    have q1 : decide (0 < q.length) = true := decide_eq_true hq
    have q2 : decide (0 < (q.length : Int)) = true := decide_eq_true (by omega)
    have hgk : 1 ≤ gk := by
     have h1 := nv_pos HQ1.out.2.1 (fun e => by rw [e] at hq; simp at hq)
     have h2 := W_pos (q.length - 1)
     have := HK.out
     omega
    obtain ⟨k1, rfl⟩ : ∃ k1, gk = k1 + 1 := ⟨gk - 1, by omega⟩
    clear hgk
    go_wp2_with fail
    refine (c_divW' _ q 1000000000 _ HQ1.out.1 HQ1.out.2.1 (by omega) (by omega) (by have := HQ1.out.2.2; have := HL.out; omega)).mono ?_
    rintro e w1 ⟨v', q', r0, rfl, hV', hN', hnv', hr0, hr1, hl', hb'⟩
    have HV0 : Aside0 (Kd.V (Kd.int .u32) 175 w1 0 (fun k => True ∧ some k ≠ u9.ownBlock) v' q') := ⟨Kd.V_lower (Kd.V_mono hV' (fun k hk => ⟨trivial, fun e => by have := Kd.R_lt HR.out k e.symm; omega⟩)) (Nat.zero_le _)⟩
    obtain ⟨A2, c2, rfl, hc2, hC2⟩ := NatV.of hV'
    clear hV'
    have HQ2 : Aside0 (NatV w1 (.slice A2 q'.length c2) q' ∧ isN q' ∧ q'.length ≤ xs.length) := ⟨⟨⟨A2, c2, rfl, hc2, hC2⟩, hN', by have := HQ1.out.2.2; omega⟩⟩
    have HNV := Aside0.mk hnv'
    have HR1 := Aside0.mk (Kd.R_below HR.out hb')
    have HB1 := Aside0.mk (below_step HB.out hb')
    have HD1 : Aside0 (D ((nv q').toNat * 10 ^ (9 - 0) + r0.toNat) ++ s.reverse = decDigits (nv xs).toNat) := ⟨by
     rw [← HD.out]
     congr 2
     have h1 := nv_nonneg q' hN'.1
     rw [hnv']
     omega⟩
    have HR0 := Aside0.mk (And.intro hr0 hr1)
    clear hc2 hC2 hN' hnv' hl' hb' hr0 hr1 HR HB HD
    go_wp2_with fail
    go_loopw [9, 10, 11] (fun v9 v10 v11 wx => ∃ (i : Nat) (r : Int) (s : List UInt8), v11 = .int .i64 i ∧ v10 = .int .u32 r ∧ Aside0 (i ≤ 9 ∧ 0 ≤ r ∧ r < 10 ^ (9 - i)) ∧ Aside0 (Kd.V (Kd.int .u32) 175 wx 0 (fun k => True ∧ some k ≠ v9.ownBlock) (.slice A2 q'.length c2) q') ∧ Aside0 (Kd.R (Kd.int .u8) 5 wx w.heap.size (fun _ => True) v9 (bI s)) ∧ Aside0 (D ((nv q').toNat * 10 ^ (9 - i) + r.toNat) ++ s.reverse = decDigits (nv xs).toNat) ∧ Aside0 (Below w.heap.size w wx)) (fun _ _ v11 _ => 9 - (intOf v11).toNat)
    case atStart => exact ⟨0, r0, s, rfl, rfl, ⟨by have := HR0.out; omega⟩, HV0, HR1, HD1, HB1⟩
    case round =>
     clear HR1 HB1 HD1 HV0
     obtain ⟨i, r, s1, rfl, rfl, HI, HV1, HR1, HD1, HB1⟩ := hrel
     have hi9 : i ≤ 9 := HI.out.1
     have hr0 : 0 ≤ r := HI.out.2.1
     have hrm : r ≤ 1000000000 := by
      have h1 := HI.out.2.2
      have h2 := pow10_cast (9 - i) (by omega)
      have h3 : ((10 ^ (9 - i) : Nat) : Int) = (10 : Int) ^ (9 - i) := by simp
      omega
     by_cases hcond : i < 9 ∧ (0 < q'.length ∨ 0 < r)
     ·
      have hidx := fun wx => idx_dig (r % 10) (by omega) (by omega) wx
      simp only [DIG] at hidx
      have a1 : decide ((i : Int) < 9) = true := decide_eq_true (by omega)
      have hM : q'.length = 0 → nv q' = 0 := fun e => by rw [List.length_eq_zero_iff.1 e]; rfl
      have hV0 : 0 < (nv q').toNat * 10 ^ (9 - i) + r.toNat := by
       rcases hcond.2 with h | h
       ·
        have h1 := nv_pos HQ2.out.2.1 (fun e => by rw [e] at h; simp at h)
        have h2 := W_pos (q'.length - 1)
        have h3 : 1 * 1 ≤ (nv q').toNat * 10 ^ (9 - i) := Nat.mul_le_mul (by omega) (Nat.one_le_pow _ _ (by decide))
        omega
       ·
        omega
      have HS : Aside0 ((bI s1).length ≤ 1000000) := ⟨by
       have h1 := congrArg List.length HD1.out
       simp only [List.length_append, List.length_reverse] at h1
       have h2 := len_dec (nv xs).toNat (10 * xs.length) (by have := H0.out; cases hx : xs with | nil => exact absurd hx this | cons _ _ => simp only [List.length_cons]; omega) (nv_small xs HN.out.1)
       have := HL.out
       rw [bI_len]; omega⟩
      have HD2 : Aside0 (D ((nv q').toNat * 10 ^ (9 - (i + 1)) + (r / 10).toNat) ++ (s1 ++ [UInt8.ofNat (48 + (r % 10).toNat)]).reverse = decDigits (nv xs).toNat) := ⟨by
       rw [← HD1.out, D_emit _ _ i hcond.1 hV0, List.reverse_append, List.append_assoc]
       rw [show (r / 10).toNat = r.toNat / 10 by omega, show (r % 10).toNat = r.toNat % 10 by omega]
       rfl⟩
      have HI2 : Aside0 (i + 1 ≤ 9 ∧ 0 ≤ r / 10 ∧ r / 10 < 10 ^ (9 - (i + 1))) := ⟨by
       refine ⟨by omega, by omega, ?_⟩
       have h1 := HI.out.2.2
       rw [show 9 - i = (9 - (i + 1)) + 1 by omega, Int.pow_succ] at h1
       omega⟩
      have hbs : bI (s1 ++ [UInt8.ofNat (48 + (r % 10).toNat)]) = bI s1 ++ [48 + r % 10] := by
       rw [bI_snoc, digit_ok _ (by omega)]; congr 2; omega
      have HBS := Aside0.mk hbs
      have fin : ∀ (w10 : World) (v110 : Value), Kd.R (Kd.int .u8) 5 w10 w.heap.size (fun _ => True) v110 (bI s1 ++ [48 + r % 10]) → Below w.heap.size w w10 → NatV w10 (.slice A2 q'.length c2) q' → True := fun _ _ _ _ _ => trivial
      have HI9 := Aside0.mk hcond.1
      clear fin hbs hV0 hM
      rcases Nat.eq_zero_or_pos q'.length with hz | hp
      ·
       have a2 : decide (0 < q'.length) = false := decide_eq_false (by omega)
       have a3 : decide (0 < (q'.length : Int)) = false := decide_eq_false (by omega)
       have hrp : 0 < r := hcond.2.resolve_left (by omega)
       have a4 : decide (0 < r) = true := decide_eq_true hrp
       clear hz hcond
       go_wp2_with ((with_reducible refine gate_builtin (b := .append) (xs := #[.tmp 63, .tmp 69]) rfl ?_); at_builtin; refine Kd.R_append (Kd.int .u8) (w0 := w) w.heap.size rfl (.tmp 63) (.tmp 69) 49 5 (.int .u8 0) 1 rfl Tryz.underlying49 info5 rfl (by decide) (by omega) u9 (bI s1) (48 + r % 10) [.int .u8 (48 + r % 10)] (fun _ => True) (fun _ => False) rfl rfl ?aP (fun _ hk => hk.elim) ?aF ?aO ?aB ?aS ?aL ?_; (case aP => exact rfl); (case aB => exact (by repeat (first | (with_reducible first | exact HB1.out | apply below_alloc | apply pw_below_drewN | apply below_drew1) | exact HB1.out))); (case aF => exact (fun _ _ => trivial)); (case aO => exact (by (with_reducible repeat (first | apply Kd.R_alloc | apply Kd.R_drewN | apply Kd.R_drew)); exact HR1.out)); (case aS => exact (below_size (by repeat (first | (with_reducible first | exact HB1.out | apply below_alloc | apply pw_below_drewN | apply below_drew1) | exact HB1.out)))); (case aL => have := HS.out; omega); intro v110 w10 ho hb hg hat; have n0_ := Aside0.mk (hb); have n1_ := Aside0.mk (ho); have n2_ := Aside0.mk (Kd.V_after HV1.out hg hat); clear HB1; clear HR1; clear HV1; have HB1 := n0_; have HR1 := n1_; have HV1 := n2_; clear n0_ n1_ n2_; clear ho hb hg hat)
       go_roundw
       case rel => exact ⟨i + 1, r / 10, s1 ++ [UInt8.ofNat (48 + (r % 10).toNat)], by go_num, rfl, HI2, HV1, ⟨by rw [HBS.out]; exact HR1.out⟩, HD2, HB1⟩
       case measure => have := HI9.out; simp [intOf]; omega
      ·
       have a2 : decide (0 < q'.length) = true := decide_eq_true hp
       have a3 : decide (0 < (q'.length : Int)) = true := decide_eq_true (by omega)
       clear hp hcond
       go_wp2_with ((with_reducible refine gate_builtin (b := .append) (xs := #[.tmp 63, .tmp 69]) rfl ?_); at_builtin; refine Kd.R_append (Kd.int .u8) (w0 := w) w.heap.size rfl (.tmp 63) (.tmp 69) 49 5 (.int .u8 0) 1 rfl Tryz.underlying49 info5 rfl (by decide) (by omega) u9 (bI s1) (48 + r % 10) [.int .u8 (48 + r % 10)] (fun _ => True) (fun _ => False) rfl rfl ?aP (fun _ hk => hk.elim) ?aF ?aO ?aB ?aS ?aL ?_; (case aP => exact rfl); (case aB => exact (by repeat (first | (with_reducible first | exact HB1.out | apply below_alloc | apply pw_below_drewN | apply below_drew1) | exact HB1.out))); (case aF => exact (fun _ _ => trivial)); (case aO => exact (by (with_reducible repeat (first | apply Kd.R_alloc | apply Kd.R_drewN | apply Kd.R_drew)); exact HR1.out)); (case aS => exact (below_size (by repeat (first | (with_reducible first | exact HB1.out | apply below_alloc | apply pw_below_drewN | apply below_drew1) | exact HB1.out)))); (case aL => have := HS.out; omega); intro v110 w10 ho hb hg hat; have n0_ := Aside0.mk (hb); have n1_ := Aside0.mk (ho); have n2_ := Aside0.mk (Kd.V_after HV1.out hg hat); clear HB1; clear HR1; clear HV1; have HB1 := n0_; have HR1 := n1_; have HV1 := n2_; clear n0_ n1_ n2_; clear ho hb hg hat)
       go_roundw
       case rel => exact ⟨i + 1, r / 10, s1 ++ [UInt8.ofNat (48 + (r % 10).toNat)], by go_num, rfl, HI2, HV1, ⟨by rw [HBS.out]; exact HR1.out⟩, HD2, HB1⟩
       case measure => have := HI9.out; simp [intOf]; omega
     ·
      have HX : Aside0 (D (nv q').toNat ++ s1.reverse = decDigits (nv xs).toNat) := ⟨by
       rw [← HD1.out]
       congr 2
       by_cases h9 : i = 9
       ·
        subst h9
        have h1 := HI.out.2.2
        simp at h1
        simp
        omega
       ·
        have hz : q'.length = 0 ∧ r ≤ 0 := by omega
        have : nv q' = 0 := by rw [List.length_eq_zero_iff.1 hz.1]; rfl
        rw [this]
        simp
        omega⟩
      have HQX : Aside0 (NatV _ (.slice A2 q'.length c2) q' ∧ isN q' ∧ q'.length ≤ xs.length) := ⟨⟨NatV.of HV1.out, HQ2.out.2.1, HQ2.out.2.2⟩⟩
      have HKX : Aside0 ((nv q').toNat ≤ k1) := ⟨by
       have h1 := HNV.out
       have h2 := HK.out
       have h5 := HR0.out
       have h3 := nv_nonneg q' HQ2.out.2.1.1
       have h4 := nv_nonneg q HQ1.out.2.1.1
       omega⟩
      by_cases h9 : i = 9
      ·
       subst h9
       clear hcond
       go_wp2_with fail
       go_roundg k1
       case rel => exact ⟨q', s1, HQX, HKX, HR1, HX, HB1⟩
       case measure => omega
      ·
       have a1 : decide ((i : Int) < 9) = true := decide_eq_true (by omega)
       have a2 : decide (0 < q'.length) = false := decide_eq_false (by omega)
       have a3 : decide (0 < (q'.length : Int)) = false := decide_eq_false (by omega)
       have a4 : decide (0 < r) = false := decide_eq_false (by omega)
       clear hcond
       go_wp2_with fail
       go_roundg k1
       case rel => exact ⟨q', s1, HQX, HKX, HR1, HX, HB1⟩
       case measure => omega
   ·
    have q1 : decide (0 < q.length) = false := decide_eq_false hq
    have q2 : decide (0 < (q.length : Int)) = false := decide_eq_false (by omega)
    have HF : Aside0 (s.reverse = decDigits (nv xs).toNat) := ⟨by
     rw [← HD.out]
     have : q = [] := List.length_eq_zero_iff.1 (by omega)
     subst this
     rfl⟩
    have HS : Aside0 ((bI s).length ≤ 1000000) := ⟨by
     have h1 := congrArg List.length HF.out
     simp only [List.length_reverse] at h1
     have h2 := len_dec (nv xs).toNat (10 * xs.length) (by have := H0.out; cases hx : xs with | nil => exact absurd hx this | cons _ _ => simp only [List.length_cons]; omega) (nv_small xs HN.out.1)
     have := HL.out
     rw [bI_len]; omega⟩
    have HS0 : Aside0 (0 < (bI s).length) := ⟨by
     have h1 := congrArg List.length HF.out
     simp only [List.length_reverse] at h1
     have h2 : (decDigits (nv xs).toNat).length ≠ 0 := fun e => decDigits_ne_nil _ (List.length_eq_zero_iff.1 e)
     rw [bI_len]; omega⟩
    clear HQ1 HK HD hq
    cases neg with
    | true =>
     go_wp2_with ((with_reducible refine gate_builtin (b := .append) (xs := #[.tmp 76, .tmp 77]) rfl ?_); at_builtin; refine Kd.R_append (Kd.int .u8) (w0 := w) w.heap.size rfl (.tmp 76) (.tmp 77) 49 5 (.int .u8 0) 1 rfl Tryz.underlying49 info5 rfl (by decide) (by omega) u9 (bI s) 45 [.int .u8 45] (fun _ => True) (fun _ => False) rfl rfl ?aP (fun _ hk => hk.elim) ?aF ?aO ?aB ?aS ?aL ?_; (case aP => exact rfl); (case aB => exact (by repeat (first | (with_reducible first | exact HB.out | apply below_alloc | apply pw_below_drewN | apply below_drew1) | exact HB.out))); (case aF => exact (fun _ _ => trivial)); (case aO => exact (by (with_reducible repeat (first | apply Kd.R_alloc | apply Kd.R_drewN | apply Kd.R_drew)); exact HR.out)); (case aS => exact (below_size (by repeat (first | (with_reducible first | exact HB.out | apply below_alloc | apply pw_below_drewN | apply below_drew1) | exact HB.out)))); (case aL => have := HS.out; omega); intro v110 w10 ho hb hg hat; have n0_ := Aside0.mk (hb); have n1_ := Aside0.mk (ho); clear HB; clear HR; have HB := n0_; have HR := n1_; clear n0_ n1_; clear ho hb hg hat; obtain ⟨S, hS⟩ : ∃ S : List Int, S = bI s ++ [45] := ⟨_, rfl⟩; have HR := Aside0.mk (hS ▸ HR.out : Kd.R (Kd.int .u8) 5 w10 w.heap.size (fun _ => True) v110 S); have HSP : Aside0 (0 < S.length ∧ S.length ≤ 1000001) := ⟨by rw [hS]; have := HS.out; simp; omega⟩; have HSS := Aside0.mk hS; clear hS; obtain ⟨g, cap, e9, _, _, _⟩ := Kd.R_form HR.out HSP.out.1; subst e9)
     go_loopw [12, 13] (fun v12 v13 wx => ∃ (i j : Nat) (L : List Int), v12 = .int .i64 i ∧ v13 = .int .i64 j ∧ Aside0 (i + j + 1 = S.length) ∧ Aside0 (swapped S i L) ∧ Aside0 (Kd.R (Kd.int .u8) 5 wx w.heap.size (fun _ => True) (.slice (some ⟨g, 0, none⟩) S.length cap) L) ∧ Aside0 (Below w.heap.size w wx)) (fun _ v13 _ => (intOf v13).toNat)
     case atStart => exact ⟨0, S.length - 1, S, rfl, by first | rfl | (congr 1; rw [w64 _ (by have := HSP.out; omega) (by have := HSP.out; omega)]; have := HSP.out; omega) | (congr 1; have := HSP.out; omega), ⟨by have := HSP.out; omega⟩, ⟨swapped_zero S⟩, HR, HB⟩
     case round =>
      clear HR HB
      obtain ⟨i, j, L, rfl, rfl, HIJ, HSW, HR, HB⟩ := hrel
      by_cases hij : i < j
      ·
       have b1 : decide (i < j) = true := decide_eq_true hij
       have b2 : decide ((i : Int) < (j : Int)) = true := decide_eq_true (by omega)
       obtain ⟨x1, x2⟩ := Kd.R_celln 0 HR.out (i : Int) (by omega) (by have := HIJ.out; omega)
       obtain ⟨x3, x4⟩ := Kd.R_celln 0 HR.out (j : Int) (by omega) (by have := HIJ.out; omega)
       rw [Int.toNat_natCast] at x1 x2 x3 x4
       have j1 : (i : Int) < (S.length : Int) := by have := HIJ.out; omega
       have j2 : (j : Int) < (S.length : Int) := by have := HIJ.out; omega
       go_wp2_with fail
       have j3 : (S.length : Int) ≤ 1000001 := by have := HSP.out.2; omega
       have HP := Kd.R_putn (Kd.R_putn HR.out (i : Int) (rdOf 0 L (j : Int))) (j : Int) (rdOf 0 L (i : Int))
       rw [Int.toNat_natCast, Int.toNat_natCast] at HP
       have HPP := Aside0.mk HP
       have HGB := Aside0.mk (Kd.R_base HR.out g rfl)
       have HSW2 := Aside0.mk (swapped_step HSW.out hij HIJ.out)
       have HIJ2 : Aside0 ((i + 1) + (j - 1) + 1 = S.length) := ⟨by have := HIJ.out; omega⟩
       clear HP
       go_region
       go_wp2_with fail
       go_roundw
       case rel => exact ⟨i + 1, j - 1, _, by go_num, by congr 1; omega, HIJ2, HSW2, ⟨Kd.R_drew HPP.out⟩, ⟨((HB.out.setCell (p := ⟨g, i, none⟩) HGB.out _).setCell (p := ⟨g, j, none⟩) HGB.out _).drew⟩⟩
       case measure => simp [intOf]; omega
      ·
       have b1 : decide (i < j) = false := decide_eq_false hij
       have b2 : decide ((i : Int) < (j : Int)) = false := decide_eq_false (by omega)
       have HE := Aside0.mk (swapped_done HSW.out (by have := HIJ.out; omega))
       have fin : BytesV wr (.slice (some ⟨g, 0, none⟩) S.length cap) (itoa (- nv xs)) := by
        have hp := nv_pos HN.out H0.out
        have hp2 := W_pos (xs.length - 1)
        have e1 : L = bI (itoa (- nv xs)) := by
         rw [HE.out, HSS.out, itoa_neg _ (by omega), List.reverse_append, show (- nv xs).natAbs = (nv xs).toNat by omega, ← HF.out]
         simp [bI]
        have hr := Kd.R_reads' HR.out
        exact ⟨_, cap, by rw [← e1, hr.1], by rw [← e1]; exact hr.2.2⟩
       have FIN := Aside0.mk fin
       clear fin
       go_wp2_with fail
       go_ret
       exact ⟨_, rfl, FIN.out, HB.out⟩
    | false =>
     obtain ⟨S, hS⟩ : ∃ S : List Int, S = bI s := ⟨_, rfl⟩
     have HR2 := Aside0.mk (hS ▸ HR.out : Kd.R (Kd.int .u8) 5 wr w.heap.size (fun _ => True) u9 S)
     have HSP : Aside0 (0 < S.length ∧ S.length ≤ 1000001) := ⟨by rw [hS]; have := HS.out; have := HS0.out; omega⟩
     have HSS := Aside0.mk hS
     clear hS HR
     have HR := HR2
     clear HR2
     obtain ⟨g, cap, e9, _, _, _⟩ := Kd.R_form HR.out HSP.out.1
     subst e9
     go_wp2_with fail
     go_loopw [12, 13] (fun v12 v13 wx => ∃ (i j : Nat) (L : List Int), v12 = .int .i64 i ∧ v13 = .int .i64 j ∧ Aside0 (i + j + 1 = S.length) ∧ Aside0 (swapped S i L) ∧ Aside0 (Kd.R (Kd.int .u8) 5 wx w.heap.size (fun _ => True) (.slice (some ⟨g, 0, none⟩) S.length cap) L) ∧ Aside0 (Below w.heap.size w wx)) (fun _ v13 _ => (intOf v13).toNat)
     case atStart => exact ⟨0, S.length - 1, S, rfl, by first | rfl | (congr 1; rw [w64 _ (by have := HSP.out; omega) (by have := HSP.out; omega)]; have := HSP.out; omega) | (congr 1; have := HSP.out; omega), ⟨by have := HSP.out; omega⟩, ⟨swapped_zero S⟩, HR, HB⟩
     case round =>
      clear HR HB
      obtain ⟨i, j, L, rfl, rfl, HIJ, HSW, HR, HB⟩ := hrel
      by_cases hij : i < j
      ·
       have b1 : decide (i < j) = true := decide_eq_true hij
       have b2 : decide ((i : Int) < (j : Int)) = true := decide_eq_true (by omega)
       obtain ⟨x1, x2⟩ := Kd.R_celln 0 HR.out (i : Int) (by omega) (by have := HIJ.out; omega)
       obtain ⟨x3, x4⟩ := Kd.R_celln 0 HR.out (j : Int) (by omega) (by have := HIJ.out; omega)
       rw [Int.toNat_natCast] at x1 x2 x3 x4
       have j1 : (i : Int) < (S.length : Int) := by have := HIJ.out; omega
       have j2 : (j : Int) < (S.length : Int) := by have := HIJ.out; omega
       go_wp2_with fail
       have j3 : (S.length : Int) ≤ 1000001 := by have := HSP.out.2; omega
       have HP := Kd.R_putn (Kd.R_putn HR.out (i : Int) (rdOf 0 L (j : Int))) (j : Int) (rdOf 0 L (i : Int))
       rw [Int.toNat_natCast, Int.toNat_natCast] at HP
       have HPP := Aside0.mk HP
       have HGB := Aside0.mk (Kd.R_base HR.out g rfl)
       have HSW2 := Aside0.mk (swapped_step HSW.out hij HIJ.out)
       have HIJ2 : Aside0 ((i + 1) + (j - 1) + 1 = S.length) := ⟨by have := HIJ.out; omega⟩
       clear HP
       go_region
       go_wp2_with fail
       go_roundw
       case rel => exact ⟨i + 1, j - 1, _, by go_num, by congr 1; omega, HIJ2, HSW2, ⟨Kd.R_drew HPP.out⟩, ⟨((HB.out.setCell (p := ⟨g, i, none⟩) HGB.out _).setCell (p := ⟨g, j, none⟩) HGB.out _).drew⟩⟩
       case measure => simp [intOf]; omega
      ·
       have b1 : decide (i < j) = false := decide_eq_false hij
       have b2 : decide ((i : Int) < (j : Int)) = false := decide_eq_false (by omega)
       have HE := Aside0.mk (swapped_done HSW.out (by have := HIJ.out; omega))
       have fin : BytesV wr (.slice (some ⟨g, 0, none⟩) S.length cap) (itoa (nv xs)) := by
        have hp := nv_pos HN.out H0.out
        have hp2 := W_pos (xs.length - 1)
        have e1 : L = bI (itoa (nv xs)) := by
         rw [HE.out, HSS.out, itoa_pos _ (by omega), show (nv xs).natAbs = (nv xs).toNat by omega, ← HF.out]
         simp [bI]
        have hr := Kd.R_reads' HR.out
        exact ⟨_, cap, by rw [← e1, hr.1], by rw [← e1]; exact hr.2.2⟩
       have FIN := Aside0.mk fin
       clear fin
       go_wp2_with fail
       go_ret
       exact ⟨_, rfl, FIN.out, HB.out⟩

/-- Text at base 10. -/
theorem text_any (neg : Bool) (v : Value) (xs : List Int) (w : World) (hv : NatV w v xs) (hN : isN xs) (hn : neg = true → xs ≠ []) (hl : xs.length ≤ 100000) :
  Calls Tryz.prog 151 #[v, .bool neg, .int .i64 10] w fun e w' => ∃ v, e = .returned v ∧ BytesV w' v (itoa (if neg then - nv xs else nv xs)) ∧ Below w.heap.size w w' := by
 by_cases h0 : xs = []
 ·
  subst h0
  obtain ⟨A, c, rfl, _⟩ := hv
  refine (text_zero neg A c w).mono ?_
  rintro e w' ⟨v, rfl, h1, h2⟩
  refine ⟨v, rfl, ?_, h2⟩
  have : itoa (if neg then - nv [] else nv []) = [48] := by
   cases neg <;> simp [nv, itoa_pos, decDigits_zero]
  rw [this]; exact h1
 ·
  exact text_pos neg v xs w hv hN h0 hl
end Go.Proofs.YtaiidipcmnejoaaGreatDoor.IntW

/- The walks of package big: the text of a whole number in memory. -/
namespace Go.Proofs.YtaiidipcmnejoaaGreatDoor.IntW
open Go.RowKit Go.Lib Go.Proofs.YtaiidipcmnejoaaGreatDoorW.PrintWords Go.Proofs.YtaiidipcmnejoaaGreatDoorW.PrintLast Go.Proofs.YtaiidipcmnejoaaGreatDoorW.PrintMore
open Go.Proofs.YtaiidipcmnejoaaGreatDoor.Nt Go.Proofs.YtaiidipcmnejoaaGreatDoor.Dec
open Go.Proofs.YtaiidipcmnejoaaGreatDoor.Spec (S S_list S_toList S_size S_of S_ext)

theorem str_bI (l : List UInt8) : strOfNums (bI l) = S l := by
 apply S_ext
 rw [strOfNums_data, bI, List.map_map]
 conv => rhs; rw [← List.map_id l]
 refine List.map_congr_left fun c _ => ?_
 simp
set_option maxRecDepth 100000 in
set_option maxHeartbeats 1000000 in
theorem intText_any (g : Nat) (n : Int) (L : Nat) (w : World) (h : IntAt w g n L) (hL : L ≤ 100000) :
  Calls Tryz.prog 81 #[.pointer (some ⟨g, 0, none⟩), .int .i64 10] w fun e w' => e = .returned (.string (S (itoa n))) ∧ Below w.heap.size w w' := by
 obtain ⟨neg, xs, sv, h1, h2, h3, h4, h5, h6⟩ := h
 obtain ⟨A, c, rfl, hc, hC⟩ := h2
 obtain ⟨y0, y1, y2, y3⟩ := two_cells h1
 have HC := Lib.hid (fun k : Nat => (text_any neg (.slice A xs.length c) xs (w.drewN k) (NatV.drewN ⟨A, c, rfl, hc, hC⟩ k) h3 h5 (by omega)).mono (fun e w' ⟨v, he, hB, hb⟩ => (⟨v, he, h4 ▸ hB, hb⟩ : ∃ v, e = Ending.returned v ∧ BytesV w' v (itoa n) ∧ Below (w.drewN k).heap.size (w.drewN k) w')))
 clear h1 hc hC h3 h4 h5 h6
 go_enter Tryz.func81, Tryz.ntmps81
 go_wp2_with fail
 go_region_with (go_at_call 151; refine (HC.out 1).mono ?_; rintro e w1 ⟨v, rfl, hB, hb⟩; obtain ⟨A', c', rfl, hC'⟩ := hB; have hcv := Kd.C_string (c := c') Tryz.underlying49 Tryz.underlying5 Tryz.underlying9 hC'; rw [str_bI] at hcv; have HB := Lib.hid ((pw_below_drewN (Below.refl w.heap.size w) 1).trans hb); clear hC' hb)
 all_goals
  go_wp2_with fail
  go_ret
  exact ⟨rfl, HB.out⟩
theorem string_any (g : Nat) (n : Int) (L : Nat) (w : World) (h : IntAt w g n L) (hL : L ≤ 100000) :
  Calls Tryz.prog 57 #[.pointer (some ⟨g, 0, none⟩)] w fun e w' => e = .returned (.string (S (itoa n))) ∧ Below w.heap.size w w' := by
 have HC := Lib.hid (intText_any g n L w h hL)
 clear h hL
 go_enter Tryz.func57, Tryz.ntmps57
 go_wp2_with fail
 refine HC.out.mono ?_
 rintro e w1 ⟨rfl, hb⟩
 have HB := Lib.hid hb; clear hb
 go_wp2_with fail
 go_ret
 exact ⟨rfl, HB.out⟩
end Go.Proofs.YtaiidipcmnejoaaGreatDoor.IntW

/- The walks of package big: SetString at a decimal text. -/
namespace Go.Proofs.YtaiidipcmnejoaaGreatDoor.IntW
open Go.RowKit Go.Lib Go.Proofs.YtaiidipcmnejoaaGreatDoorW.PrintWords Go.Proofs.YtaiidipcmnejoaaGreatDoorW.PrintLast Go.Proofs.YtaiidipcmnejoaaGreatDoorW.PrintMore
open Go.Proofs.YtaiidipcmnejoaaGreatDoor.Nt Go.Proofs.YtaiidipcmnejoaaGreatDoor.Dec
open Go.Proofs.YtaiidipcmnejoaaGreatDoor.Spec (S S_list S_toList S_size S_of S_ext)

theorem idx_S (l : List UInt8) (i : Nat) (hi : i < l.length) (w : World) : (Instr.index 9 (.string (S l)) (.int .i64 (i : Int))).run Tryz.prog w = .ok (.int .u8 ((l[i]).toNat : Int)) w := by
 rw [run_index_string w 9 (S l) .i64 _ Tryz.underlying9, dif_pos ⟨by omega, by rw [S_size]; omega⟩]
 rfl

set_option maxRecDepth 100000 in
set_option maxHeartbeats 2000000 in
theorem setString_true (g : Nat) (b0 : Bool) (a0 : Option Addr) (l0 k0 : Nat) (m : Nat) (hm : m ≠ 0) (s : ByteArray) (hs : s = S (45 :: decDigits m)) (hL : (decDigits m).length ≤ 100000) (w : World) (hg : w.heap[g]? = some (.cells #[.bool b0, .slice a0 l0 k0] 97 (0, 0))) :
  Calls Tryz.prog 170 #[.pointer (some ⟨g, 0, none⟩), .string s, .int .i64 10] w fun e w' => e = .returned (.tuple #[.pointer (some ⟨g, 0, none⟩), .bool true]) ∧ IntAt w' g (-(m : Int)) (decDigits m).length ∧ w.grownBy w' (some g) := by
 obtain ⟨dl, hdl⟩ : ∃ dl : List UInt8, dl = decDigits m := ⟨_, rfl⟩
 have hdig : isDig dl := by rw [hdl]; exact isDig_decDigits m
 have hbe : be dl = m := by rw [hdl]; exact be_decDigits m
 have hne : dl ≠ [] := by rw [hdl]; exact decDigits_ne_nil m
 rw [← hdl] at hs hL ⊢
 clear hdl
 have hsl : s.toList = 45 :: dl := by rw [hs, S_toList]
 have hsz : s.size = dl.length + 1 := by rw [hs, S_size]; simp
 have hpos : 0 < dl.length := by
  cases dl with
  | nil => exact absurd rfl hne
  | cons _ _ => simp
 have e1 : s.toList.isEmpty = false := by rw [hsl]; rfl
 have e2 : ¬ s.toList = [] := by rw [hsl]; simp
 have e3 : (s.toList == []) = false := by rw [beq_eq_false_iff_ne]; exact e2
 have hidx : ∀ (i : Nat) (hi : i < dl.length) (wx : World), (Instr.index 9 (.string s) (.int .i64 ((i : Int) + 1))).run Tryz.prog wx = .ok (.int .u8 ((dl[i]).toNat : Int)) wx := by
  intro i hi wx
  have := idx_S (45 :: dl) (i + 1) (by simp; omega) wx
  rw [hs]
  simpa using this
 have h0 : ∀ wx : World, (Instr.index 9 (.string s) (.int .i64 0)).run Tryz.prog wx = .ok (.int .u8 45) wx := by
  intro wx
  have := idx_S (45 :: dl) 0 (by simp) wx
  rw [hs]
  simpa using this
 have HDX := Lib.hid hidx; clear hidx
 have HG := Lib.hid hg; clear hg
 have HSZ := Lib.hid hsz
 have HP := Lib.hid hpos
 have HDIG := Lib.hid hdig
 have HBE := Lib.hid hbe
 have HLL := Lib.hid hL
 clear hs hsl hsz hpos hdig hbe hL hne
 go_enter Tryz.func170, Tryz.ntmps170
 go_wp2_with fail
 go_loopw [9, 11, 13, 14, 15] (fun v9 v11 v13 v14 v15 wx => ∃ (j : Nat) (p : Int) (ds : List Int), v9 = .int .i64 ((j : Int) + 1) ∧ v11 = .int .i64 j ∧ v13 = .int .u8 p ∧ v14 = .bool false ∧ Aside0 (j ≤ dl.length ∧ (p = 46 ∨ p = 48)) ∧ Aside0 (NatV wx v15 ds ∧ isN ds ∧ nv ds = be (dl.take j) ∧ ds.length ≤ j) ∧ Aside0 (Below w.heap.size w wx)) (fun _ v11 _ _ _ _ => dl.length - (intOf v11).toNat)
 case atStart => exact ⟨0, 46, [], rfl, rfl, rfl, rfl, ⟨Nat.zero_le _, .inl rfl⟩, ⟨NatV.nil w, isN_nil, rfl, Nat.le_refl _⟩, ⟨Below.refl _ _⟩⟩
 case round =>
  obtain ⟨j, p, ds, rfl, rfl, rfl, rfl, HJ, HV, HB⟩ := hrel
  by_cases hlt : j < dl.length
  ·
   have hsz2 : decide (j + 1 < s.size) = true := decide_eq_true (by have := HSZ.out; omega)
   have hsz3 : decide (((j : Int) + 1) < (s.size : Int)) = true := decide_eq_true (by have := HSZ.out; omega)
   have hjx := HDX.out j hlt
   have hcr := HDIG.out _ (List.getElem_mem hlt)
   have HC := Lib.hid (rfl : ((dl[j]).toNat : Int) = ((dl[j]).toNat : Int))
   obtain ⟨c, hc⟩ : ∃ c : Int, c = ((dl[j]).toNat : Int) := ⟨_, rfl⟩
   rw [← hc] at hjx
   have hc1 : 48 ≤ c := by omega
   have hc2 : c ≤ 57 := by omega
   have g1 : (c == 95) = false := by rw [beq_eq_false_iff_ne]; omega
   have g2 : decide (48 ≤ c) = true := decide_eq_true hc1
   have g3 : decide (c ≤ 57) = true := decide_eq_true hc2
   have HCC := Lib.hid hc
   clear hc hcr HC
   obtain ⟨⟨A1, cc, rfl, hcc, hCC⟩, hN, hnv, hle⟩ := HV.out
   have hvv : NatV wr (.slice A1 ds.length cc) ds := ⟨A1, cc, rfl, hcc, hCC⟩
   have hjl : (j : Int) ≤ 100000 := by have := HJ.out.1; have := HLL.out; omega
   clear hcc hCC
   have HV2 := Aside0.mk (show NatV wr (.slice A1 ds.length cc) ds ∧ isN ds ∧ nv ds = be (dl.take j) ∧ ds.length ≤ j from ⟨hvv, hN, hnv, hle⟩)
   clear hvv hN hnv hle HV
   go_wp2_with fail
   refine (c_mulAdd _ ds 10 (c - 48) _ HV2.out.1 HV2.out.2.1 (by omega) (by omega) (by omega) (by omega) (by have := HV2.out.2.2.2; omega)).mono ?_
   rintro e w1 ⟨v', r, rfl, hV1, hN1, hnv1, hl1, hb1⟩
   have HN1 : Aside0 (NatV w1 v' r ∧ isN r ∧ nv r = be (dl.take (j + 1)) ∧ r.length ≤ j + 1) := ⟨⟨hV1, hN1, by
    rw [hnv1, HV2.out.2.2.1, List.take_add_one, List.getElem?_eq_getElem hlt]
    show _ = ((be (dl.take j ++ [dl[j]]) : Nat) : Int)
    rw [be_snoc]
    have h1 := HCC.out
    have h2 := HDIG.out _ (List.getElem_mem hlt)
    omega, by have := HV2.out.2.2.2; omega⟩⟩
   have HB1 := Aside0.mk (below_step HB.out hb1)
   have HJ1 : Aside0 (j + 1 ≤ dl.length) := ⟨hlt⟩
   clear hV1 hN1 hnv1 hl1 hb1 HB
   go_wp2_with fail
   go_roundw
   case rel => exact ⟨j + 1, 48, r, by go_num, by go_num, rfl, rfl, ⟨HJ1.out, .inr rfl⟩, HN1, HB1⟩
   case measure => have := HJ1.out; simp [intOf]; omega
  ·
   have hj : j = dl.length := by have := HJ.out.1; omega
   have hsz2 : decide (j + 1 < s.size) = false := decide_eq_false (by have := HSZ.out; omega)
   have hsz3 : decide (((j : Int) + 1) < (s.size : Int)) = false := decide_eq_false (by have := HSZ.out; omega)
   obtain ⟨⟨A1, cc, rfl, hcc, hCC⟩, hN, hnv, hle⟩ := HV.out
   have hnv2 : nv ds = (m : Int) := by rw [hnv, hj, List.take_length, HBE.out]
   have HLE : Hid (ds.length ≤ dl.length) := Lib.hid (by omega)
   have k1 : (p == 95) = false := by rw [beq_eq_false_iff_ne]; have := HJ.out.2; omega
   have k2 : ((j : Int) == 0) = false := by rw [beq_eq_false_iff_ne]; have := HP.out; omega
   have k3 : (j == 0) = false := by rw [beq_eq_false_iff_ne]; have := HP.out; omega
   have hVV : NatV wr (.slice A1 ds.length cc) ds := ⟨A1, cc, rfl, hcc, hCC⟩
   have hgw : wr.heap[g]? = some (.cells #[.bool b0, .slice a0 l0 k0] 97 (0, 0)) := by rw [HB.out.block g (lt_of_heap HG.out)]; exact HG.out
   obtain ⟨q0, q1, q2, q3⟩ := two_cells hgw
   have hw1 : ∀ (v : Value), wr.grownBy ((wr.setCell ⟨g, 1, none⟩ v).setCell ⟨g, 0, none⟩ (.bool true)) (some g) := fun v => grown_set (grown_set (World.grownBy.refl wr _) 1 v) 0 _
   have FF := Lib.hid (And.intro (show IntAt ((wr.setCell ⟨g, 1, none⟩ (.slice A1 ds.length cc)).setCell ⟨g, 0, none⟩ (.bool true)) g (-(m : Int)) dl.length from
    ⟨true, ds, _, set_both hgw _ _, NatV.move hVV (int_ne hgw (hw1 _)), hN, by simp [hnv2], (fun _ e => by rw [e] at hnv2; simp [nv] at hnv2; omega), HLE.out⟩)
    (grown_set (grown_set (grown_of_below HB.out (some g)) 1 (.slice A1 ds.length cc)) 0 (.bool true)))
   have hlp : 0 < ds.length := by
    by_cases h : ds = []
    ·
     rw [h] at hnv2; simp [nv] at hnv2; omega
    ·
     exact List.length_pos_iff.2 h
   have k4 : decide (0 < ds.length) = true := decide_eq_true hlp
   have k5 : decide (0 < (ds.length : Int)) = true := decide_eq_true (by omega)
   clear hcc hCC hN hnv hnv2 hle hVV hgw hw1 hj hlt HV HB HJ
   clear hlp
   go_wp2_with fail
   go_ret2
   exact ⟨rfl, FF.out⟩

set_option maxRecDepth 100000 in
set_option maxHeartbeats 2000000 in
theorem setString_false (g : Nat) (b0 : Bool) (a0 : Option Addr) (l0 k0 : Nat) (m : Nat) (s : ByteArray) (hs : s = S (decDigits m)) (hL : (decDigits m).length ≤ 100000) (w : World) (hg : w.heap[g]? = some (.cells #[.bool b0, .slice a0 l0 k0] 97 (0, 0))) :
  Calls Tryz.prog 170 #[.pointer (some ⟨g, 0, none⟩), .string s, .int .i64 10] w fun e w' => e = .returned (.tuple #[.pointer (some ⟨g, 0, none⟩), .bool true]) ∧ IntAt w' g ((m : Int)) (decDigits m).length ∧ w.grownBy w' (some g) := by
 obtain ⟨dl, hdl⟩ : ∃ dl : List UInt8, dl = decDigits m := ⟨_, rfl⟩
 have hdig : isDig dl := by rw [hdl]; exact isDig_decDigits m
 have hbe : be dl = m := by rw [hdl]; exact be_decDigits m
 have hne : dl ≠ [] := by rw [hdl]; exact decDigits_ne_nil m
 rw [← hdl] at hs hL ⊢
 clear hdl
 have hsl : s.toList = dl := by rw [hs, S_toList]
 have hsz : s.size = dl.length + 0 := by rw [hs, S_size]; rfl
 have hpos : 0 < dl.length := by
  cases dl with
  | nil => exact absurd rfl hne
  | cons _ _ => simp
 have e1 : s.toList.isEmpty = false := by rw [hsl]; cases dl with | nil => exact absurd rfl hne | cons _ _ => rfl
 have e2 : ¬ s.toList = [] := by rw [hsl]; exact hne
 have e3 : (s.toList == []) = false := by rw [beq_eq_false_iff_ne]; exact e2
 have hidx : ∀ (i : Nat) (hi : i < dl.length) (wx : World), (Instr.index 9 (.string s) (.int .i64 (i : Int))).run Tryz.prog wx = .ok (.int .u8 ((dl[i]).toNat : Int)) wx := by
  intro i hi wx
  have := idx_S (dl) i hi wx
  rw [hs]
  exact this
 have h0 : ∀ wx : World, (Instr.index 9 (.string s) (.int .i64 0)).run Tryz.prog wx = .ok (.int .u8 ((dl[0]'hpos).toNat : Int)) wx := by
  intro wx
  have := idx_S (dl) 0 hpos wx
  rw [hs]
  exact this
 have HDX := Lib.hid hidx; clear hidx
 have HG := Lib.hid hg; clear hg
 have HSZ := Lib.hid hsz
 have HP := Lib.hid hpos
 have HDIG := Lib.hid hdig
 have HBE := Lib.hid hbe
 have HLL := Lib.hid hL
 obtain ⟨c0, hc0⟩ : ∃ c : Int, c = ((dl[0]'hpos).toNat : Int) := ⟨_, rfl⟩
 rw [← hc0] at h0
 have hcr := hdig _ (List.getElem_mem hpos)
 have f1 : (c0 == 45) = false := by rw [beq_eq_false_iff_ne]; omega
 have f2 : (c0 == 43) = false := by rw [beq_eq_false_iff_ne]; omega
 clear hcr hc0
 clear hs hsl hsz hpos hdig hbe hL hne
 go_enter Tryz.func170, Tryz.ntmps170
 go_wp2_with fail
 go_loopw [9, 11, 13, 14, 15] (fun v9 v11 v13 v14 v15 wx => ∃ (j : Nat) (p : Int) (ds : List Int), v9 = .int .i64 (j : Int) ∧ v11 = .int .i64 j ∧ v13 = .int .u8 p ∧ v14 = .bool false ∧ Aside0 (j ≤ dl.length ∧ (p = 46 ∨ p = 48)) ∧ Aside0 (NatV wx v15 ds ∧ isN ds ∧ nv ds = be (dl.take j) ∧ ds.length ≤ j) ∧ Aside0 (Below w.heap.size w wx)) (fun _ v11 _ _ _ _ => dl.length - (intOf v11).toNat)
 case atStart => exact ⟨0, 46, [], rfl, rfl, rfl, rfl, ⟨Nat.zero_le _, .inl rfl⟩, ⟨NatV.nil w, isN_nil, rfl, Nat.le_refl _⟩, ⟨Below.refl _ _⟩⟩
 case round =>
  obtain ⟨j, p, ds, rfl, rfl, rfl, rfl, HJ, HV, HB⟩ := hrel
  by_cases hlt : j < dl.length
  ·
   have hsz2 : decide (j < s.size) = true := decide_eq_true (by have := HSZ.out; omega)
   have hsz3 : decide ((j : Int) < (s.size : Int)) = true := decide_eq_true (by have := HSZ.out; omega)
   have hjx := HDX.out j hlt
   have hcr := HDIG.out _ (List.getElem_mem hlt)
   have HC := Lib.hid (rfl : ((dl[j]).toNat : Int) = ((dl[j]).toNat : Int))
   obtain ⟨c, hc⟩ : ∃ c : Int, c = ((dl[j]).toNat : Int) := ⟨_, rfl⟩
   rw [← hc] at hjx
   have hc1 : 48 ≤ c := by omega
   have hc2 : c ≤ 57 := by omega
   have g1 : (c == 95) = false := by rw [beq_eq_false_iff_ne]; omega
   have g2 : decide (48 ≤ c) = true := decide_eq_true hc1
   have g3 : decide (c ≤ 57) = true := decide_eq_true hc2
   have HCC := Lib.hid hc
   clear hc hcr HC
   obtain ⟨⟨A1, cc, rfl, hcc, hCC⟩, hN, hnv, hle⟩ := HV.out
   have hvv : NatV wr (.slice A1 ds.length cc) ds := ⟨A1, cc, rfl, hcc, hCC⟩
   have hjl : (j : Int) ≤ 100000 := by have := HJ.out.1; have := HLL.out; omega
   clear hcc hCC
   have HV2 := Aside0.mk (show NatV wr (.slice A1 ds.length cc) ds ∧ isN ds ∧ nv ds = be (dl.take j) ∧ ds.length ≤ j from ⟨hvv, hN, hnv, hle⟩)
   clear hvv hN hnv hle HV
   go_wp2_with fail
   refine (c_mulAdd _ ds 10 (c - 48) _ HV2.out.1 HV2.out.2.1 (by omega) (by omega) (by omega) (by omega) (by have := HV2.out.2.2.2; omega)).mono ?_
   rintro e w1 ⟨v', r, rfl, hV1, hN1, hnv1, hl1, hb1⟩
   have HN1 : Aside0 (NatV w1 v' r ∧ isN r ∧ nv r = be (dl.take (j + 1)) ∧ r.length ≤ j + 1) := ⟨⟨hV1, hN1, by
    rw [hnv1, HV2.out.2.2.1, List.take_add_one, List.getElem?_eq_getElem hlt]
    show _ = ((be (dl.take j ++ [dl[j]]) : Nat) : Int)
    rw [be_snoc]
    have h1 := HCC.out
    have h2 := HDIG.out _ (List.getElem_mem hlt)
    omega, by have := HV2.out.2.2.2; omega⟩⟩
   have HB1 := Aside0.mk (below_step HB.out hb1)
   have HJ1 : Aside0 (j + 1 ≤ dl.length) := ⟨hlt⟩
   clear hV1 hN1 hnv1 hl1 hb1 HB
   go_wp2_with fail
   go_roundw
   case rel => exact ⟨j + 1, 48, r, by go_num, by go_num, rfl, rfl, ⟨HJ1.out, .inr rfl⟩, HN1, HB1⟩
   case measure => have := HJ1.out; simp [intOf]; omega
  ·
   have hj : j = dl.length := by have := HJ.out.1; omega
   have hsz2 : decide (j < s.size) = false := decide_eq_false (by have := HSZ.out; omega)
   have hsz3 : decide ((j : Int) < (s.size : Int)) = false := decide_eq_false (by have := HSZ.out; omega)
   obtain ⟨⟨A1, cc, rfl, hcc, hCC⟩, hN, hnv, hle⟩ := HV.out
   have hnv2 : nv ds = (m : Int) := by rw [hnv, hj, List.take_length, HBE.out]
   have HLE : Hid (ds.length ≤ dl.length) := Lib.hid (by omega)
   have k1 : (p == 95) = false := by rw [beq_eq_false_iff_ne]; have := HJ.out.2; omega
   have k2 : ((j : Int) == 0) = false := by rw [beq_eq_false_iff_ne]; have := HP.out; omega
   have k3 : (j == 0) = false := by rw [beq_eq_false_iff_ne]; have := HP.out; omega
   have hVV : NatV wr (.slice A1 ds.length cc) ds := ⟨A1, cc, rfl, hcc, hCC⟩
   have hgw : wr.heap[g]? = some (.cells #[.bool b0, .slice a0 l0 k0] 97 (0, 0)) := by rw [HB.out.block g (lt_of_heap HG.out)]; exact HG.out
   obtain ⟨q0, q1, q2, q3⟩ := two_cells hgw
   have hw1 : ∀ (v : Value), wr.grownBy ((wr.setCell ⟨g, 1, none⟩ v).setCell ⟨g, 0, none⟩ (.bool false)) (some g) := fun v => grown_set (grown_set (World.grownBy.refl wr _) 1 v) 0 _
   have FF := Lib.hid (And.intro (show IntAt ((wr.setCell ⟨g, 1, none⟩ (.slice A1 ds.length cc)).setCell ⟨g, 0, none⟩ (.bool false)) g ((m : Int)) dl.length from
    ⟨false, ds, _, set_both hgw _ _, NatV.move hVV (int_ne hgw (hw1 _)), hN, by simp [hnv2], (fun e => by cases e), HLE.out⟩)
    (grown_set (grown_set (grown_of_below HB.out (some g)) 1 (.slice A1 ds.length cc)) 0 (.bool false)))



   clear hcc hCC hN hnv hnv2 hle hVV hgw hw1 hj hlt HV HB HJ

   go_wp2_with fail
   go_ret2
   exact ⟨rfl, FF.out⟩
end Go.Proofs.YtaiidipcmnejoaaGreatDoor.IntW
