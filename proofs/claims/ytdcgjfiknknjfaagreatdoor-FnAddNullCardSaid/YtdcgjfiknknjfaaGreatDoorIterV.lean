/-
slices.Sorted(maps.Keys(m)) at this program (printed by the kit's lay-plain and lay-iter).
-/
import Derived.Test.YtdcgjfiknknjfaaGreatDoorProg
import Derived.Shelf.SlIter.Nil
import Derived.Shelf.SortM.Plain
import Derived.Shelf.SortM.SortNone
set_option linter.unusedSimpArgs false
set_option linter.unusedVariables false
namespace Go.Proofs
open Go.Shelf
def Tryz.keys132_ren : Go.Shelf.Ren := ⟨fun | 7 => 132 | 10 => 153 | n => n, fun | 23 => 65 | 26 => 9 | 3 => 20 | 28 => 130 | 0 => 0 | 27 => 129 | 33 => 123 | 4 => 4 | n => n, fun | n => n⟩
theorem Tryz.keys132 : Go.Proofs.SlLaysZ.n7 Tryz.prog Tryz.keys132_ren := {
  mixed := by kernel_rfl
  f7 := ⟨Tryz.f132.name, by decide, Tryz.func132.trans (congrArg some (by kernel_rfl))⟩
  f10 := ⟨Tryz.f153.name, by decide, Tryz.func153.trans (congrArg some (by kernel_rfl))⟩
  t0 := Tryz.underlying0
  a0 := Tryz.isAgg0
  z0 := Tryz.sizeOf0
  v0 := Tryz.zeroValue0
  t4 := Tryz.underlying4
  a4 := Tryz.isAgg4
  z4 := Tryz.sizeOf4
  v4 := Tryz.zeroValue4
  t23 := Tryz.underlying65
  a23 := Tryz.isAgg65
  z23 := Tryz.sizeOf65
  v23 := Tryz.zeroValue65
  t26 := Tryz.underlying9
  a26 := Tryz.isAgg9
  z26 := Tryz.sizeOf9
  v26 := Tryz.zeroValue9
  t27 := Tryz.underlying129
  a27 := Tryz.isAgg129
  z27 := Tryz.sizeOf129
  v27 := Tryz.zeroValue129
  t28 := Tryz.underlying130
  a28 := Tryz.isAgg130
  z28 := Tryz.sizeOf130
  v28 := Tryz.zeroValue130
  t33 := Tryz.underlying123
  a33 := Tryz.isAgg123
  z33 := Tryz.sizeOf123
  v33 := Tryz.zeroValue123 }
def Tryz.sorted131_ren : Go.Shelf.Ren := ⟨fun | 6 => 131 | 8 => 151 | 9 => 152 | 11 => 176 | 13 => 178 | 12 => 177 | 23 => 201 | 24 => 202 | 14 => 192 | 15 => 193 | 16 => 194 | 17 => 195 | 18 => 196 | 19 => 197 | 20 => 198 | 21 => 199 | 22 => 200 | 25 => 213 | 26 => 214 | 27 => 215 | 28 => 216 | 29 => 217 | 30 => 127 | 31 => 225 | n => n, fun | 26 => 9 | 28 => 130 | 24 => 24 | 0 => 0 | 3 => 3 | 37 => 151 | 48 => 144 | 50 => 152 | 4 => 4 | 40 => 193 | 39 => 192 | 45 => 197 | 5 => 5 | 9 => 9 | 51 => 213 | 55 => 216 | 57 => 225 | 58 => 226 | 33 => 123 | n => n, fun | n => n⟩
theorem Tryz.sorted131 : Go.Proofs.SlLaysZ.n6 Tryz.prog Tryz.sorted131_ren := {
  mixed := by kernel_rfl
  f6 := ⟨Tryz.f131.name, by decide, Tryz.func131.trans (congrArg some (by kernel_rfl))⟩
  f8 := ⟨Tryz.f151.name, by decide, Tryz.func151.trans (congrArg some (by kernel_rfl))⟩
  f11 := ⟨Tryz.f176.name, by decide, Tryz.func176.trans (congrArg some (by kernel_rfl))⟩
  t0 := Tryz.underlying0
  a0 := Tryz.isAgg0
  z0 := Tryz.sizeOf0
  v0 := Tryz.zeroValue0
  t24 := Tryz.underlying24
  a24 := Tryz.isAgg24
  z24 := Tryz.sizeOf24
  v24 := Tryz.zeroValue24
  t26 := Tryz.underlying9
  a26 := Tryz.isAgg9
  z26 := Tryz.sizeOf9
  v26 := Tryz.zeroValue9
  t28 := Tryz.underlying130
  a28 := Tryz.isAgg130
  z28 := Tryz.sizeOf130
  v28 := Tryz.zeroValue130
  i26 := by kernel_rfl }
def Tryz.sort152_ren : Go.Shelf.Ren := ⟨fun | 6 => 152 | 8 => 178 | 9 => 177 | 19 => 201 | 20 => 202 | 21 => 192 | 22 => 193 | 23 => 194 | 24 => 195 | 25 => 196 | 26 => 197 | 27 => 198 | 28 => 199 | 29 => 200 | 36 => 213 | 31 => 214 | 32 => 215 | 37 => 216 | 38 => 217 | 39 => 127 | 41 => 225 | n => n, fun | 27 => 24 | 29 => 9 | 3 => 3 | 32 => 151 | 26 => 24 | 0 => 0 | 44 => 144 | 46 => 152 | 4 => 4 | 36 => 193 | 35 => 192 | 41 => 197 | 5 => 5 | 9 => 9 | 53 => 213 | 57 => 216 | 63 => 225 | 64 => 226 | n => n, fun | n => n⟩
theorem Tryz.sort152 : Go.Proofs.SlLaysM.n6 Tryz.prog Tryz.sort152_ren := {
  mixed := by kernel_rfl
  f6 := ⟨Tryz.f152.name, by decide, Tryz.func152.trans (congrArg some (by kernel_rfl))⟩
  f8 := Tryz.func178.trans (congrArg some (by kernel_rfl))
  f9 := ⟨Tryz.f177.name, by decide, Tryz.func177.trans (congrArg some (by kernel_rfl))⟩
  f19 := Tryz.func201.trans (congrArg some (by kernel_rfl))
  f20 := Tryz.func202.trans (congrArg some (by kernel_rfl))
  f21 := ⟨Tryz.f192.name, by decide, Tryz.func192.trans (congrArg some (by kernel_rfl))⟩
  f22 := ⟨Tryz.f193.name, by decide, Tryz.func193.trans (congrArg some (by kernel_rfl))⟩
  f23 := ⟨Tryz.f194.name, by decide, Tryz.func194.trans (congrArg some (by kernel_rfl))⟩
  f24 := ⟨Tryz.f195.name, by decide, Tryz.func195.trans (congrArg some (by kernel_rfl))⟩
  f25 := ⟨Tryz.f196.name, by decide, Tryz.func196.trans (congrArg some (by kernel_rfl))⟩
  f26 := ⟨Tryz.f197.name, by decide, Tryz.func197.trans (congrArg some (by kernel_rfl))⟩
  f27 := ⟨Tryz.f198.name, by decide, Tryz.func198.trans (congrArg some (by kernel_rfl))⟩
  f28 := ⟨Tryz.f199.name, by decide, Tryz.func199.trans (congrArg some (by kernel_rfl))⟩
  f29 := ⟨Tryz.f200.name, by decide, Tryz.func200.trans (congrArg some (by kernel_rfl))⟩
  f31 := Tryz.func214.trans (congrArg some (by kernel_rfl))
  f32 := Tryz.func215.trans (congrArg some (by kernel_rfl))
  f36 := ⟨Tryz.f213.name, by decide, Tryz.func213.trans (congrArg some (by kernel_rfl))⟩
  f37 := ⟨Tryz.f216.name, by decide, Tryz.func216.trans (congrArg some (by kernel_rfl))⟩
  f38 := ⟨Tryz.f217.name, by decide, Tryz.func217.trans (congrArg some (by kernel_rfl))⟩
  f39 := ⟨Tryz.f127.name, by decide, Tryz.func127.trans (congrArg some (by kernel_rfl))⟩
  f41 := ⟨Tryz.f225.name, by decide, Tryz.func225.trans (congrArg some (by kernel_rfl))⟩
  t0 := Tryz.underlying0
  a0 := Tryz.isAgg0
  z0 := Tryz.sizeOf0
  v0 := Tryz.zeroValue0
  t3 := Tryz.underlying3
  a3 := Tryz.isAgg3
  z3 := Tryz.sizeOf3
  v3 := Tryz.zeroValue3
  t4 := Tryz.underlying4
  a4 := Tryz.isAgg4
  z4 := Tryz.sizeOf4
  v4 := Tryz.zeroValue4
  t5 := Tryz.underlying5
  a5 := Tryz.isAgg5
  z5 := Tryz.sizeOf5
  v5 := Tryz.zeroValue5
  t9 := Tryz.underlying9
  a9 := Tryz.isAgg9
  z9 := Tryz.sizeOf9
  v9 := Tryz.zeroValue9
  t26 := Tryz.underlying24
  a26 := Tryz.isAgg24
  z26 := Tryz.sizeOf24
  v26 := Tryz.zeroValue24
  t27 := Tryz.underlying24
  a27 := Tryz.isAgg24
  z27 := Tryz.sizeOf24
  v27 := Tryz.zeroValue24
  t29 := Tryz.underlying9
  a29 := Tryz.isAgg9
  z29 := Tryz.sizeOf9
  v29 := Tryz.zeroValue9
  t32 := Tryz.underlying151
  a32 := Tryz.isAgg151
  z32 := Tryz.sizeOf151
  v32 := Tryz.zeroValue151
  t35 := Tryz.underlying192
  a35 := Tryz.isAgg192
  z35 := Tryz.sizeOf192
  v35 := Tryz.zeroValue192
  t36 := Tryz.underlying193
  a36 := Tryz.isAgg193
  z36 := Tryz.sizeOf193
  v36 := Tryz.zeroValue193
  t41 := Tryz.underlying197
  a41 := Tryz.isAgg197
  z41 := Tryz.sizeOf197
  v41 := Tryz.zeroValue197
  t44 := Tryz.underlying144
  a44 := Tryz.isAgg144
  z44 := Tryz.sizeOf144
  v44 := Tryz.zeroValue144
  t46 := Tryz.underlying152
  a46 := Tryz.isAgg152
  z46 := Tryz.sizeOf152
  v46 := Tryz.zeroValue152
  t53 := Tryz.underlying213
  a53 := Tryz.isAgg213
  z53 := Tryz.sizeOf213
  v53 := Tryz.zeroValue213
  t57 := Tryz.underlying216
  a57 := Tryz.isAgg216
  z57 := Tryz.sizeOf216
  v57 := Tryz.zeroValue216
  t63 := Tryz.underlying225
  a63 := Tryz.isAgg225
  z63 := Tryz.sizeOf225
  v63 := Tryz.zeroValue225
  t64 := Tryz.underlying226
  a64 := Tryz.isAgg226
  z64 := Tryz.sizeOf226
  v64 := Tryz.zeroValue226 }
open Go.RowKit Go.Maps Go.Sort Go.Shelf
/-- slices.Sort's two contracts at this dump, at the fence that asks nothing. -/
theorem Tryz.sorts131 (m : Nat) : AnyZ.SortsIn Tryz.prog Tryz.sorted131_ren Fence.wide m :=
  ⟨fun blk off cap ss W hH hblk hsz => callsIn_wide.2 (AnyM.slices_Sort_string Tryz.sort152 blk off cap ss W hH hblk hsz),
   fun p cap W => callsIn_wide.2 (AnyM.slices_Sort_string_none Tryz.sort152 p cap W)⟩

/-- **maps.Keys[map[string]any,string,any], at whatever map, the nil one too:** a function value over ONE NEW BLOCK, which holds the map. -/
theorem Tryz.maps_Keys_132 (mb : Option Nat) (W : World) : CallsIn Fence.wide 5 Tryz.prog 132 #[.map mb] W fun e w' => e = .returned (.func (.func 153) #[] #[.pointer (some ⟨W.heap.size, 0, none⟩)]) ∧ w' = W.alloc (.cells #[.map mb] 65) :=
  AnyZ.keys_in Tryz.keys132 Fence.wide 5 trivial rfl mb W

set_option maxHeartbeats 1000000 in
/-- **slices.Sorted[string] AT WHAT maps.Keys[map[string]any,string,any] HANDED BACK FOR A MAP THAT IS NOT nil** ('w': the world AHEAD of maps.Keys' call): A NEW SLICE THAT HOLDS THE MAP's KEYS, SORTED; nil just where it has none; nothing that lay before has turned. -/
theorem Tryz.slices_Sorted_keys_131_132 {H : Type} (b nn : Nat) (D0 : DataW H) (R : Value → Option (DataW H × List MemPlace)) (w : World) (hown : w.ownsMap Tryz.prog 9 R b nn D0) (hmax : Maps.size D0 ≤ maxLen) (hbytes : Maps.size D0 * 16 ≤ 140737488355328) :
    CallsIn Fence.wide 5 Tryz.prog 131 #[.func (.func 153) #[] #[.pointer (some ⟨w.heap.size, 0, none⟩)]] (w.alloc (.cells #[.map (some b)] 65)) fun e w' => ∃ (v : Value) (ss : List (List UInt8)), e = .returned v ∧ ss.Perm (strKeys D0) ∧
      w'.ownsRow (w.alloc (.cells #[.map (some b)] 65)).heap.size 9 1 v ss.length ((ss.mergeSort (fun x y => decide (x ≤ y))).map encStr) ∧ (v = .slice none 0 0 ↔ ss = []) ∧ Below (w.alloc (.cells #[.map (some b)] 65)).heap.size (w.alloc (.cells #[.map (some b)] 65)) w' := by
  have hbl := hown.lt
  have hseq : SeqGives Fence.wide 2 Tryz.prog 153 #[.pointer (some ⟨w.heap.size, 0, none⟩)] encStr (fun ss => ss.Perm (strKeys D0)) (Maps.size D0) (w.alloc (.cells #[.map (some b)] 65)) :=
    AnyZ.keys_gives (ρ := Tryz.keys132_ren) { Tryz.keys132 with } Fence.wide _ trivial rfl (by omega) w.heap.size b nn D0 _ (by simp) (by simp) (by
      obtain ⟨es, clock, hb, Ft, hs, hD⟩ := hown
      exact ⟨es, clock, (Below.heap_alloc _ _ b hbl).trans hb, Ft, hs, hD⟩)
  exact AnyZ.sorted_in Tryz.sorted131 Fence.wide 5 trivial trivial trivial trivial rfl (by omega) (Tryz.sorts131 _) (enters_of Tryz.func152 (by kernel_rfl) rfl) 153 #[.pointer (some ⟨w.heap.size, 0, none⟩)] trivial (enters_of Tryz.func153 (by kernel_rfl) rfl) _ _ hmax hbytes _ hseq

end Go.Proofs
