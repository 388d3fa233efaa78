/-
  DERIVED: THE SHELF's CONTRACTS AT THIS DUMP, IN PLAIN WORDS (tools/lay-plain.mjs out of 'YtbnfeicpjmfooaaGreatDoorShelfS.lean', which tools/lay-shelf.mjs wrote): THE SAME DECLARATIONS UNDER THE SAME NAMES: 'import', 'namespace', 'open', 'def', 'theorem' AND NOTHING ELSE: no command of the shelf's: FOR A HAND-IN. Each laying: the table of numbers ('.._ren') and one theorem, a field a fact of the dump's own or the kernel's comparison; each contract: ONE APPLICATION.
-/
import Derived.Shelf.Sort.Plain
import Derived.Test.YtbnfeicpjmfooaaGreatDoorProg
namespace Go.Proofs
open Go.Shelf
def Tryz.laysSort_ren : Go.Shelf.Ren := ⟨fun | 192 => 214 | 190 => 188 | 125 => 224 | 258 => 223 | 128 => 263 | 129 => 264 | 302 => 254 | 303 => 255 | 304 => 256 | 305 => 257 | 306 => 258 | 307 => 259 | 308 => 260 | 309 => 261 | 310 => 262 | 333 => 289 | 329 => 290 | 330 => 291 | 334 => 292 | 335 => 293 | 336 => 232 | 344 => 307 | n => n, fun | 31 => 24 | 0 => 0 | 9 => 9 | 3 => 3 | 46 => 172 | 51 => 245 | 53 => 204 | 4 => 4 | 183 => 298 | 182 => 297 | 131 => 76 | 5 => 5 | 218 => 321 | 222 => 324 | 228 => 338 | 229 => 339 | n => n, fun | n => n⟩
theorem Tryz.laysSort : Go.Proofs.Lays.n192 Tryz.prog Tryz.laysSort_ren := {
  mixed := by kernel_rfl
  f125 := Tryz.func224.trans (congrArg some (by kernel_rfl))
  f128 := Tryz.func263.trans (congrArg some (by kernel_rfl))
  f129 := Tryz.func264.trans (congrArg some (by kernel_rfl))
  f190 := Tryz.func188.trans (congrArg some (by kernel_rfl))
  f192 := Tryz.func214.trans (congrArg some (by kernel_rfl))
  f258 := Tryz.func223.trans (congrArg some (by kernel_rfl))
  f302 := Tryz.func254.trans (congrArg some (by kernel_rfl))
  f303 := Tryz.func255.trans (congrArg some (by kernel_rfl))
  f304 := Tryz.func256.trans (congrArg some (by kernel_rfl))
  f305 := Tryz.func257.trans (congrArg some (by kernel_rfl))
  f306 := Tryz.func258.trans (congrArg some (by kernel_rfl))
  f307 := Tryz.func259.trans (congrArg some (by kernel_rfl))
  f308 := Tryz.func260.trans (congrArg some (by kernel_rfl))
  f309 := Tryz.func261.trans (congrArg some (by kernel_rfl))
  f310 := Tryz.func262.trans (congrArg some (by kernel_rfl))
  f329 := Tryz.func290.trans (congrArg some (by kernel_rfl))
  f330 := Tryz.func291.trans (congrArg some (by kernel_rfl))
  f333 := Tryz.func289.trans (congrArg some (by kernel_rfl))
  f334 := Tryz.func292.trans (congrArg some (by kernel_rfl))
  f335 := Tryz.func293.trans (congrArg some (by kernel_rfl))
  f336 := Tryz.func232.trans (congrArg some (by kernel_rfl))
  f344 := Tryz.func307.trans (congrArg some (by kernel_rfl))
  t0 := Tryz.underlying0
  a0 := Tryz.isAgg0
  z0 := Tryz.sizeOf0
  v0 := Tryz.zeroValue0
  t3 := Tryz.underlying3
  a3 := Tryz.isAgg3
  z3 := Tryz.sizeOf3
  v3 := Tryz.zeroValue3
  t4 := Tryz.underlying4
  a4 := Tryz.isAgg4
  z4 := Tryz.sizeOf4
  v4 := Tryz.zeroValue4
  t5 := Tryz.underlying5
  a5 := Tryz.isAgg5
  z5 := Tryz.sizeOf5
  v5 := Tryz.zeroValue5
  t9 := Tryz.underlying9
  a9 := Tryz.isAgg9
  z9 := Tryz.sizeOf9
  v9 := Tryz.zeroValue9
  t31 := Tryz.underlying24
  a31 := Tryz.isAgg24
  z31 := Tryz.sizeOf24
  v31 := Tryz.zeroValue24
  t46 := Tryz.underlying172
  a46 := Tryz.isAgg172
  z46 := Tryz.sizeOf172
  v46 := Tryz.zeroValue172
  t51 := Tryz.underlying245
  a51 := Tryz.isAgg245
  z51 := Tryz.sizeOf245
  v51 := Tryz.zeroValue245
  t53 := Tryz.underlying204
  a53 := Tryz.isAgg204
  z53 := Tryz.sizeOf204
  v53 := Tryz.zeroValue204
  t131 := Tryz.underlying76
  a131 := Tryz.isAgg76
  z131 := Tryz.sizeOf76
  v131 := Tryz.zeroValue76
  t182 := Tryz.underlying297
  a182 := Tryz.isAgg297
  z182 := Tryz.sizeOf297
  v182 := Tryz.zeroValue297
  t183 := Tryz.underlying298
  a183 := Tryz.isAgg298
  z183 := Tryz.sizeOf298
  v183 := Tryz.zeroValue298
  t218 := Tryz.underlying321
  a218 := Tryz.isAgg321
  z218 := Tryz.sizeOf321
  v218 := Tryz.zeroValue321
  t222 := Tryz.underlying324
  a222 := Tryz.isAgg324
  z222 := Tryz.sizeOf324
  v222 := Tryz.zeroValue324
  t228 := Tryz.underlying338
  a228 := Tryz.isAgg338
  z228 := Tryz.sizeOf338
  v228 := Tryz.zeroValue338
  t229 := Tryz.underlying339
  a229 := Tryz.isAgg339
  z229 := Tryz.sizeOf339
  v229 := Tryz.zeroValue339 }
end Go.Proofs
