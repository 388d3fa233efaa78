/-
  DERIVED: THE SHELF's CONTRACTS AT THIS DUMP, IN PLAIN WORDS (tools/lay-plain.mjs out of 'YtcoahpcjhhnkkaaGreatDoorShelfS.lean', which tools/lay-shelf.mjs wrote): THE SAME DECLARATIONS UNDER THE SAME NAMES: 'import', 'namespace', 'open', 'def', 'theorem' AND NOTHING ELSE: no command of the shelf's: FOR A HAND-IN. Each laying: the table of numbers ('.._ren') and one theorem, a field a fact of the dump's own or the kernel's comparison; each contract: ONE APPLICATION.
-/
import Derived.Test.YtcoahpcjhhnkkaaGreatDoorProg
import Derived.Shelf.Sort.Plain
namespace Go.Proofs
open Go.Shelf
def Tryz.laysSort_ren : Go.Shelf.Ren := ⟨fun | 192 => 151 | 190 => 178 | 125 => 200 | 258 => 199 | 128 => 226 | 129 => 227 | 302 => 217 | 303 => 218 | 304 => 219 | 305 => 220 | 306 => 221 | 307 => 222 | 308 => 223 | 309 => 224 | 310 => 225 | 333 => 236 | 329 => 237 | 330 => 238 | 334 => 239 | 335 => 240 | 336 => 101 | 344 => 257 | n => n, fun | 31 => 24 | 0 => 0 | 9 => 9 | 3 => 3 | 46 => 160 | 51 => 173 | 53 => 187 | 4 => 4 | 183 => 241 | 182 => 240 | 131 => 64 | 5 => 5 | 218 => 255 | 222 => 258 | 228 => 284 | 229 => 285 | n => n, fun | n => n⟩
theorem Tryz.laysSort : Go.Proofs.Lays.n192 Tryz.prog Tryz.laysSort_ren := {
  mixed := by kernel_rfl
  f125 := Tryz.func200.trans (congrArg some (by kernel_rfl))
  f128 := Tryz.func226.trans (congrArg some (by kernel_rfl))
  f129 := Tryz.func227.trans (congrArg some (by kernel_rfl))
  f190 := Tryz.func178.trans (congrArg some (by kernel_rfl))
  f192 := Tryz.func151.trans (congrArg some (by kernel_rfl))
  f258 := Tryz.func199.trans (congrArg some (by kernel_rfl))
  f302 := Tryz.func217.trans (congrArg some (by kernel_rfl))
  f303 := Tryz.func218.trans (congrArg some (by kernel_rfl))
  f304 := Tryz.func219.trans (congrArg some (by kernel_rfl))
  f305 := Tryz.func220.trans (congrArg some (by kernel_rfl))
  f306 := Tryz.func221.trans (congrArg some (by kernel_rfl))
  f307 := Tryz.func222.trans (congrArg some (by kernel_rfl))
  f308 := Tryz.func223.trans (congrArg some (by kernel_rfl))
  f309 := Tryz.func224.trans (congrArg some (by kernel_rfl))
  f310 := Tryz.func225.trans (congrArg some (by kernel_rfl))
  f329 := Tryz.func237.trans (congrArg some (by kernel_rfl))
  f330 := Tryz.func238.trans (congrArg some (by kernel_rfl))
  f333 := Tryz.func236.trans (congrArg some (by kernel_rfl))
  f334 := Tryz.func239.trans (congrArg some (by kernel_rfl))
  f335 := Tryz.func240.trans (congrArg some (by kernel_rfl))
  f336 := Tryz.func101.trans (congrArg some (by kernel_rfl))
  f344 := Tryz.func257.trans (congrArg some (by kernel_rfl))
  t0 := Tryz.underlying0
  a0 := Tryz.isAgg0
  z0 := Tryz.sizeOf0
  v0 := Tryz.zeroValue0
  t3 := Tryz.underlying3
  a3 := Tryz.isAgg3
  z3 := Tryz.sizeOf3
  v3 := Tryz.zeroValue3
  t4 := Tryz.underlying4
  a4 := Tryz.isAgg4
  z4 := Tryz.sizeOf4
  v4 := Tryz.zeroValue4
  t5 := Tryz.underlying5
  a5 := Tryz.isAgg5
  z5 := Tryz.sizeOf5
  v5 := Tryz.zeroValue5
  t9 := Tryz.underlying9
  a9 := Tryz.isAgg9
  z9 := Tryz.sizeOf9
  v9 := Tryz.zeroValue9
  t31 := Tryz.underlying24
  a31 := Tryz.isAgg24
  z31 := Tryz.sizeOf24
  v31 := Tryz.zeroValue24
  t46 := Tryz.underlying160
  a46 := Tryz.isAgg160
  z46 := Tryz.sizeOf160
  v46 := Tryz.zeroValue160
  t51 := Tryz.underlying173
  a51 := Tryz.isAgg173
  z51 := Tryz.sizeOf173
  v51 := Tryz.zeroValue173
  t53 := Tryz.underlying187
  a53 := Tryz.isAgg187
  z53 := Tryz.sizeOf187
  v53 := Tryz.zeroValue187
  t131 := Tryz.underlying64
  a131 := Tryz.isAgg64
  z131 := Tryz.sizeOf64
  v131 := Tryz.zeroValue64
  t182 := Tryz.underlying240
  a182 := Tryz.isAgg240
  z182 := Tryz.sizeOf240
  v182 := Tryz.zeroValue240
  t183 := Tryz.underlying241
  a183 := Tryz.isAgg241
  z183 := Tryz.sizeOf241
  v183 := Tryz.zeroValue241
  t218 := Tryz.underlying255
  a218 := Tryz.isAgg255
  z218 := Tryz.sizeOf255
  v218 := Tryz.zeroValue255
  t222 := Tryz.underlying258
  a222 := Tryz.isAgg258
  z222 := Tryz.sizeOf258
  v222 := Tryz.zeroValue258
  t228 := Tryz.underlying284
  a228 := Tryz.isAgg284
  z228 := Tryz.sizeOf284
  v228 := Tryz.zeroValue284
  t229 := Tryz.underlying285
  a229 := Tryz.isAgg285
  z229 := Tryz.sizeOf285
  v229 := Tryz.zeroValue285 }
end Go.Proofs
