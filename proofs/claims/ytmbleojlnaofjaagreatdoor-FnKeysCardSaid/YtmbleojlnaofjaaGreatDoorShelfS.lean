/-
  DERIVED: THE SHELF's CONTRACTS AT THIS DUMP, IN PLAIN WORDS (tools/lay-plain.mjs out of 'TryzShelfS.lean', which tools/lay-shelf.mjs wrote): THE SAME DECLARATIONS UNDER THE SAME NAMES: 'import', 'namespace', 'open', 'def', 'theorem' AND NOTHING ELSE: no command of the shelf's: FOR A HAND-IN. Each laying: the table of numbers ('.._ren') and one theorem, a field a fact of the dump's own or the kernel's comparison; each contract: ONE APPLICATION.
-/
import Derived.Shelf.Sort.Plain
import Derived.Test.YtmbleojlnaofjaaGreatDoorProg
namespace Go.Proofs
open Go.Shelf
def Tryz.laysSort_ren : Go.Shelf.Ren := ⟨fun | 192 => 144 | 190 => 153 | 125 => 165 | 258 => 164 | 128 => 182 | 129 => 183 | 302 => 173 | 303 => 174 | 304 => 175 | 305 => 176 | 306 => 177 | 307 => 178 | 308 => 179 | 309 => 180 | 310 => 181 | 333 => 191 | 329 => 192 | 330 => 193 | 334 => 194 | 335 => 195 | 336 => 196 | 344 => 205 | n => n, fun | 31 => 24 | 0 => 0 | 9 => 9 | 3 => 3 | 46 => 63 | 51 => 193 | 53 => 93 | 4 => 4 | 183 => 187 | 182 => 186 | 131 => 73 | 5 => 5 | 218 => 205 | 222 => 209 | 228 => 229 | 229 => 230 | n => n, fun | n => n⟩
theorem Tryz.laysSort : Go.Proofs.Lays.n192 Tryz.prog Tryz.laysSort_ren := {
  mixed := by kernel_rfl
  f125 := Tryz.func165.trans (congrArg some (by kernel_rfl))
  f128 := Tryz.func182.trans (congrArg some (by kernel_rfl))
  f129 := Tryz.func183.trans (congrArg some (by kernel_rfl))
  f190 := Tryz.func153.trans (congrArg some (by kernel_rfl))
  f192 := Tryz.func144.trans (congrArg some (by kernel_rfl))
  f258 := Tryz.func164.trans (congrArg some (by kernel_rfl))
  f302 := Tryz.func173.trans (congrArg some (by kernel_rfl))
  f303 := Tryz.func174.trans (congrArg some (by kernel_rfl))
  f304 := Tryz.func175.trans (congrArg some (by kernel_rfl))
  f305 := Tryz.func176.trans (congrArg some (by kernel_rfl))
  f306 := Tryz.func177.trans (congrArg some (by kernel_rfl))
  f307 := Tryz.func178.trans (congrArg some (by kernel_rfl))
  f308 := Tryz.func179.trans (congrArg some (by kernel_rfl))
  f309 := Tryz.func180.trans (congrArg some (by kernel_rfl))
  f310 := Tryz.func181.trans (congrArg some (by kernel_rfl))
  f329 := Tryz.func192.trans (congrArg some (by kernel_rfl))
  f330 := Tryz.func193.trans (congrArg some (by kernel_rfl))
  f333 := Tryz.func191.trans (congrArg some (by kernel_rfl))
  f334 := Tryz.func194.trans (congrArg some (by kernel_rfl))
  f335 := Tryz.func195.trans (congrArg some (by kernel_rfl))
  f336 := Tryz.func196.trans (congrArg some (by kernel_rfl))
  f344 := Tryz.func205.trans (congrArg some (by kernel_rfl))
  t0 := Tryz.underlying0
  a0 := Tryz.isAgg0
  z0 := Tryz.sizeOf0
  v0 := Tryz.zeroValue0
  t3 := Tryz.underlying3
  a3 := Tryz.isAgg3
  z3 := Tryz.sizeOf3
  v3 := Tryz.zeroValue3
  t4 := Tryz.underlying4
  a4 := Tryz.isAgg4
  z4 := Tryz.sizeOf4
  v4 := Tryz.zeroValue4
  t5 := Tryz.underlying5
  a5 := Tryz.isAgg5
  z5 := Tryz.sizeOf5
  v5 := Tryz.zeroValue5
  t9 := Tryz.underlying9
  a9 := Tryz.isAgg9
  z9 := Tryz.sizeOf9
  v9 := Tryz.zeroValue9
  t31 := Tryz.underlying24
  a31 := Tryz.isAgg24
  z31 := Tryz.sizeOf24
  v31 := Tryz.zeroValue24
  t46 := Tryz.underlying63
  a46 := Tryz.isAgg63
  z46 := Tryz.sizeOf63
  v46 := Tryz.zeroValue63
  t51 := Tryz.underlying193
  a51 := Tryz.isAgg193
  z51 := Tryz.sizeOf193
  v51 := Tryz.zeroValue193
  t53 := Tryz.underlying93
  a53 := Tryz.isAgg93
  z53 := Tryz.sizeOf93
  v53 := Tryz.zeroValue93
  t131 := Tryz.underlying73
  a131 := Tryz.isAgg73
  z131 := Tryz.sizeOf73
  v131 := Tryz.zeroValue73
  t182 := Tryz.underlying186
  a182 := Tryz.isAgg186
  z182 := Tryz.sizeOf186
  v182 := Tryz.zeroValue186
  t183 := Tryz.underlying187
  a183 := Tryz.isAgg187
  z183 := Tryz.sizeOf187
  v183 := Tryz.zeroValue187
  t218 := Tryz.underlying205
  a218 := Tryz.isAgg205
  z218 := Tryz.sizeOf205
  v218 := Tryz.zeroValue205
  t222 := Tryz.underlying209
  a222 := Tryz.isAgg209
  z222 := Tryz.sizeOf209
  v222 := Tryz.zeroValue209
  t228 := Tryz.underlying229
  a228 := Tryz.isAgg229
  z228 := Tryz.sizeOf229
  v228 := Tryz.zeroValue229
  t229 := Tryz.underlying230
  a229 := Tryz.isAgg230
  z229 := Tryz.sizeOf230
  v229 := Tryz.zeroValue230 }
end Go.Proofs
