/-
  DERIVED: THE SHELF's CONTRACTS AT THIS DUMP, IN PLAIN WORDS (tools/lay-plain.mjs out of 'Qxb6629025aShelf.lean', which tools/lay-shelf.mjs wrote): THE SAME DECLARATIONS UNDER THE SAME NAMES: 'import', 'namespace', 'open', 'def', 'theorem' AND NOTHING ELSE: no command of the shelf's: FOR A HAND-IN. Each laying: the table of numbers ('.._ren') and one theorem, a field a fact of the dump's own or the kernel's comparison; each contract: ONE APPLICATION.
-/
import Derived.Shelf.Sort.Plain
import Derived.Test.Qxb6629025aProg
namespace Go.Proofs
open Go.Shelf
def Try.lays189_ren : Go.Shelf.Ren := ⟨fun | 189 => 18 | 125 => 20 | 257 => 19 | 128 => 30 | 129 => 31 | 294 => 21 | 295 => 22 | 296 => 23 | 297 => 24 | 298 => 25 | 299 => 26 | 216 => 27 | 300 => 28 | 301 => 29 | 328 => 32 | 329 => 33 | 330 => 34 | 331 => 35 | 332 => 36 | 215 => 37 | 343 => 38 | n => n, fun | 28 => 22 | 3 => 3 | 46 => 48 | 0 => 0 | 51 => 59 | 53 => 61 | 4 => 4 | 183 => 51 | 182 => 50 | 131 => 56 | 5 => 5 | 9 => 9 | 218 => 62 | 222 => 66 | 228 => 69 | 229 => 70 | n => n, fun | n => n⟩
theorem Try.lays189 : Go.Proofs.Lays.n189 Try.prog Try.lays189_ren := {
  mixed := by kernel_rfl
  f125 := Try.func20.trans (congrArg some (by kernel_rfl))
  f128 := Try.func30.trans (congrArg some (by kernel_rfl))
  f129 := Try.func31.trans (congrArg some (by kernel_rfl))
  f189 := Try.func18.trans (congrArg some (by kernel_rfl))
  f215 := Try.func37.trans (congrArg some (by kernel_rfl))
  f216 := Try.func27.trans (congrArg some (by kernel_rfl))
  f257 := Try.func19.trans (congrArg some (by kernel_rfl))
  f294 := Try.func21.trans (congrArg some (by kernel_rfl))
  f295 := Try.func22.trans (congrArg some (by kernel_rfl))
  f296 := Try.func23.trans (congrArg some (by kernel_rfl))
  f297 := Try.func24.trans (congrArg some (by kernel_rfl))
  f298 := Try.func25.trans (congrArg some (by kernel_rfl))
  f299 := Try.func26.trans (congrArg some (by kernel_rfl))
  f300 := Try.func28.trans (congrArg some (by kernel_rfl))
  f301 := Try.func29.trans (congrArg some (by kernel_rfl))
  f328 := Try.func32.trans (congrArg some (by kernel_rfl))
  f329 := Try.func33.trans (congrArg some (by kernel_rfl))
  f330 := Try.func34.trans (congrArg some (by kernel_rfl))
  f331 := Try.func35.trans (congrArg some (by kernel_rfl))
  f332 := Try.func36.trans (congrArg some (by kernel_rfl))
  f343 := Try.func38.trans (congrArg some (by kernel_rfl))
  t0 := Try.underlying0
  a0 := Try.isAgg0
  z0 := Try.sizeOf0
  v0 := Try.zeroValue0
  t3 := Try.underlying3
  a3 := Try.isAgg3
  z3 := Try.sizeOf3
  v3 := Try.zeroValue3
  t4 := Try.underlying4
  a4 := Try.isAgg4
  z4 := Try.sizeOf4
  v4 := Try.zeroValue4
  t5 := Try.underlying5
  a5 := Try.isAgg5
  z5 := Try.sizeOf5
  v5 := Try.zeroValue5
  t9 := Try.underlying9
  a9 := Try.isAgg9
  z9 := Try.sizeOf9
  v9 := Try.zeroValue9
  t28 := Try.underlying22
  a28 := Try.isAgg22
  z28 := Try.sizeOf22
  v28 := Try.zeroValue22
  t46 := Try.underlying48
  a46 := Try.isAgg48
  z46 := Try.sizeOf48
  v46 := Try.zeroValue48
  t51 := Try.underlying59
  a51 := Try.isAgg59
  z51 := Try.sizeOf59
  v51 := Try.zeroValue59
  t53 := Try.underlying61
  a53 := Try.isAgg61
  z53 := Try.sizeOf61
  v53 := Try.zeroValue61
  t131 := Try.underlying56
  a131 := Try.isAgg56
  z131 := Try.sizeOf56
  v131 := Try.zeroValue56
  t182 := Try.underlying50
  a182 := Try.isAgg50
  z182 := Try.sizeOf50
  v182 := Try.zeroValue50
  t183 := Try.underlying51
  a183 := Try.isAgg51
  z183 := Try.sizeOf51
  v183 := Try.zeroValue51
  t218 := Try.underlying62
  a218 := Try.isAgg62
  z218 := Try.sizeOf62
  v218 := Try.zeroValue62
  t222 := Try.underlying66
  a222 := Try.isAgg66
  z222 := Try.sizeOf66
  v222 := Try.zeroValue66
  t228 := Try.underlying69
  a228 := Try.isAgg69
  z228 := Try.sizeOf69
  v228 := Try.zeroValue69
  t229 := Try.underlying70
  a229 := Try.isAgg70
  z229 := Try.sizeOf70
  v229 := Try.zeroValue70 }
end Go.Proofs
