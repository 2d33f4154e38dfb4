/-
  DERIVED: THE SHELF's CONTRACTS AT THIS DUMP, IN PLAIN WORDS (tools/lay-plain.mjs out of 'YbulkcvguShelf.lean', which tools/lay-shelf.mjs wrote): THE SAME DECLARATIONS UNDER THE SAME NAMES: 'import', 'namespace', 'open', 'def', 'theorem' AND NOTHING ELSE: no command of the shelf's: FOR A HAND-IN. Each laying: the table of numbers ('.._ren') and one theorem, a field a fact of the dump's own or the kernel's comparison; each contract: ONE APPLICATION.
-/
import Derived.Ground.Names2Prog
import Derived.Shelf.Slices.Equal
import Derived.Shelf.Slices.SearchI
import Derived.Shelf.Slices.Empties
import Derived.Shelf.Spec.SlicesInsert
import Derived.Shelf.Spec.SlicesInsertGrow
import Derived.Shelf.Sort.Plain
import Derived.Shelf.Slices.In.SortNone
import Derived.Test.YbulkcvguProg
namespace Go.Proofs
open Go.Shelf
def Yba.lays111_ren : Go.Shelf.Ren := ⟨fun | 111 => 9 | n => n, fun | 28 => 22 | 3 => 3 | 4 => 4 | 0 => 0 | n => n, fun | n => n⟩
theorem Yba.lays111 : Go.Proofs.Lays.n111 Yba.prog Yba.lays111_ren := {
  mixed := by kernel_rfl
  f111 := Yba.func9.trans (congrArg some (by kernel_rfl))
  t0 := Yba.underlying0
  a0 := Yba.isAgg0
  z0 := Yba.sizeOf0
  v0 := Yba.zeroValue0
  t3 := Yba.underlying3
  a3 := Yba.isAgg3
  z3 := Yba.sizeOf3
  v3 := Yba.zeroValue3
  t4 := Yba.underlying4
  a4 := Yba.isAgg4
  z4 := Yba.sizeOf4
  v4 := Yba.zeroValue4
  t28 := Yba.underlying22
  a28 := Yba.isAgg22
  z28 := Yba.sizeOf22
  v28 := Yba.zeroValue22 }
def Yba.laysNm225_ren : Go.Shelf.Ren := ⟨fun | 25 => 14 | 31 => 23 | 32 => 28 | 37 => 36 | n => n, fun | 22 => 22 | 3 => 3 | 4 => 4 | 40 => 61 | 0 => 0 | n => n, fun | n => n⟩
theorem Yba.laysNm225 : Go.Proofs.Lays2.n25 Yba.prog Yba.laysNm225_ren := {
  mixed := by kernel_rfl
  f25 := Yba.func14.trans (congrArg some (by kernel_rfl))
  f31 := Yba.func23.trans (congrArg some (by kernel_rfl))
  f32 := Yba.func28.trans (congrArg some (by kernel_rfl))
  f37 := Yba.func36.trans (congrArg some (by kernel_rfl))
  t0 := Yba.underlying0
  a0 := Yba.isAgg0
  z0 := Yba.sizeOf0
  v0 := Yba.zeroValue0
  t3 := Yba.underlying3
  a3 := Yba.isAgg3
  z3 := Yba.sizeOf3
  v3 := Yba.zeroValue3
  t4 := Yba.underlying4
  a4 := Yba.isAgg4
  z4 := Yba.sizeOf4
  v4 := Yba.zeroValue4
  t22 := Yba.underlying22
  a22 := Yba.isAgg22
  z22 := Yba.sizeOf22
  v22 := Yba.zeroValue22
  t40 := Yba.underlying61
  a40 := Yba.isAgg61
  z40 := Yba.sizeOf61
  v40 := Yba.zeroValue61 }
def Yba.laysNm221_ren : Go.Shelf.Ren := ⟨fun | 21 => 15 | 27 => 29 | 28 => 30 | 35 => 37 | 39 => 39 | n => n, fun | 22 => 22 | 3 => 3 | 4 => 4 | 0 => 0 | n => n, fun | n => n⟩
theorem Yba.laysNm221 : Go.Proofs.Lays2.n21 Yba.prog Yba.laysNm221_ren := {
  mixed := by kernel_rfl
  f21 := Yba.func15.trans (congrArg some (by kernel_rfl))
  f27 := Yba.func29.trans (congrArg some (by kernel_rfl))
  f28 := Yba.func30.trans (congrArg some (by kernel_rfl))
  f35 := Yba.func37.trans (congrArg some (by kernel_rfl))
  f39 := Yba.func39.trans (congrArg some (by kernel_rfl))
  t0 := Yba.underlying0
  a0 := Yba.isAgg0
  z0 := Yba.sizeOf0
  v0 := Yba.zeroValue0
  t3 := Yba.underlying3
  a3 := Yba.isAgg3
  z3 := Yba.sizeOf3
  v3 := Yba.zeroValue3
  t4 := Yba.underlying4
  a4 := Yba.isAgg4
  z4 := Yba.sizeOf4
  v4 := Yba.zeroValue4
  t22 := Yba.underlying22
  a22 := Yba.isAgg22
  z22 := Yba.sizeOf22
  v22 := Yba.zeroValue22
  i3 := by kernel_rfl }
def Yba.lays189_ren : Go.Shelf.Ren := ⟨fun | 189 => 5 | 125 => 12 | 257 => 11 | 128 => 26 | 129 => 27 | 294 => 17 | 295 => 18 | 296 => 19 | 297 => 20 | 298 => 21 | 299 => 22 | 216 => 23 | 300 => 24 | 301 => 25 | 328 => 31 | 329 => 32 | 330 => 33 | 331 => 34 | 332 => 35 | 215 => 36 | 343 => 38 | n => n, fun | 28 => 22 | 3 => 3 | 46 => 61 | 0 => 0 | 51 => 77 | 53 => 26 | 4 => 4 | 183 => 70 | 182 => 69 | 131 => 64 | 5 => 5 | 9 => 9 | 218 => 82 | 222 => 86 | 228 => 88 | 229 => 89 | n => n, fun | n => n⟩
theorem Yba.lays189 : Go.Proofs.Lays.n189 Yba.prog Yba.lays189_ren := {
  mixed := by kernel_rfl
  f125 := Yba.func12.trans (congrArg some (by kernel_rfl))
  f128 := Yba.func26.trans (congrArg some (by kernel_rfl))
  f129 := Yba.func27.trans (congrArg some (by kernel_rfl))
  f189 := Yba.func5.trans (congrArg some (by kernel_rfl))
  f215 := Yba.func36.trans (congrArg some (by kernel_rfl))
  f216 := Yba.func23.trans (congrArg some (by kernel_rfl))
  f257 := Yba.func11.trans (congrArg some (by kernel_rfl))
  f294 := Yba.func17.trans (congrArg some (by kernel_rfl))
  f295 := Yba.func18.trans (congrArg some (by kernel_rfl))
  f296 := Yba.func19.trans (congrArg some (by kernel_rfl))
  f297 := Yba.func20.trans (congrArg some (by kernel_rfl))
  f298 := Yba.func21.trans (congrArg some (by kernel_rfl))
  f299 := Yba.func22.trans (congrArg some (by kernel_rfl))
  f300 := Yba.func24.trans (congrArg some (by kernel_rfl))
  f301 := Yba.func25.trans (congrArg some (by kernel_rfl))
  f328 := Yba.func31.trans (congrArg some (by kernel_rfl))
  f329 := Yba.func32.trans (congrArg some (by kernel_rfl))
  f330 := Yba.func33.trans (congrArg some (by kernel_rfl))
  f331 := Yba.func34.trans (congrArg some (by kernel_rfl))
  f332 := Yba.func35.trans (congrArg some (by kernel_rfl))
  f343 := Yba.func38.trans (congrArg some (by kernel_rfl))
  t0 := Yba.underlying0
  a0 := Yba.isAgg0
  z0 := Yba.sizeOf0
  v0 := Yba.zeroValue0
  t3 := Yba.underlying3
  a3 := Yba.isAgg3
  z3 := Yba.sizeOf3
  v3 := Yba.zeroValue3
  t4 := Yba.underlying4
  a4 := Yba.isAgg4
  z4 := Yba.sizeOf4
  v4 := Yba.zeroValue4
  t5 := Yba.underlying5
  a5 := Yba.isAgg5
  z5 := Yba.sizeOf5
  v5 := Yba.zeroValue5
  t9 := Yba.underlying9
  a9 := Yba.isAgg9
  z9 := Yba.sizeOf9
  v9 := Yba.zeroValue9
  t28 := Yba.underlying22
  a28 := Yba.isAgg22
  z28 := Yba.sizeOf22
  v28 := Yba.zeroValue22
  t46 := Yba.underlying61
  a46 := Yba.isAgg61
  z46 := Yba.sizeOf61
  v46 := Yba.zeroValue61
  t51 := Yba.underlying77
  a51 := Yba.isAgg77
  z51 := Yba.sizeOf77
  v51 := Yba.zeroValue77
  t53 := Yba.underlying26
  a53 := Yba.isAgg26
  z53 := Yba.sizeOf26
  v53 := Yba.zeroValue26
  t131 := Yba.underlying64
  a131 := Yba.isAgg64
  z131 := Yba.sizeOf64
  v131 := Yba.zeroValue64
  t182 := Yba.underlying69
  a182 := Yba.isAgg69
  z182 := Yba.sizeOf69
  v182 := Yba.zeroValue69
  t183 := Yba.underlying70
  a183 := Yba.isAgg70
  z183 := Yba.sizeOf70
  v183 := Yba.zeroValue70
  t218 := Yba.underlying82
  a218 := Yba.isAgg82
  z218 := Yba.sizeOf82
  v218 := Yba.zeroValue82
  t222 := Yba.underlying86
  a222 := Yba.isAgg86
  z222 := Yba.sizeOf86
  v222 := Yba.zeroValue86
  t228 := Yba.underlying88
  a228 := Yba.isAgg88
  z228 := Yba.sizeOf88
  v228 := Yba.zeroValue88
  t229 := Yba.underlying89
  a229 := Yba.isAgg89
  z229 := Yba.sizeOf89
  v229 := Yba.zeroValue89 }
end Go.Proofs
