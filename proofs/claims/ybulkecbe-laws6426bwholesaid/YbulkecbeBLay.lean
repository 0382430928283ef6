/-
  DERIVED: THE SHELF's CONTRACTS AT THIS DUMP, IN PLAIN WORDS (tools/lay-plain.mjs out of 'YbulkecbeBLay.lean', which tools/lay-shelf.mjs wrote): THE SAME DECLARATIONS UNDER THE SAME NAMES: 'import', 'namespace', 'open', 'def', 'theorem' AND NOTHING ELSE: no command of the shelf's: FOR A HAND-IN. Each laying: the table of numbers ('.._ren') and one theorem, a field a fact of the dump's own or the kernel's comparison; each contract: ONE APPLICATION.
-/
import Derived.Test.YbulkecbeProg
import Derived.Shelf.Sort.Plain
namespace Go.Proofs
open Go.Shelf
def Yba.lays192_ren : Go.Shelf.Ren := ⟨fun | 192 => 24 | 190 => 40 | 125 => 50 | 258 => 49 | 128 => 67 | 129 => 68 | 302 => 58 | 303 => 59 | 304 => 60 | 305 => 61 | 306 => 62 | 307 => 63 | 308 => 64 | 309 => 65 | 310 => 66 | 333 => 69 | 329 => 70 | 330 => 71 | 334 => 72 | 335 => 73 | 336 => 74 | 344 => 75 | n => n, fun | 31 => 47 | 0 => 0 | 9 => 9 | 3 => 3 | 46 => 130 | 51 => 32 | 53 => 39 | 4 => 4 | 183 => 140 | 182 => 139 | 131 => 105 | 5 => 5 | 218 => 148 | 222 => 152 | 228 => 155 | 229 => 156 | n => n, fun | n => n⟩
theorem Yba.lays192 : Go.Proofs.Lays.n192 Yba.prog Yba.lays192_ren := {
  mixed := by kernel_rfl
  f125 := Yba.func50.trans (congrArg some (by kernel_rfl))
  f128 := Yba.func67.trans (congrArg some (by kernel_rfl))
  f129 := Yba.func68.trans (congrArg some (by kernel_rfl))
  f190 := Yba.func40.trans (congrArg some (by kernel_rfl))
  f192 := Yba.func24.trans (congrArg some (by kernel_rfl))
  f258 := Yba.func49.trans (congrArg some (by kernel_rfl))
  f302 := Yba.func58.trans (congrArg some (by kernel_rfl))
  f303 := Yba.func59.trans (congrArg some (by kernel_rfl))
  f304 := Yba.func60.trans (congrArg some (by kernel_rfl))
  f305 := Yba.func61.trans (congrArg some (by kernel_rfl))
  f306 := Yba.func62.trans (congrArg some (by kernel_rfl))
  f307 := Yba.func63.trans (congrArg some (by kernel_rfl))
  f308 := Yba.func64.trans (congrArg some (by kernel_rfl))
  f309 := Yba.func65.trans (congrArg some (by kernel_rfl))
  f310 := Yba.func66.trans (congrArg some (by kernel_rfl))
  f329 := Yba.func70.trans (congrArg some (by kernel_rfl))
  f330 := Yba.func71.trans (congrArg some (by kernel_rfl))
  f333 := Yba.func69.trans (congrArg some (by kernel_rfl))
  f334 := Yba.func72.trans (congrArg some (by kernel_rfl))
  f335 := Yba.func73.trans (congrArg some (by kernel_rfl))
  f336 := Yba.func74.trans (congrArg some (by kernel_rfl))
  f344 := Yba.func75.trans (congrArg some (by kernel_rfl))
  t0 := Yba.underlying0
  a0 := Yba.isAgg0
  z0 := Yba.sizeOf0
  v0 := Yba.zeroValue0
  t3 := Yba.underlying3
  a3 := Yba.isAgg3
  z3 := Yba.sizeOf3
  v3 := Yba.zeroValue3
  t4 := Yba.underlying4
  a4 := Yba.isAgg4
  z4 := Yba.sizeOf4
  v4 := Yba.zeroValue4
  t5 := Yba.underlying5
  a5 := Yba.isAgg5
  z5 := Yba.sizeOf5
  v5 := Yba.zeroValue5
  t9 := Yba.underlying9
  a9 := Yba.isAgg9
  z9 := Yba.sizeOf9
  v9 := Yba.zeroValue9
  t31 := Yba.underlying47
  a31 := Yba.isAgg47
  z31 := Yba.sizeOf47
  v31 := Yba.zeroValue47
  t46 := Yba.underlying130
  a46 := Yba.isAgg130
  z46 := Yba.sizeOf130
  v46 := Yba.zeroValue130
  t51 := Yba.underlying32
  a51 := Yba.isAgg32
  z51 := Yba.sizeOf32
  v51 := Yba.zeroValue32
  t53 := Yba.underlying39
  a53 := Yba.isAgg39
  z53 := Yba.sizeOf39
  v53 := Yba.zeroValue39
  t131 := Yba.underlying105
  a131 := Yba.isAgg105
  z131 := Yba.sizeOf105
  v131 := Yba.zeroValue105
  t182 := Yba.underlying139
  a182 := Yba.isAgg139
  z182 := Yba.sizeOf139
  v182 := Yba.zeroValue139
  t183 := Yba.underlying140
  a183 := Yba.isAgg140
  z183 := Yba.sizeOf140
  v183 := Yba.zeroValue140
  t218 := Yba.underlying148
  a218 := Yba.isAgg148
  z218 := Yba.sizeOf148
  v218 := Yba.zeroValue148
  t222 := Yba.underlying152
  a222 := Yba.isAgg152
  z222 := Yba.sizeOf152
  v222 := Yba.zeroValue152
  t228 := Yba.underlying155
  a228 := Yba.isAgg155
  z228 := Yba.sizeOf155
  v228 := Yba.zeroValue155
  t229 := Yba.underlying156
  a229 := Yba.isAgg156
  z229 := Yba.sizeOf156
  v229 := Yba.zeroValue156 }
end Go.Proofs
