/-
  DERIVED: THE SHELF's CONTRACTS AT THIS DUMP, IN PLAIN WORDS (tools/lay-plain.mjs out of 'Qxb6003669aShelfA.lean', which tools/lay-shelf.mjs wrote): THE SAME DECLARATIONS UNDER THE SAME NAMES: 'import', 'namespace', 'open', 'def', 'theorem' AND NOTHING ELSE: no command of the shelf's: FOR A HAND-IN. Each laying: the table of numbers ('.._ren') and one theorem, a field a fact of the dump's own or the kernel's comparison; each contract: ONE APPLICATION.
-/
import Derived.Ground.NamesProg
import Derived.Shelf.Slices.In.CompactS
import Derived.Shelf.Slices.In.SortAlone
import Derived.Shelf.Slices.In.SortNone
import Derived.Sort.EveryDepth
import Derived.Test.Qxb6003669aProg
namespace Go.Proofs
open Go.Shelf
def Qxb6003669a.laysSort_ren : Go.Shelf.Ren := ⟨fun | 190 => 30 | 125 => 33 | 258 => 32 | 128 => 43 | 129 => 44 | 302 => 34 | 303 => 35 | 304 => 36 | 305 => 37 | 306 => 38 | 307 => 39 | 308 => 40 | 309 => 41 | 310 => 42 | 333 => 45 | 329 => 46 | 330 => 47 | 334 => 48 | 335 => 49 | 336 => 50 | 344 => 51 | n => n, fun | 31 => 22 | 9 => 9 | 3 => 3 | 46 => 55 | 0 => 0 | 51 => 66 | 53 => 45 | 4 => 4 | 183 => 58 | 182 => 57 | 131 => 63 | 5 => 5 | 218 => 68 | 222 => 72 | 228 => 75 | 229 => 76 | n => n, fun | n => n⟩
theorem Qxb6003669a.laysSort : Go.Proofs.Lays.n190 Try.prog Qxb6003669a.laysSort_ren := {
  mixed := by kernel_rfl
  f125 := Try.func33.trans (congrArg some (by kernel_rfl))
  f128 := Try.func43.trans (congrArg some (by kernel_rfl))
  f129 := Try.func44.trans (congrArg some (by kernel_rfl))
  f190 := Try.func30.trans (congrArg some (by kernel_rfl))
  f258 := Try.func32.trans (congrArg some (by kernel_rfl))
  f302 := Try.func34.trans (congrArg some (by kernel_rfl))
  f303 := Try.func35.trans (congrArg some (by kernel_rfl))
  f304 := Try.func36.trans (congrArg some (by kernel_rfl))
  f305 := Try.func37.trans (congrArg some (by kernel_rfl))
  f306 := Try.func38.trans (congrArg some (by kernel_rfl))
  f307 := Try.func39.trans (congrArg some (by kernel_rfl))
  f308 := Try.func40.trans (congrArg some (by kernel_rfl))
  f309 := Try.func41.trans (congrArg some (by kernel_rfl))
  f310 := Try.func42.trans (congrArg some (by kernel_rfl))
  f329 := Try.func46.trans (congrArg some (by kernel_rfl))
  f330 := Try.func47.trans (congrArg some (by kernel_rfl))
  f333 := Try.func45.trans (congrArg some (by kernel_rfl))
  f334 := Try.func48.trans (congrArg some (by kernel_rfl))
  f335 := Try.func49.trans (congrArg some (by kernel_rfl))
  f336 := Try.func50.trans (congrArg some (by kernel_rfl))
  f344 := Try.func51.trans (congrArg some (by kernel_rfl))
  t0 := Try.underlying0
  a0 := Try.isAgg0
  z0 := Try.sizeOf0
  v0 := Try.zeroValue0
  t3 := Try.underlying3
  a3 := Try.isAgg3
  z3 := Try.sizeOf3
  v3 := Try.zeroValue3
  t4 := Try.underlying4
  a4 := Try.isAgg4
  z4 := Try.sizeOf4
  v4 := Try.zeroValue4
  t5 := Try.underlying5
  a5 := Try.isAgg5
  z5 := Try.sizeOf5
  v5 := Try.zeroValue5
  t9 := Try.underlying9
  a9 := Try.isAgg9
  z9 := Try.sizeOf9
  v9 := Try.zeroValue9
  t31 := Try.underlying22
  a31 := Try.isAgg22
  z31 := Try.sizeOf22
  v31 := Try.zeroValue22
  t46 := Try.underlying55
  a46 := Try.isAgg55
  z46 := Try.sizeOf55
  v46 := Try.zeroValue55
  t51 := Try.underlying66
  a51 := Try.isAgg66
  z51 := Try.sizeOf66
  v51 := Try.zeroValue66
  t53 := Try.underlying45
  a53 := Try.isAgg45
  z53 := Try.sizeOf45
  v53 := Try.zeroValue45
  t131 := Try.underlying63
  a131 := Try.isAgg63
  z131 := Try.sizeOf63
  v131 := Try.zeroValue63
  t182 := Try.underlying57
  a182 := Try.isAgg57
  z182 := Try.sizeOf57
  v182 := Try.zeroValue57
  t183 := Try.underlying58
  a183 := Try.isAgg58
  z183 := Try.sizeOf58
  v183 := Try.zeroValue58
  t218 := Try.underlying68
  a218 := Try.isAgg68
  z218 := Try.sizeOf68
  v218 := Try.zeroValue68
  t222 := Try.underlying72
  a222 := Try.isAgg72
  z222 := Try.sizeOf72
  v222 := Try.zeroValue72
  t228 := Try.underlying75
  a228 := Try.isAgg75
  z228 := Try.sizeOf75
  v228 := Try.zeroValue75
  t229 := Try.underlying76
  a229 := Try.isAgg76
  z229 := Try.sizeOf76
  v229 := Try.zeroValue76 }
def Qxb6003669a.laysCompact_ren : Go.Shelf.Ren := ⟨fun | 194 => 31 | n => n, fun | 31 => 22 | 9 => 9 | 3 => 3 | 4 => 4 | 0 => 0 | n => n, fun | n => n⟩
theorem Qxb6003669a.laysCompact : Go.Proofs.Lays.n194 Try.prog Qxb6003669a.laysCompact_ren := {
  mixed := by kernel_rfl
  f194 := Try.func31.trans (congrArg some (by kernel_rfl))
  t0 := Try.underlying0
  a0 := Try.isAgg0
  z0 := Try.sizeOf0
  v0 := Try.zeroValue0
  t3 := Try.underlying3
  a3 := Try.isAgg3
  z3 := Try.sizeOf3
  v3 := Try.zeroValue3
  t4 := Try.underlying4
  a4 := Try.isAgg4
  z4 := Try.sizeOf4
  v4 := Try.zeroValue4
  t9 := Try.underlying9
  a9 := Try.isAgg9
  z9 := Try.sizeOf9
  v9 := Try.zeroValue9
  t31 := Try.underlying22
  a31 := Try.isAgg22
  z31 := Try.sizeOf22
  v31 := Try.zeroValue22 }
end Go.Proofs
