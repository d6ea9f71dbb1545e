/-
  DERIVED: THE SHELF's CONTRACTS AT THIS DUMP, IN PLAIN WORDS (tools/lay-plain.mjs out of 'YtjganhmbjffjfaaGreatDoorShelg.lean', which tools/lay-shelf.mjs wrote): THE SAME DECLARATIONS UNDER THE SAME NAMES: 'import', 'namespace', 'open', 'def', 'theorem' AND NOTHING ELSE: no command of the shelf's: FOR A HAND-IN. Each laying: the table of numbers ('.._ren') and one theorem, a field a fact of the dump's own or the kernel's comparison; each contract: ONE APPLICATION.
-/
import Derived.Shelf.SlSortCmp.WholeK
import Derived.Shelf.SlSortCmp.NoneTotal
import Derived.Ground.SlsfProg
import Derived.Test.YtjganhmbjffjfaaGreatDoorProg
namespace Go.Proofs
open Go.Shelf
def Tryz.sortMem_ren : Go.Shelf.Ren := ⟨fun | 6 => 168 | 15 => 120 | 14 => 198 | 28 => 155 | 29 => 156 | 20 => 210 | 21 => 211 | 22 => 212 | 23 => 213 | 24 => 214 | 25 => 215 | 26 => 216 | 27 => 217 | 46 => 224 | 47 => 186 | 48 => 187 | 49 => 225 | 50 => 226 | 57 => 229 | n => n, fun | 22 => 204 | 24 => 257 | 25 => 311 | 3 => 3 | 39 => 264 | 0 => 0 | 53 => 298 | 55 => 92 | 4 => 4 | 46 => 292 | 45 => 291 | 50 => 258 | 5 => 5 | 9 => 9 | 66 => 324 | 70 => 328 | 76 => 345 | 77 => 346 | n => n, fun | n => n⟩
theorem Tryz.sortMem : Go.Proofs.SlLaysF0.n6 Tryz.prog Tryz.sortMem_ren := {
  mixed := by kernel_rfl
  f6 := ⟨Tryz.f168.name, by decide, Tryz.func168.trans (congrArg some (by kernel_rfl))⟩
  f14 := ⟨Tryz.f198.name, by decide, Tryz.func198.trans (congrArg some (by kernel_rfl))⟩
  f15 := Tryz.func120.trans (congrArg some (by kernel_rfl))
  f20 := ⟨Tryz.f210.name, by decide, Tryz.func210.trans (congrArg some (by kernel_rfl))⟩
  f21 := ⟨Tryz.f211.name, by decide, Tryz.func211.trans (congrArg some (by kernel_rfl))⟩
  f22 := ⟨Tryz.f212.name, by decide, Tryz.func212.trans (congrArg some (by kernel_rfl))⟩
  f23 := ⟨Tryz.f213.name, by decide, Tryz.func213.trans (congrArg some (by kernel_rfl))⟩
  f24 := ⟨Tryz.f214.name, by decide, Tryz.func214.trans (congrArg some (by kernel_rfl))⟩
  f25 := ⟨Tryz.f215.name, by decide, Tryz.func215.trans (congrArg some (by kernel_rfl))⟩
  f26 := ⟨Tryz.f216.name, by decide, Tryz.func216.trans (congrArg some (by kernel_rfl))⟩
  f27 := ⟨Tryz.f217.name, by decide, Tryz.func217.trans (congrArg some (by kernel_rfl))⟩
  f28 := Tryz.func155.trans (congrArg some (by kernel_rfl))
  f29 := Tryz.func156.trans (congrArg some (by kernel_rfl))
  f46 := ⟨Tryz.f224.name, by decide, Tryz.func224.trans (congrArg some (by kernel_rfl))⟩
  f47 := Tryz.func186.trans (congrArg some (by kernel_rfl))
  f48 := Tryz.func187.trans (congrArg some (by kernel_rfl))
  f49 := ⟨Tryz.f225.name, by decide, Tryz.func225.trans (congrArg some (by kernel_rfl))⟩
  f50 := ⟨Tryz.f226.name, by decide, Tryz.func226.trans (congrArg some (by kernel_rfl))⟩
  f57 := ⟨Tryz.f229.name, by decide, Tryz.func229.trans (congrArg some (by kernel_rfl))⟩
  t0 := Tryz.underlying0
  a0 := Tryz.isAgg0
  z0 := Tryz.sizeOf0
  v0 := Tryz.zeroValue0
  t3 := Tryz.underlying3
  a3 := Tryz.isAgg3
  z3 := Tryz.sizeOf3
  v3 := Tryz.zeroValue3
  t4 := Tryz.underlying4
  a4 := Tryz.isAgg4
  z4 := Tryz.sizeOf4
  v4 := Tryz.zeroValue4
  t5 := Tryz.underlying5
  a5 := Tryz.isAgg5
  z5 := Tryz.sizeOf5
  v5 := Tryz.zeroValue5
  t9 := Tryz.underlying9
  a9 := Tryz.isAgg9
  z9 := Tryz.sizeOf9
  v9 := Tryz.zeroValue9
  t22 := Tryz.underlying204
  a22 := Tryz.isAgg204
  z22 := Tryz.sizeOf204
  v22 := Tryz.zeroValue204
  t25 := Tryz.underlying311
  a25 := Tryz.isAgg311
  z25 := Tryz.sizeOf311
  v25 := Tryz.zeroValue311
  t39 := Tryz.underlying264
  a39 := Tryz.isAgg264
  z39 := Tryz.sizeOf264
  v39 := Tryz.zeroValue264
  t45 := Tryz.underlying291
  a45 := Tryz.isAgg291
  z45 := Tryz.sizeOf291
  v45 := Tryz.zeroValue291
  t46 := Tryz.underlying292
  a46 := Tryz.isAgg292
  z46 := Tryz.sizeOf292
  v46 := Tryz.zeroValue292
  t50 := Tryz.underlying258
  a50 := Tryz.isAgg258
  z50 := Tryz.sizeOf258
  v50 := Tryz.zeroValue258
  t53 := Tryz.underlying298
  a53 := Tryz.isAgg298
  z53 := Tryz.sizeOf298
  v53 := Tryz.zeroValue298
  t55 := Tryz.underlying92
  a55 := Tryz.isAgg92
  z55 := Tryz.sizeOf92
  v55 := Tryz.zeroValue92
  t66 := Tryz.underlying324
  a66 := Tryz.isAgg324
  z66 := Tryz.sizeOf324
  v66 := Tryz.zeroValue324
  t70 := Tryz.underlying328
  a70 := Tryz.isAgg328
  z70 := Tryz.sizeOf328
  v70 := Tryz.zeroValue328
  t76 := Tryz.underlying345
  a76 := Tryz.isAgg345
  z76 := Tryz.sizeOf345
  v76 := Tryz.zeroValue345
  t77 := Tryz.underlying346
  a77 := Tryz.isAgg346
  z77 := Tryz.sizeOf346
  v77 := Tryz.zeroValue346 }
end Go.Proofs
