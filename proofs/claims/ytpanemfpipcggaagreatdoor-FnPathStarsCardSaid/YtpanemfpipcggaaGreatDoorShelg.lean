/-
  DERIVED: THE SHELF's CONTRACTS AT THIS DUMP, IN PLAIN WORDS (tools/lay-plain.mjs out of 'YtpanemfpipcggaaGreatDoorShelg.lean', which tools/lay-shelf.mjs wrote): THE SAME DECLARATIONS UNDER THE SAME NAMES: 'import', 'namespace', 'open', 'def', 'theorem' AND NOTHING ELSE: no command of the shelf's: FOR A HAND-IN. Each laying: the table of numbers ('.._ren') and one theorem, a field a fact of the dump's own or the kernel's comparison; each contract: ONE APPLICATION.
-/
import Derived.Shelf.SlSortCmp.WholeK
import Derived.Shelf.SlSortCmp.NoneTotal
import Derived.Ground.SlsfProg
import Derived.Test.YtpanemfpipcggaaGreatDoorProg
namespace Go.Proofs
open Go.Shelf
def Tryz.sortMem_ren : Go.Shelf.Ren := ⟨fun | 6 => 167 | 15 => 113 | 14 => 197 | 28 => 151 | 29 => 152 | 20 => 208 | 21 => 209 | 22 => 210 | 23 => 211 | 24 => 212 | 25 => 213 | 26 => 214 | 27 => 215 | 46 => 222 | 47 => 185 | 48 => 186 | 49 => 223 | 50 => 224 | 57 => 227 | n => n, fun | 22 => 192 | 24 => 249 | 25 => 320 | 3 => 3 | 39 => 256 | 0 => 0 | 53 => 301 | 55 => 93 | 4 => 4 | 46 => 295 | 45 => 294 | 50 => 250 | 5 => 5 | 9 => 9 | 66 => 332 | 70 => 336 | 76 => 352 | 77 => 353 | n => n, fun | n => n⟩
theorem Tryz.sortMem : Go.Proofs.SlLaysF0.n6 Tryz.prog Tryz.sortMem_ren := {
  mixed := by kernel_rfl
  f6 := ⟨Tryz.f167.name, by decide, Tryz.func167.trans (congrArg some (by kernel_rfl))⟩
  f14 := ⟨Tryz.f197.name, by decide, Tryz.func197.trans (congrArg some (by kernel_rfl))⟩
  f15 := Tryz.func113.trans (congrArg some (by kernel_rfl))
  f20 := ⟨Tryz.f208.name, by decide, Tryz.func208.trans (congrArg some (by kernel_rfl))⟩
  f21 := ⟨Tryz.f209.name, by decide, Tryz.func209.trans (congrArg some (by kernel_rfl))⟩
  f22 := ⟨Tryz.f210.name, by decide, Tryz.func210.trans (congrArg some (by kernel_rfl))⟩
  f23 := ⟨Tryz.f211.name, by decide, Tryz.func211.trans (congrArg some (by kernel_rfl))⟩
  f24 := ⟨Tryz.f212.name, by decide, Tryz.func212.trans (congrArg some (by kernel_rfl))⟩
  f25 := ⟨Tryz.f213.name, by decide, Tryz.func213.trans (congrArg some (by kernel_rfl))⟩
  f26 := ⟨Tryz.f214.name, by decide, Tryz.func214.trans (congrArg some (by kernel_rfl))⟩
  f27 := ⟨Tryz.f215.name, by decide, Tryz.func215.trans (congrArg some (by kernel_rfl))⟩
  f28 := Tryz.func151.trans (congrArg some (by kernel_rfl))
  f29 := Tryz.func152.trans (congrArg some (by kernel_rfl))
  f46 := ⟨Tryz.f222.name, by decide, Tryz.func222.trans (congrArg some (by kernel_rfl))⟩
  f47 := Tryz.func185.trans (congrArg some (by kernel_rfl))
  f48 := Tryz.func186.trans (congrArg some (by kernel_rfl))
  f49 := ⟨Tryz.f223.name, by decide, Tryz.func223.trans (congrArg some (by kernel_rfl))⟩
  f50 := ⟨Tryz.f224.name, by decide, Tryz.func224.trans (congrArg some (by kernel_rfl))⟩
  f57 := ⟨Tryz.f227.name, by decide, Tryz.func227.trans (congrArg some (by kernel_rfl))⟩
  t0 := Tryz.underlying0
  a0 := Tryz.isAgg0
  z0 := Tryz.sizeOf0
  v0 := Tryz.zeroValue0
  t3 := Tryz.underlying3
  a3 := Tryz.isAgg3
  z3 := Tryz.sizeOf3
  v3 := Tryz.zeroValue3
  t4 := Tryz.underlying4
  a4 := Tryz.isAgg4
  z4 := Tryz.sizeOf4
  v4 := Tryz.zeroValue4
  t5 := Tryz.underlying5
  a5 := Tryz.isAgg5
  z5 := Tryz.sizeOf5
  v5 := Tryz.zeroValue5
  t9 := Tryz.underlying9
  a9 := Tryz.isAgg9
  z9 := Tryz.sizeOf9
  v9 := Tryz.zeroValue9
  t22 := Tryz.underlying192
  a22 := Tryz.isAgg192
  z22 := Tryz.sizeOf192
  v22 := Tryz.zeroValue192
  t25 := Tryz.underlying320
  a25 := Tryz.isAgg320
  z25 := Tryz.sizeOf320
  v25 := Tryz.zeroValue320
  t39 := Tryz.underlying256
  a39 := Tryz.isAgg256
  z39 := Tryz.sizeOf256
  v39 := Tryz.zeroValue256
  t45 := Tryz.underlying294
  a45 := Tryz.isAgg294
  z45 := Tryz.sizeOf294
  v45 := Tryz.zeroValue294
  t46 := Tryz.underlying295
  a46 := Tryz.isAgg295
  z46 := Tryz.sizeOf295
  v46 := Tryz.zeroValue295
  t50 := Tryz.underlying250
  a50 := Tryz.isAgg250
  z50 := Tryz.sizeOf250
  v50 := Tryz.zeroValue250
  t53 := Tryz.underlying301
  a53 := Tryz.isAgg301
  z53 := Tryz.sizeOf301
  v53 := Tryz.zeroValue301
  t55 := Tryz.underlying93
  a55 := Tryz.isAgg93
  z55 := Tryz.sizeOf93
  v55 := Tryz.zeroValue93
  t66 := Tryz.underlying332
  a66 := Tryz.isAgg332
  z66 := Tryz.sizeOf332
  v66 := Tryz.zeroValue332
  t70 := Tryz.underlying336
  a70 := Tryz.isAgg336
  z70 := Tryz.sizeOf336
  v70 := Tryz.zeroValue336
  t76 := Tryz.underlying352
  a76 := Tryz.isAgg352
  z76 := Tryz.sizeOf352
  v76 := Tryz.zeroValue352
  t77 := Tryz.underlying353
  a77 := Tryz.isAgg353
  z77 := Tryz.sizeOf353
  v77 := Tryz.zeroValue353 }
end Go.Proofs
