/-
  DERIVED: THE SHELF's CONTRACTS AT THIS DUMP, IN PLAIN WORDS (tools/lay-plain.mjs out of 'YtlliohgbbboleaaGreatDoorShelg.lean', which tools/lay-shelf.mjs wrote): THE SAME DECLARATIONS UNDER THE SAME NAMES: 'import', 'namespace', 'open', 'def', 'theorem' AND NOTHING ELSE: no command of the shelf's: FOR A HAND-IN. Each laying: the table of numbers ('.._ren') and one theorem, a field a fact of the dump's own or the kernel's comparison; each contract: ONE APPLICATION.
-/
import Derived.Shelf.SlSortCmp.WholeK
import Derived.Shelf.SlSortCmp.NoneTotal
import Derived.Ground.SlsfProg
import Derived.Test.YtlliohgbbboleaaGreatDoorProg
namespace Go.Proofs
open Go.Shelf
def Tryz.sortMem_ren : Go.Shelf.Ren := ⟨fun | 6 => 98 | 15 => 63 | 14 => 126 | 28 => 91 | 29 => 92 | 20 => 137 | 21 => 138 | 22 => 139 | 23 => 140 | 24 => 141 | 25 => 142 | 26 => 143 | 27 => 144 | 46 => 151 | 47 => 119 | 48 => 120 | 49 => 152 | 50 => 153 | 57 => 156 | n => n, fun | 22 => 134 | 24 => 157 | 25 => 197 | 3 => 3 | 39 => 165 | 0 => 0 | 53 => 191 | 55 => 25 | 4 => 4 | 46 => 184 | 45 => 183 | 50 => 143 | 5 => 5 | 9 => 9 | 66 => 214 | 70 => 218 | 76 => 230 | 77 => 231 | n => n, fun | n => n⟩
theorem Tryz.sortMem : Go.Proofs.SlLaysF0.n6 Tryz.prog Tryz.sortMem_ren := {
  mixed := by kernel_rfl
  f6 := ⟨Tryz.f98.name, by decide, Tryz.func98.trans (congrArg some (by kernel_rfl))⟩
  f14 := ⟨Tryz.f126.name, by decide, Tryz.func126.trans (congrArg some (by kernel_rfl))⟩
  f15 := Tryz.func63.trans (congrArg some (by kernel_rfl))
  f20 := ⟨Tryz.f137.name, by decide, Tryz.func137.trans (congrArg some (by kernel_rfl))⟩
  f21 := ⟨Tryz.f138.name, by decide, Tryz.func138.trans (congrArg some (by kernel_rfl))⟩
  f22 := ⟨Tryz.f139.name, by decide, Tryz.func139.trans (congrArg some (by kernel_rfl))⟩
  f23 := ⟨Tryz.f140.name, by decide, Tryz.func140.trans (congrArg some (by kernel_rfl))⟩
  f24 := ⟨Tryz.f141.name, by decide, Tryz.func141.trans (congrArg some (by kernel_rfl))⟩
  f25 := ⟨Tryz.f142.name, by decide, Tryz.func142.trans (congrArg some (by kernel_rfl))⟩
  f26 := ⟨Tryz.f143.name, by decide, Tryz.func143.trans (congrArg some (by kernel_rfl))⟩
  f27 := ⟨Tryz.f144.name, by decide, Tryz.func144.trans (congrArg some (by kernel_rfl))⟩
  f28 := Tryz.func91.trans (congrArg some (by kernel_rfl))
  f29 := Tryz.func92.trans (congrArg some (by kernel_rfl))
  f46 := ⟨Tryz.f151.name, by decide, Tryz.func151.trans (congrArg some (by kernel_rfl))⟩
  f47 := Tryz.func119.trans (congrArg some (by kernel_rfl))
  f48 := Tryz.func120.trans (congrArg some (by kernel_rfl))
  f49 := ⟨Tryz.f152.name, by decide, Tryz.func152.trans (congrArg some (by kernel_rfl))⟩
  f50 := ⟨Tryz.f153.name, by decide, Tryz.func153.trans (congrArg some (by kernel_rfl))⟩
  f57 := ⟨Tryz.f156.name, by decide, Tryz.func156.trans (congrArg some (by kernel_rfl))⟩
  t0 := Tryz.underlying0
  a0 := Tryz.isAgg0
  z0 := Tryz.sizeOf0
  v0 := Tryz.zeroValue0
  t3 := Tryz.underlying3
  a3 := Tryz.isAgg3
  z3 := Tryz.sizeOf3
  v3 := Tryz.zeroValue3
  t4 := Tryz.underlying4
  a4 := Tryz.isAgg4
  z4 := Tryz.sizeOf4
  v4 := Tryz.zeroValue4
  t5 := Tryz.underlying5
  a5 := Tryz.isAgg5
  z5 := Tryz.sizeOf5
  v5 := Tryz.zeroValue5
  t9 := Tryz.underlying9
  a9 := Tryz.isAgg9
  z9 := Tryz.sizeOf9
  v9 := Tryz.zeroValue9
  t22 := Tryz.underlying134
  a22 := Tryz.isAgg134
  z22 := Tryz.sizeOf134
  v22 := Tryz.zeroValue134
  t25 := Tryz.underlying197
  a25 := Tryz.isAgg197
  z25 := Tryz.sizeOf197
  v25 := Tryz.zeroValue197
  t39 := Tryz.underlying165
  a39 := Tryz.isAgg165
  z39 := Tryz.sizeOf165
  v39 := Tryz.zeroValue165
  t45 := Tryz.underlying183
  a45 := Tryz.isAgg183
  z45 := Tryz.sizeOf183
  v45 := Tryz.zeroValue183
  t46 := Tryz.underlying184
  a46 := Tryz.isAgg184
  z46 := Tryz.sizeOf184
  v46 := Tryz.zeroValue184
  t50 := Tryz.underlying143
  a50 := Tryz.isAgg143
  z50 := Tryz.sizeOf143
  v50 := Tryz.zeroValue143
  t53 := Tryz.underlying191
  a53 := Tryz.isAgg191
  z53 := Tryz.sizeOf191
  v53 := Tryz.zeroValue191
  t55 := Tryz.underlying25
  a55 := Tryz.isAgg25
  z55 := Tryz.sizeOf25
  v55 := Tryz.zeroValue25
  t66 := Tryz.underlying214
  a66 := Tryz.isAgg214
  z66 := Tryz.sizeOf214
  v66 := Tryz.zeroValue214
  t70 := Tryz.underlying218
  a70 := Tryz.isAgg218
  z70 := Tryz.sizeOf218
  v70 := Tryz.zeroValue218
  t76 := Tryz.underlying230
  a76 := Tryz.isAgg230
  z76 := Tryz.sizeOf230
  v76 := Tryz.zeroValue230
  t77 := Tryz.underlying231
  a77 := Tryz.isAgg231
  z77 := Tryz.sizeOf231
  v77 := Tryz.zeroValue231 }
end Go.Proofs
