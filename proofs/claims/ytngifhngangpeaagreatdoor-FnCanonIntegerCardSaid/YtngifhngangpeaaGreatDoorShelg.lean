/-
  DERIVED: THE SHELF's CONTRACTS AT THIS DUMP, IN PLAIN WORDS (tools/lay-plain.mjs out of 'YtngifhngangpeaaGreatDoorShelg.lean', which tools/lay-shelf.mjs wrote): THE SAME DECLARATIONS UNDER THE SAME NAMES: 'import', 'namespace', 'open', 'def', 'theorem' AND NOTHING ELSE: no command of the shelf's: FOR A HAND-IN. Each laying: the table of numbers ('.._ren') and one theorem, a field a fact of the dump's own or the kernel's comparison; each contract: ONE APPLICATION.
-/
import Derived.Shelf.SlSortCmp.WholeK
import Derived.Shelf.SlSortCmp.NoneTotal
import Derived.Ground.SlsfProg
import Derived.Test.YtngifhngangpeaaGreatDoorProg
namespace Go.Proofs
open Go.Shelf
def Tryz.sortMem_ren : Go.Shelf.Ren := ⟨fun | 6 => 129 | 15 => 90 | 14 => 158 | 28 => 121 | 29 => 122 | 20 => 170 | 21 => 171 | 22 => 172 | 23 => 173 | 24 => 174 | 25 => 175 | 26 => 176 | 27 => 177 | 46 => 184 | 47 => 150 | 48 => 151 | 49 => 185 | 50 => 186 | 57 => 189 | n => n, fun | 22 => 133 | 24 => 156 | 25 => 202 | 3 => 3 | 39 => 81 | 0 => 0 | 53 => 195 | 55 => 33 | 4 => 4 | 46 => 189 | 45 => 188 | 50 => 141 | 5 => 5 | 9 => 9 | 66 => 219 | 70 => 223 | 76 => 236 | 77 => 237 | n => n, fun | n => n⟩
theorem Tryz.sortMem : Go.Proofs.SlLaysF0.n6 Tryz.prog Tryz.sortMem_ren := {
  mixed := by kernel_rfl
  f6 := ⟨Tryz.f129.name, by decide, Tryz.func129.trans (congrArg some (by kernel_rfl))⟩
  f14 := ⟨Tryz.f158.name, by decide, Tryz.func158.trans (congrArg some (by kernel_rfl))⟩
  f15 := Tryz.func90.trans (congrArg some (by kernel_rfl))
  f20 := ⟨Tryz.f170.name, by decide, Tryz.func170.trans (congrArg some (by kernel_rfl))⟩
  f21 := ⟨Tryz.f171.name, by decide, Tryz.func171.trans (congrArg some (by kernel_rfl))⟩
  f22 := ⟨Tryz.f172.name, by decide, Tryz.func172.trans (congrArg some (by kernel_rfl))⟩
  f23 := ⟨Tryz.f173.name, by decide, Tryz.func173.trans (congrArg some (by kernel_rfl))⟩
  f24 := ⟨Tryz.f174.name, by decide, Tryz.func174.trans (congrArg some (by kernel_rfl))⟩
  f25 := ⟨Tryz.f175.name, by decide, Tryz.func175.trans (congrArg some (by kernel_rfl))⟩
  f26 := ⟨Tryz.f176.name, by decide, Tryz.func176.trans (congrArg some (by kernel_rfl))⟩
  f27 := ⟨Tryz.f177.name, by decide, Tryz.func177.trans (congrArg some (by kernel_rfl))⟩
  f28 := Tryz.func121.trans (congrArg some (by kernel_rfl))
  f29 := Tryz.func122.trans (congrArg some (by kernel_rfl))
  f46 := ⟨Tryz.f184.name, by decide, Tryz.func184.trans (congrArg some (by kernel_rfl))⟩
  f47 := Tryz.func150.trans (congrArg some (by kernel_rfl))
  f48 := Tryz.func151.trans (congrArg some (by kernel_rfl))
  f49 := ⟨Tryz.f185.name, by decide, Tryz.func185.trans (congrArg some (by kernel_rfl))⟩
  f50 := ⟨Tryz.f186.name, by decide, Tryz.func186.trans (congrArg some (by kernel_rfl))⟩
  f57 := ⟨Tryz.f189.name, by decide, Tryz.func189.trans (congrArg some (by kernel_rfl))⟩
  t0 := Tryz.underlying0
  a0 := Tryz.isAgg0
  z0 := Tryz.sizeOf0
  v0 := Tryz.zeroValue0
  t3 := Tryz.underlying3
  a3 := Tryz.isAgg3
  z3 := Tryz.sizeOf3
  v3 := Tryz.zeroValue3
  t4 := Tryz.underlying4
  a4 := Tryz.isAgg4
  z4 := Tryz.sizeOf4
  v4 := Tryz.zeroValue4
  t5 := Tryz.underlying5
  a5 := Tryz.isAgg5
  z5 := Tryz.sizeOf5
  v5 := Tryz.zeroValue5
  t9 := Tryz.underlying9
  a9 := Tryz.isAgg9
  z9 := Tryz.sizeOf9
  v9 := Tryz.zeroValue9
  t22 := Tryz.underlying133
  a22 := Tryz.isAgg133
  z22 := Tryz.sizeOf133
  v22 := Tryz.zeroValue133
  t25 := Tryz.underlying202
  a25 := Tryz.isAgg202
  z25 := Tryz.sizeOf202
  v25 := Tryz.zeroValue202
  t39 := Tryz.underlying81
  a39 := Tryz.isAgg81
  z39 := Tryz.sizeOf81
  v39 := Tryz.zeroValue81
  t45 := Tryz.underlying188
  a45 := Tryz.isAgg188
  z45 := Tryz.sizeOf188
  v45 := Tryz.zeroValue188
  t46 := Tryz.underlying189
  a46 := Tryz.isAgg189
  z46 := Tryz.sizeOf189
  v46 := Tryz.zeroValue189
  t50 := Tryz.underlying141
  a50 := Tryz.isAgg141
  z50 := Tryz.sizeOf141
  v50 := Tryz.zeroValue141
  t53 := Tryz.underlying195
  a53 := Tryz.isAgg195
  z53 := Tryz.sizeOf195
  v53 := Tryz.zeroValue195
  t55 := Tryz.underlying33
  a55 := Tryz.isAgg33
  z55 := Tryz.sizeOf33
  v55 := Tryz.zeroValue33
  t66 := Tryz.underlying219
  a66 := Tryz.isAgg219
  z66 := Tryz.sizeOf219
  v66 := Tryz.zeroValue219
  t70 := Tryz.underlying223
  a70 := Tryz.isAgg223
  z70 := Tryz.sizeOf223
  v70 := Tryz.zeroValue223
  t76 := Tryz.underlying236
  a76 := Tryz.isAgg236
  z76 := Tryz.sizeOf236
  v76 := Tryz.zeroValue236
  t77 := Tryz.underlying237
  a77 := Tryz.isAgg237
  z77 := Tryz.sizeOf237
  v77 := Tryz.zeroValue237 }
end Go.Proofs
