/-
  DERIVED: THE SHELF's CONTRACTS AT THIS DUMP, IN PLAIN WORDS (tools/lay-plain.mjs out of 'YtpkkokhoeiimcaaGreatDoorShelg.lean', which tools/lay-shelf.mjs wrote): THE SAME DECLARATIONS UNDER THE SAME NAMES: 'import', 'namespace', 'open', 'def', 'theorem' AND NOTHING ELSE: no command of the shelf's: FOR A HAND-IN. Each laying: the table of numbers ('.._ren') and one theorem, a field a fact of the dump's own or the kernel's comparison; each contract: ONE APPLICATION.
-/
import Derived.Shelf.SlSortCmp.WholeK
import Derived.Shelf.SlSortCmp.NoneTotal
import Derived.Ground.SlsfProg
import Derived.Test.YtpkkokhoeiimcaaGreatDoorProg
namespace Go.Proofs
open Go.Shelf
def Tryz.sortMem_ren : Go.Shelf.Ren := ⟨fun | 6 => 124 | 15 => 90 | 14 => 153 | 28 => 117 | 29 => 118 | 20 => 166 | 21 => 167 | 22 => 168 | 23 => 169 | 24 => 170 | 25 => 171 | 26 => 172 | 27 => 173 | 46 => 182 | 47 => 146 | 48 => 147 | 49 => 183 | 50 => 184 | 57 => 187 | n => n, fun | 22 => 147 | 24 => 182 | 25 => 220 | 3 => 3 | 39 => 74 | 0 => 0 | 53 => 213 | 55 => 198 | 4 => 4 | 46 => 206 | 45 => 205 | 50 => 183 | 5 => 5 | 9 => 9 | 66 => 237 | 70 => 241 | 76 => 257 | 77 => 258 | n => n, fun | n => n⟩
theorem Tryz.sortMem : Go.Proofs.SlLaysF0.n6 Tryz.prog Tryz.sortMem_ren := {
  mixed := by kernel_rfl
  f6 := ⟨Tryz.f124.name, by decide, Tryz.func124.trans (congrArg some (by kernel_rfl))⟩
  f14 := ⟨Tryz.f153.name, by decide, Tryz.func153.trans (congrArg some (by kernel_rfl))⟩
  f15 := Tryz.func90.trans (congrArg some (by kernel_rfl))
  f20 := ⟨Tryz.f166.name, by decide, Tryz.func166.trans (congrArg some (by kernel_rfl))⟩
  f21 := ⟨Tryz.f167.name, by decide, Tryz.func167.trans (congrArg some (by kernel_rfl))⟩
  f22 := ⟨Tryz.f168.name, by decide, Tryz.func168.trans (congrArg some (by kernel_rfl))⟩
  f23 := ⟨Tryz.f169.name, by decide, Tryz.func169.trans (congrArg some (by kernel_rfl))⟩
  f24 := ⟨Tryz.f170.name, by decide, Tryz.func170.trans (congrArg some (by kernel_rfl))⟩
  f25 := ⟨Tryz.f171.name, by decide, Tryz.func171.trans (congrArg some (by kernel_rfl))⟩
  f26 := ⟨Tryz.f172.name, by decide, Tryz.func172.trans (congrArg some (by kernel_rfl))⟩
  f27 := ⟨Tryz.f173.name, by decide, Tryz.func173.trans (congrArg some (by kernel_rfl))⟩
  f28 := Tryz.func117.trans (congrArg some (by kernel_rfl))
  f29 := Tryz.func118.trans (congrArg some (by kernel_rfl))
  f46 := ⟨Tryz.f182.name, by decide, Tryz.func182.trans (congrArg some (by kernel_rfl))⟩
  f47 := Tryz.func146.trans (congrArg some (by kernel_rfl))
  f48 := Tryz.func147.trans (congrArg some (by kernel_rfl))
  f49 := ⟨Tryz.f183.name, by decide, Tryz.func183.trans (congrArg some (by kernel_rfl))⟩
  f50 := ⟨Tryz.f184.name, by decide, Tryz.func184.trans (congrArg some (by kernel_rfl))⟩
  f57 := ⟨Tryz.f187.name, by decide, Tryz.func187.trans (congrArg some (by kernel_rfl))⟩
  t0 := Tryz.underlying0
  a0 := Tryz.isAgg0
  z0 := Tryz.sizeOf0
  v0 := Tryz.zeroValue0
  t3 := Tryz.underlying3
  a3 := Tryz.isAgg3
  z3 := Tryz.sizeOf3
  v3 := Tryz.zeroValue3
  t4 := Tryz.underlying4
  a4 := Tryz.isAgg4
  z4 := Tryz.sizeOf4
  v4 := Tryz.zeroValue4
  t5 := Tryz.underlying5
  a5 := Tryz.isAgg5
  z5 := Tryz.sizeOf5
  v5 := Tryz.zeroValue5
  t9 := Tryz.underlying9
  a9 := Tryz.isAgg9
  z9 := Tryz.sizeOf9
  v9 := Tryz.zeroValue9
  t22 := Tryz.underlying147
  a22 := Tryz.isAgg147
  z22 := Tryz.sizeOf147
  v22 := Tryz.zeroValue147
  t25 := Tryz.underlying220
  a25 := Tryz.isAgg220
  z25 := Tryz.sizeOf220
  v25 := Tryz.zeroValue220
  t39 := Tryz.underlying74
  a39 := Tryz.isAgg74
  z39 := Tryz.sizeOf74
  v39 := Tryz.zeroValue74
  t45 := Tryz.underlying205
  a45 := Tryz.isAgg205
  z45 := Tryz.sizeOf205
  v45 := Tryz.zeroValue205
  t46 := Tryz.underlying206
  a46 := Tryz.isAgg206
  z46 := Tryz.sizeOf206
  v46 := Tryz.zeroValue206
  t50 := Tryz.underlying183
  a50 := Tryz.isAgg183
  z50 := Tryz.sizeOf183
  v50 := Tryz.zeroValue183
  t53 := Tryz.underlying213
  a53 := Tryz.isAgg213
  z53 := Tryz.sizeOf213
  v53 := Tryz.zeroValue213
  t55 := Tryz.underlying198
  a55 := Tryz.isAgg198
  z55 := Tryz.sizeOf198
  v55 := Tryz.zeroValue198
  t66 := Tryz.underlying237
  a66 := Tryz.isAgg237
  z66 := Tryz.sizeOf237
  v66 := Tryz.zeroValue237
  t70 := Tryz.underlying241
  a70 := Tryz.isAgg241
  z70 := Tryz.sizeOf241
  v70 := Tryz.zeroValue241
  t76 := Tryz.underlying257
  a76 := Tryz.isAgg257
  z76 := Tryz.sizeOf257
  v76 := Tryz.zeroValue257
  t77 := Tryz.underlying258
  a77 := Tryz.isAgg258
  z77 := Tryz.sizeOf258
  v77 := Tryz.zeroValue258 }
end Go.Proofs
