/-
  DERIVED: THE SHELF's CONTRACTS AT THIS DUMP, IN PLAIN WORDS (tools/lay-plain.mjs out of 'YthafpdceknleiaaGreatDoorShelg.lean', which tools/lay-shelf.mjs wrote): THE SAME DECLARATIONS UNDER THE SAME NAMES: 'import', 'namespace', 'open', 'def', 'theorem' AND NOTHING ELSE: no command of the shelf's: FOR A HAND-IN. Each laying: the table of numbers ('.._ren') and one theorem, a field a fact of the dump's own or the kernel's comparison; each contract: ONE APPLICATION.
-/
import Derived.Shelf.SlSortCmp.WholeK
import Derived.Shelf.SlSortCmp.NoneTotal
import Derived.Ground.SlsfProg
import Derived.Test.YthafpdceknleiaaGreatDoorProg
namespace Go.Proofs
open Go.Shelf
def Tryz.sortMem_ren : Go.Shelf.Ren := ⟨fun | 6 => 138 | 15 => 104 | 14 => 167 | 28 => 131 | 29 => 132 | 20 => 180 | 21 => 181 | 22 => 182 | 23 => 183 | 24 => 184 | 25 => 185 | 26 => 186 | 27 => 187 | 46 => 196 | 47 => 160 | 48 => 161 | 49 => 197 | 50 => 198 | 57 => 201 | n => n, fun | 22 => 171 | 24 => 203 | 25 => 241 | 3 => 3 | 39 => 209 | 0 => 0 | 53 => 234 | 55 => 219 | 4 => 4 | 46 => 227 | 45 => 226 | 50 => 42 | 5 => 5 | 9 => 9 | 66 => 258 | 70 => 262 | 76 => 279 | 77 => 280 | n => n, fun | n => n⟩
theorem Tryz.sortMem : Go.Proofs.SlLaysF0.n6 Tryz.prog Tryz.sortMem_ren := {
  mixed := by kernel_rfl
  f6 := ⟨Tryz.f138.name, by decide, Tryz.func138.trans (congrArg some (by kernel_rfl))⟩
  f14 := ⟨Tryz.f167.name, by decide, Tryz.func167.trans (congrArg some (by kernel_rfl))⟩
  f15 := Tryz.func104.trans (congrArg some (by kernel_rfl))
  f20 := ⟨Tryz.f180.name, by decide, Tryz.func180.trans (congrArg some (by kernel_rfl))⟩
  f21 := ⟨Tryz.f181.name, by decide, Tryz.func181.trans (congrArg some (by kernel_rfl))⟩
  f22 := ⟨Tryz.f182.name, by decide, Tryz.func182.trans (congrArg some (by kernel_rfl))⟩
  f23 := ⟨Tryz.f183.name, by decide, Tryz.func183.trans (congrArg some (by kernel_rfl))⟩
  f24 := ⟨Tryz.f184.name, by decide, Tryz.func184.trans (congrArg some (by kernel_rfl))⟩
  f25 := ⟨Tryz.f185.name, by decide, Tryz.func185.trans (congrArg some (by kernel_rfl))⟩
  f26 := ⟨Tryz.f186.name, by decide, Tryz.func186.trans (congrArg some (by kernel_rfl))⟩
  f27 := ⟨Tryz.f187.name, by decide, Tryz.func187.trans (congrArg some (by kernel_rfl))⟩
  f28 := Tryz.func131.trans (congrArg some (by kernel_rfl))
  f29 := Tryz.func132.trans (congrArg some (by kernel_rfl))
  f46 := ⟨Tryz.f196.name, by decide, Tryz.func196.trans (congrArg some (by kernel_rfl))⟩
  f47 := Tryz.func160.trans (congrArg some (by kernel_rfl))
  f48 := Tryz.func161.trans (congrArg some (by kernel_rfl))
  f49 := ⟨Tryz.f197.name, by decide, Tryz.func197.trans (congrArg some (by kernel_rfl))⟩
  f50 := ⟨Tryz.f198.name, by decide, Tryz.func198.trans (congrArg some (by kernel_rfl))⟩
  f57 := ⟨Tryz.f201.name, by decide, Tryz.func201.trans (congrArg some (by kernel_rfl))⟩
  t0 := Tryz.underlying0
  a0 := Tryz.isAgg0
  z0 := Tryz.sizeOf0
  v0 := Tryz.zeroValue0
  t3 := Tryz.underlying3
  a3 := Tryz.isAgg3
  z3 := Tryz.sizeOf3
  v3 := Tryz.zeroValue3
  t4 := Tryz.underlying4
  a4 := Tryz.isAgg4
  z4 := Tryz.sizeOf4
  v4 := Tryz.zeroValue4
  t5 := Tryz.underlying5
  a5 := Tryz.isAgg5
  z5 := Tryz.sizeOf5
  v5 := Tryz.zeroValue5
  t9 := Tryz.underlying9
  a9 := Tryz.isAgg9
  z9 := Tryz.sizeOf9
  v9 := Tryz.zeroValue9
  t22 := Tryz.underlying171
  a22 := Tryz.isAgg171
  z22 := Tryz.sizeOf171
  v22 := Tryz.zeroValue171
  t25 := Tryz.underlying241
  a25 := Tryz.isAgg241
  z25 := Tryz.sizeOf241
  v25 := Tryz.zeroValue241
  t39 := Tryz.underlying209
  a39 := Tryz.isAgg209
  z39 := Tryz.sizeOf209
  v39 := Tryz.zeroValue209
  t45 := Tryz.underlying226
  a45 := Tryz.isAgg226
  z45 := Tryz.sizeOf226
  v45 := Tryz.zeroValue226
  t46 := Tryz.underlying227
  a46 := Tryz.isAgg227
  z46 := Tryz.sizeOf227
  v46 := Tryz.zeroValue227
  t50 := Tryz.underlying42
  a50 := Tryz.isAgg42
  z50 := Tryz.sizeOf42
  v50 := Tryz.zeroValue42
  t53 := Tryz.underlying234
  a53 := Tryz.isAgg234
  z53 := Tryz.sizeOf234
  v53 := Tryz.zeroValue234
  t55 := Tryz.underlying219
  a55 := Tryz.isAgg219
  z55 := Tryz.sizeOf219
  v55 := Tryz.zeroValue219
  t66 := Tryz.underlying258
  a66 := Tryz.isAgg258
  z66 := Tryz.sizeOf258
  v66 := Tryz.zeroValue258
  t70 := Tryz.underlying262
  a70 := Tryz.isAgg262
  z70 := Tryz.sizeOf262
  v70 := Tryz.zeroValue262
  t76 := Tryz.underlying279
  a76 := Tryz.isAgg279
  z76 := Tryz.sizeOf279
  v76 := Tryz.zeroValue279
  t77 := Tryz.underlying280
  a77 := Tryz.isAgg280
  z77 := Tryz.sizeOf280
  v77 := Tryz.zeroValue280 }
end Go.Proofs
