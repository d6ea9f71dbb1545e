/- slices.Sort at texts: the contract of the shelf. -/
import Derived.Test.YtjganhmbjffjfaaGreatDoorShelf
namespace Go.Proofs
open Go.Shelf
def Tryz.lays190_ren : Go.Shelf.Ren := ⟨fun | 190 => 95 | 125 => 120 | 258 => 119 | 128 => 155 | 129 => 156 | 302 => 146 | 303 => 147 | 304 => 148 | 305 => 149 | 306 => 150 | 307 => 151 | 308 => 152 | 309 => 153 | 310 => 154 | 333 => 185 | 329 => 186 | 330 => 187 | 334 => 188 | 335 => 189 | 336 => 190 | 344 => 206 | n => n, fun | 31 => 22 | 9 => 9 | 3 => 3 | 46 => 264 | 0 => 0 | 51 => 298 | 53 => 92 | 4 => 4 | 183 => 292 | 182 => 291 | 131 => 258 | 5 => 5 | 218 => 324 | 222 => 328 | 228 => 345 | 229 => 346 | n => n, fun | n => n⟩
theorem Tryz.lays190 : Go.Proofs.Lays.n190 Tryz.prog Tryz.lays190_ren := {
  mixed := by kernel_rfl
  f125 := Tryz.func120.trans (congrArg some (by kernel_rfl))
  f128 := Tryz.func155.trans (congrArg some (by kernel_rfl))
  f129 := Tryz.func156.trans (congrArg some (by kernel_rfl))
  f190 := Tryz.func95.trans (congrArg some (by kernel_rfl))
  f258 := Tryz.func119.trans (congrArg some (by kernel_rfl))
  f302 := Tryz.func146.trans (congrArg some (by kernel_rfl))
  f303 := Tryz.func147.trans (congrArg some (by kernel_rfl))
  f304 := Tryz.func148.trans (congrArg some (by kernel_rfl))
  f305 := Tryz.func149.trans (congrArg some (by kernel_rfl))
  f306 := Tryz.func150.trans (congrArg some (by kernel_rfl))
  f307 := Tryz.func151.trans (congrArg some (by kernel_rfl))
  f308 := Tryz.func152.trans (congrArg some (by kernel_rfl))
  f309 := Tryz.func153.trans (congrArg some (by kernel_rfl))
  f310 := Tryz.func154.trans (congrArg some (by kernel_rfl))
  f329 := Tryz.func186.trans (congrArg some (by kernel_rfl))
  f330 := Tryz.func187.trans (congrArg some (by kernel_rfl))
  f333 := Tryz.func185.trans (congrArg some (by kernel_rfl))
  f334 := Tryz.func188.trans (congrArg some (by kernel_rfl))
  f335 := Tryz.func189.trans (congrArg some (by kernel_rfl))
  f336 := Tryz.func190.trans (congrArg some (by kernel_rfl))
  f344 := Tryz.func206.trans (congrArg some (by kernel_rfl))
  t0 := Tryz.underlying0
  a0 := Tryz.isAgg0
  z0 := Tryz.sizeOf0
  v0 := Tryz.zeroValue0
  t3 := Tryz.underlying3
  a3 := Tryz.isAgg3
  z3 := Tryz.sizeOf3
  v3 := Tryz.zeroValue3
  t4 := Tryz.underlying4
  a4 := Tryz.isAgg4
  z4 := Tryz.sizeOf4
  v4 := Tryz.zeroValue4
  t5 := Tryz.underlying5
  a5 := Tryz.isAgg5
  z5 := Tryz.sizeOf5
  v5 := Tryz.zeroValue5
  t9 := Tryz.underlying9
  a9 := Tryz.isAgg9
  z9 := Tryz.sizeOf9
  v9 := Tryz.zeroValue9
  t31 := Tryz.underlying22
  a31 := Tryz.isAgg22
  z31 := Tryz.sizeOf22
  v31 := Tryz.zeroValue22
  t46 := Tryz.underlying264
  a46 := Tryz.isAgg264
  z46 := Tryz.sizeOf264
  v46 := Tryz.zeroValue264
  t51 := Tryz.underlying298
  a51 := Tryz.isAgg298
  z51 := Tryz.sizeOf298
  v51 := Tryz.zeroValue298
  t53 := Tryz.underlying92
  a53 := Tryz.isAgg92
  z53 := Tryz.sizeOf92
  v53 := Tryz.zeroValue92
  t131 := Tryz.underlying258
  a131 := Tryz.isAgg258
  z131 := Tryz.sizeOf258
  v131 := Tryz.zeroValue258
  t182 := Tryz.underlying291
  a182 := Tryz.isAgg291
  z182 := Tryz.sizeOf291
  v182 := Tryz.zeroValue291
  t183 := Tryz.underlying292
  a183 := Tryz.isAgg292
  z183 := Tryz.sizeOf292
  v183 := Tryz.zeroValue292
  t218 := Tryz.underlying324
  a218 := Tryz.isAgg324
  z218 := Tryz.sizeOf324
  v218 := Tryz.zeroValue324
  t222 := Tryz.underlying328
  a222 := Tryz.isAgg328
  z222 := Tryz.sizeOf328
  v222 := Tryz.zeroValue328
  t228 := Tryz.underlying345
  a228 := Tryz.isAgg345
  z228 := Tryz.sizeOf345
  v228 := Tryz.zeroValue345
  t229 := Tryz.underlying346
  a229 := Tryz.isAgg346
  z229 := Tryz.sizeOf346
  v229 := Tryz.zeroValue346 }
open Go.Sort Go.RowKit in
theorem Tryz.slices_Sort_string (blk off cap : Nat) (ss : List (List UInt8)) (w : World) (hH : Holds encStr w blk off ss.toArray) (hblk : blk < w.heap.size) (hsz : ss.length < 4611686018427387904) :
    Calls Tryz.prog 95 #[.slice (some ⟨blk, off, none⟩) ss.length cap] w fun e w' =>
      e = .returned (.tuple #[]) ∧ ∃ n os, w' = grow (putRow encStr (Sort.ahead w n) blk off (ss.mergeSort fun x y => decide (x ≤ y)).toArray) os := Any.slices_Sort_string Tryz.lays190 blk off cap ss w hH hblk hsz
end Go.Proofs
