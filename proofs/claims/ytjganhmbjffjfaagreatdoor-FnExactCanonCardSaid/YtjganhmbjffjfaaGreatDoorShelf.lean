/-
  DERIVED: THE SHELF's CONTRACTS AT THIS DUMP, IN PLAIN WORDS (tools/lay-plain.mjs out of 'YtjganhmbjffjfaaGreatDoorShelf.lean', which tools/lay-shelf.mjs wrote): THE SAME DECLARATIONS UNDER THE SAME NAMES: 'import', 'namespace', 'open', 'def', 'theorem' AND NOTHING ELSE: no command of the shelf's: FOR A HAND-IN. Each laying: the table of numbers ('.._ren') and one theorem, a field a fact of the dump's own or the kernel's comparison; each contract: ONE APPLICATION.
-/
import Derived.Shelf.Spec.DecodeRune
import Derived.Shelf.Strings.Builder1
import Derived.Shelf.Small.Bits
import Derived.Shelf.Strings.BuilderF
import Derived.Shelf.Strings.BuilderK
import Derived.Shelf.Strings.BuilderRune
import Derived.Shelf.Utf8.AppendRune
import Derived.Shelf.Strconv.Itoa0
import Derived.Shelf.Strconv.Itoa1
import Derived.Shelf.LaysM
import Derived.Shelf.Strconv.Itoa2
import Derived.Shelf.Strconv.Itoa3
import Derived.Shelf.Bytes.Len
import Derived.Shelf.Bytes.TryGrow
import Derived.Shelf.Bytes.GrowSliceCatch
import Derived.Shelf.Bytes.GrowSlice
import Derived.Shelf.Bytes.Bytes
import Derived.Shelf.Strconv.ParseIntEmpty
import Derived.Shelf.Strconv.Clone
import Derived.Shelf.Strconv.SyntaxError
import Derived.Shelf.LaysC
import Derived.Shelf.Strconv.ToError
import Derived.Shelf.Strconv.Lower
import Derived.Shelf.Strconv.ParseUint10
import Derived.Shelf.Strconv.ParseUint10Empty
import Derived.Shelf.Strconv.ParseUint10Any
import Derived.Shelf.Strconv.ParseInt10
import Derived.Shelf.Strconv.RangeError
import Derived.Shelf.Strconv.ToErrorRange
import Derived.Shelf.Strconv.ParseUintEmpty
import Derived.Shelf.Strconv.ParseUint10b64
import Derived.Shelf.Strconv.ParseUint10b32
import Derived.Shelf.Strconv.ParseUint10b16
import Derived.Shelf.Strconv.ParseUint10b8
import Derived.Shelf.Strconv.ParseUint10At
import Derived.Shelf.Strconv.ParseInt10At64
import Derived.Shelf.Strconv.ParseInt10At32
import Derived.Shelf.Strconv.ParseInt10At16
import Derived.Shelf.Strconv.ParseInt10At8
import Derived.Shelf.Strconv.ParseInt10All
import Derived.Shelf.Strconv.ParseIntPublic10
import Derived.Shelf.Bytes.GrowRow0Kept
import Derived.Shelf.Bytes.GrowRowKept
import Derived.Shelf.Bytes.GrowNilKept
import Derived.Shelf.Bytes.GrowKept
import Derived.Shelf.Bytes.WriteByteKept
import Derived.Shelf.Bytes.WriteStringKept
import Derived.Shelf.Sort.Plain
import Derived.Shelf.Bytes.ResetKept
import Derived.Shelf.Bytes.WriteKept
import Derived.Shelf.Bytes.BufferK
import Derived.Shelf.Bits.Mul64
import Derived.Shelf.Unicode.DecodeSlow
import Derived.Shelf.Unicode.DecodeAny
import Derived.Shelf.Slices.Turned
import Derived.Ground.Names2Prog
import Derived.Shelf.Slices.Clone
import Derived.Shelf.Slices.In.SortNone
import Derived.Test.YtjganhmbjffjfaaGreatDoorProg
namespace Go.Proofs
open Go.Shelf
def Tryz.lays170_ren : Go.Shelf.Ren := ⟨fun | 170 => 179 | n => n, fun | 70 => 132 | 3 => 3 | 0 => 0 | 72 => 134 | 37 => 31 | 5 => 5 | n => n, fun | n => n⟩
theorem Tryz.lays170 : Go.Proofs.Lays.n170 Tryz.prog Tryz.lays170_ren := {
  mixed := by kernel_rfl
  f170 := Tryz.func179.trans (congrArg some (by kernel_rfl))
  t0 := Tryz.underlying0
  a0 := Tryz.isAgg0
  z0 := Tryz.sizeOf0
  v0 := Tryz.zeroValue0
  t3 := Tryz.underlying3
  a3 := Tryz.isAgg3
  z3 := Tryz.sizeOf3
  v3 := Tryz.zeroValue3
  t37 := Tryz.underlying31
  a37 := Tryz.isAgg31
  z37 := Tryz.sizeOf31
  v37 := Tryz.zeroValue31
  t70 := Tryz.underlying132
  a70 := Tryz.isAgg132
  z70 := Tryz.sizeOf132
  v70 := Tryz.zeroValue132
  t72 := Tryz.underlying134
  a72 := Tryz.isAgg134
  z72 := Tryz.sizeOf134
  v72 := Tryz.zeroValue134 }
def Tryz.lays169_ren : Go.Shelf.Ren := ⟨fun | 169 => 65 | n => n, fun | 70 => 132 | 9 => 9 | 0 => 0 | 72 => 134 | 37 => 31 | 127 => 227 | 3 => 3 | 5 => 5 | n => n, fun | n => n⟩
theorem Tryz.lays169 : Go.Proofs.Lays.n169 Tryz.prog Tryz.lays169_ren := {
  mixed := by kernel_rfl
  f169 := Tryz.func65.trans (congrArg some (by kernel_rfl))
  t0 := Tryz.underlying0
  a0 := Tryz.isAgg0
  z0 := Tryz.sizeOf0
  v0 := Tryz.zeroValue0
  t3 := Tryz.underlying3
  a3 := Tryz.isAgg3
  z3 := Tryz.sizeOf3
  v3 := Tryz.zeroValue3
  t9 := Tryz.underlying9
  a9 := Tryz.isAgg9
  z9 := Tryz.sizeOf9
  v9 := Tryz.zeroValue9
  t37 := Tryz.underlying31
  a37 := Tryz.isAgg31
  z37 := Tryz.sizeOf31
  v37 := Tryz.zeroValue31
  t70 := Tryz.underlying132
  a70 := Tryz.isAgg132
  z70 := Tryz.sizeOf132
  v70 := Tryz.zeroValue132
  t72 := Tryz.underlying134
  a72 := Tryz.isAgg134
  z72 := Tryz.sizeOf134
  v72 := Tryz.zeroValue134
  t127 := Tryz.underlying227
  a127 := Tryz.isAgg227
  z127 := Tryz.sizeOf227
  v127 := Tryz.zeroValue227 }
theorem Tryz.Builder_Extra_169 : Builder.Extra Tryz.prog Tryz.lays169_ren := {
  sizeBuilder := by kernel_rfl
  liesBuilder := by kernel_rfl
  t5 := Tryz.underlying5
  a5 := Tryz.isAgg5
  z5 := Tryz.sizeOf5
  v5 := Tryz.zeroValue5
  infoByte := by kernel_rfl
  cellsByte := by kernel_rfl
  sizeByte := by kernel_rfl
  neB5 := by decide }
open Go.RowKit in
/-- (*strings.Builder).Len: "Len returns the number of accumulated bytes; b.Len() == len(b.String()).": the world is as it was. (THE FORM '_f': 'Lib.IsBuilderF'.) (LAID: no walk: one application.) -/
theorem Tryz.Builder_Len_f (B b : Nat) (bs : List Value) (w : World) (h : Lib.IsBuilderF 134 5 B b bs w) :
    Calls Tryz.prog 179 #[.pointer (some ⟨b, 0, none⟩)] w fun e w' => e = .returned (.int .i64 bs.length) ∧ w' = w := Any.Builder_Len_f Tryz.lays170 B b bs w h
open Go.RowKit in
/-- (*strings.Builder).String: "String returns the accumulated string.": WHATEVER THE BUILDER HOLDS; THE FORM '_k': OVER 'Lib.IsBuilderF' (a builder that 'String()' may have read), AND WITH THE FRAME THAT REACHES ABOVE THE BUILDER: 'Lib.OthersKept': every block that is not b and is no row of uint8's stands as it stood: the iterator of a range among them. (LAID: no walk: one application.) -/
theorem Tryz.Builder_String_any_k (B b : Nat) (l : List UInt8) (w : World) (h : Lib.IsBuilderF 134 5 B b (Lib.byteCells l) w) (hBw : B ≤ w.heap.size) :
    Calls Tryz.prog 65 #[.pointer (some ⟨b, 0, none⟩)] w fun e w' => e = .returned (.string ⟨l.toArray⟩) ∧ (Lib.IsBuilderF 134 5 B b (Lib.byteCells l) w' ∧ Below B w w' ∧ Lib.OthersKept 5 (some b) w w') := Any.Builder_String_any_k Tryz.lays169 Tryz.Builder_Extra_169 B b l w h hBw
def Tryz.lays242_ren : Go.Shelf.Ren := ⟨fun | 242 => 200 | 278 => 218 | n => n, fun | 37 => 31 | 21 => 21 | 51 => 298 | 4 => 4 | 5 => 5 | 46 => 264 | n => n, fun | n => n⟩
theorem Tryz.lays242 : Go.Proofs.Lays.n242 Tryz.prog Tryz.lays242_ren := {
  mixed := by kernel_rfl
  f242 := Tryz.func200.trans (congrArg some (by kernel_rfl))
  f278 := Tryz.func218.trans (congrArg some (by kernel_rfl))
  t4 := Tryz.underlying4
  a4 := Tryz.isAgg4
  z4 := Tryz.sizeOf4
  v4 := Tryz.zeroValue4
  t5 := Tryz.underlying5
  a5 := Tryz.isAgg5
  z5 := Tryz.sizeOf5
  v5 := Tryz.zeroValue5
  t21 := Tryz.underlying21
  a21 := Tryz.isAgg21
  z21 := Tryz.sizeOf21
  v21 := Tryz.zeroValue21
  t37 := Tryz.underlying31
  a37 := Tryz.isAgg31
  z37 := Tryz.sizeOf31
  v37 := Tryz.zeroValue31
  t46 := Tryz.underlying264
  a46 := Tryz.isAgg264
  z46 := Tryz.sizeOf264
  v46 := Tryz.zeroValue264
  t51 := Tryz.underlying298
  a51 := Tryz.isAgg298
  z51 := Tryz.sizeOf298
  v51 := Tryz.zeroValue298 }
open Go.RowKit in
/-- unicode/utf8.AppendRune: "AppendRune appends the UTF-8 encoding of r to the end of p and returns the extended buffer. If the rune is out of range, it appends the encoding of RuneError.": ONTO A ROW OF BYTES THAT THE CALL OWNS (its head frozen or not): EVERY int32: 'Lib.runeCells r' goes in behind what the row holds; the world: one new block (the bytes as the call's variadic argument), then what 'append' does to the row. (LAID: no walk: one application.) -/
theorem Tryz.utf8_AppendRune_row (B : Nat) (v : Value) (n : Nat) (xs : List Value) (r : Int) (hr0 : -2147483648 ≤ r) (hr1 : r ≤ 2147483647) (w : World) (hown : w.ownsRowF B 5 1 v n xs) (hlen : n + 4 ≤ 140737488355328) (hBw : B ≤ w.heap.size) :
    Calls Tryz.prog 200 #[v, .int .i32 r] w fun e w' => ∃ v', e = .returned v' ∧ w'.ownsRowF B 5 1 v' (n + (Lib.runeCells r).length) (xs ++ Lib.runeCells r) ∧ ∃ o, (w.alloc o).grownBy w' v.ownBlock := Any.utf8_AppendRune_row Tryz.lays242 (by kernel_rfl) B v n xs r hr0 hr1 w hown hlen hBw
def Tryz.lays129_ren : Go.Shelf.Ren := ⟨fun | 129 => 156 | n => n, fun | 53 => 92 | 3 => 3 | 4 => 4 | 46 => 264 | 5 => 5 | 9 => 9 | n => n, fun | n => n⟩
theorem Tryz.lays129 : Go.Proofs.Lays.n129 Tryz.prog Tryz.lays129_ren := {
  mixed := by kernel_rfl
  f129 := Tryz.func156.trans (congrArg some (by kernel_rfl))
  t3 := Tryz.underlying3
  a3 := Tryz.isAgg3
  z3 := Tryz.sizeOf3
  v3 := Tryz.zeroValue3
  t4 := Tryz.underlying4
  a4 := Tryz.isAgg4
  z4 := Tryz.sizeOf4
  v4 := Tryz.zeroValue4
  t5 := Tryz.underlying5
  a5 := Tryz.isAgg5
  z5 := Tryz.sizeOf5
  v5 := Tryz.zeroValue5
  t9 := Tryz.underlying9
  a9 := Tryz.isAgg9
  z9 := Tryz.sizeOf9
  v9 := Tryz.zeroValue9
  t46 := Tryz.underlying264
  a46 := Tryz.isAgg264
  z46 := Tryz.sizeOf264
  v46 := Tryz.zeroValue264
  t53 := Tryz.underlying92
  a53 := Tryz.isAgg92
  z53 := Tryz.sizeOf92
  v53 := Tryz.zeroValue92 }
/-- bits.Len64: "Len64 returns the minimum number of bits required to represent x; the result is 0 for x == 0.": IT RETURNS 'Lib.bitLen x'; the world is as it was. ('h0', 'h1': x is a uint64.) (LAID: no walk: one application.) -/
theorem Tryz.bits_Len64 (x : Int) (w : World) (h0 : 0 ≤ x) (h1 : x ≤ 18446744073709551615) :
    Calls Tryz.prog 156 #[.int .u64 x] w fun e w' => e = .returned (.int .i64 (Lib.bitLen x.toNat)) ∧ w' = w := Any.bits_Len64 Tryz.lays129 x w h0 h1
def Tryz.laysM284_ren : Go.Shelf.Ren := ⟨fun | 284 => 159 | 129 => 156 | 317 => 192 | 318 => 193 | n => n, fun | 53 => 92 | 3 => 3 | 212 => 332 | 0 => 0 | 4 => 4 | 46 => 264 | 5 => 5 | 9 => 9 | n => n, fun | 17 => 5 | n => n⟩
theorem Tryz.laysM284 : Go.Proofs.LaysM.n284 Tryz.prog Tryz.laysM284_ren := {
  mixed := by kernel_rfl
  f129 := Tryz.func156.trans (congrArg some (by kernel_rfl))
  f284 := Tryz.func159.trans (congrArg some (by kernel_rfl))
  f317 := Tryz.func192.trans (congrArg some (by kernel_rfl))
  f318 := Tryz.func193.trans (congrArg some (by kernel_rfl))
  t0 := Tryz.underlying0
  a0 := Tryz.isAgg0
  z0 := Tryz.sizeOf0
  v0 := Tryz.zeroValue0
  t3 := Tryz.underlying3
  a3 := Tryz.isAgg3
  z3 := Tryz.sizeOf3
  v3 := Tryz.zeroValue3
  t4 := Tryz.underlying4
  a4 := Tryz.isAgg4
  z4 := Tryz.sizeOf4
  v4 := Tryz.zeroValue4
  t5 := Tryz.underlying5
  a5 := Tryz.isAgg5
  z5 := Tryz.sizeOf5
  v5 := Tryz.zeroValue5
  t9 := Tryz.underlying9
  a9 := Tryz.isAgg9
  z9 := Tryz.sizeOf9
  v9 := Tryz.zeroValue9
  t46 := Tryz.underlying264
  a46 := Tryz.isAgg264
  z46 := Tryz.sizeOf264
  v46 := Tryz.zeroValue264
  t53 := Tryz.underlying92
  a53 := Tryz.isAgg92
  z53 := Tryz.sizeOf92
  v53 := Tryz.zeroValue92
  t212 := Tryz.underlying332
  a212 := Tryz.isAgg332
  z212 := Tryz.sizeOf332
  v212 := Tryz.zeroValue332
  g17 := by kernel_rfl
  i0 := by kernel_rfl
  i3 := by kernel_rfl
  i4 := by kernel_rfl
  i5 := by kernel_rfl
  i9 := by kernel_rfl
  i46 := by kernel_rfl
  i53 := by kernel_rfl
  i212 := by kernel_rfl
  m17 := by kernel_rfl }
open Go.Lib in
/-- internal/strconv.numDigits, at a d that is not 0: THE NUMBER OF d's DECIMAL DIGITS. The world is as it was. (LAID: no walk: one application.) -/
theorem Tryz.internal_strconv_numDigits (u : Nat) (h1 : 1 ≤ u) (h2 : u < 18446744073709551616) (w : World) (htab : Lib.TabIs Tryz.prog w "internal/strconv.uint64pow10" .u64 Lib.pow10Tab) :
    Calls Tryz.prog 159 #[.int .u64 u] w fun e w' => e = .returned (.int .i64 (Lib.nDigits u)) ∧ w' = w := Any.internal_strconv_numDigits Tryz.laysM284 u h1 h2 w htab
def Tryz.lays285_ren : Go.Shelf.Ren := ⟨fun | 285 => 160 | n => n, fun | 37 => 31 | 53 => 92 | 3 => 3 | 4 => 4 | 51 => 298 | 9 => 9 | 5 => 5 | 0 => 0 | n => n, fun | n => n⟩
theorem Tryz.lays285 : Go.Proofs.Lays.n285 Tryz.prog Tryz.lays285_ren := {
  mixed := by kernel_rfl
  f285 := Tryz.func160.trans (congrArg some (by kernel_rfl))
  t0 := Tryz.underlying0
  a0 := Tryz.isAgg0
  z0 := Tryz.sizeOf0
  v0 := Tryz.zeroValue0
  t3 := Tryz.underlying3
  a3 := Tryz.isAgg3
  z3 := Tryz.sizeOf3
  v3 := Tryz.zeroValue3
  t4 := Tryz.underlying4
  a4 := Tryz.isAgg4
  z4 := Tryz.sizeOf4
  v4 := Tryz.zeroValue4
  t5 := Tryz.underlying5
  a5 := Tryz.isAgg5
  z5 := Tryz.sizeOf5
  v5 := Tryz.zeroValue5
  t9 := Tryz.underlying9
  a9 := Tryz.isAgg9
  z9 := Tryz.sizeOf9
  v9 := Tryz.zeroValue9
  t37 := Tryz.underlying31
  a37 := Tryz.isAgg31
  z37 := Tryz.sizeOf31
  v37 := Tryz.zeroValue31
  t51 := Tryz.underlying298
  a51 := Tryz.isAgg298
  z51 := Tryz.sizeOf298
  v51 := Tryz.zeroValue298
  t53 := Tryz.underlying92
  a53 := Tryz.isAgg92
  z53 := Tryz.sizeOf92
  v53 := Tryz.zeroValue92 }
open Go.RowKit Go.Sort Go.Lib in
/-- internal/strconv.formatBase10: "formatBase10 formats the decimal representation of u into a. The caller is responsible for ensuring that a is big enough to hold u. If a is too big, leading zeros will be filled in as needed.": THE ROW HOLDS u's DIGITS ('FmtInv .. 0 ..': every place t holds 'dg u (len - 1 - t)'); all else is as it was but for the count of draws. (LAID: no walk: one application.) -/
theorem Tryz.internal_strconv_formatBase10 (blk off cap : Nat) (u : Nat) (d : Array UInt8) (w : World) (hH : Holds (fun (b : UInt8) => Value.int .u8 (b.toNat : Int)) w blk off d) (hu : u < 10 ^ d.size) (hu64 : u < 18446744073709551616) (hsz : d.size < 4611686018427387904) :
    Calls Tryz.prog 160 #[.slice (some ⟨blk, off, none⟩) d.size cap, .int .u64 u] w fun e w' =>
      e = .returned (.tuple #[]) ∧ ∃ (n v' : Nat) (dk : Array UInt8), w' = (putRow (fun (b : UInt8) => Value.int .u8 (b.toNat : Int)) w blk off dk).drewN n ∧ FmtInv d.size u 0 v' dk := Any.internal_strconv_formatBase10 Tryz.lays285 blk off cap u d w hH hu hu64 hsz
def Tryz.laysM171_ren : Go.Shelf.Ren := ⟨fun | 171 => 77 | 243 => 105 | 246 => 126 | 283 => 158 | 284 => 159 | 285 => 160 | 286 => 161 | 129 => 156 | 317 => 192 | 318 => 193 | 319 => 194 | 320 => 195 | 337 => 208 | 338 => 209 | n => n, fun | 3 => 3 | 9 => 9 | 2 => 2 | 4 => 4 | 171 => 301 | 0 => 0 | 53 => 92 | 37 => 31 | 5 => 5 | 173 => 303 | 212 => 332 | 51 => 298 | 20 => 20 | 213 => 333 | 46 => 264 | 232 => 356 | 233 => 357 | n => n, fun | 17 => 5 | 18 => 6 | 19 => 7 | n => n⟩
theorem Tryz.laysM171 : Go.Proofs.LaysM.n171 Tryz.prog Tryz.laysM171_ren := {
  mixed := by kernel_rfl
  f129 := Tryz.func156.trans (congrArg some (by kernel_rfl))
  f171 := Tryz.func77.trans (congrArg some (by kernel_rfl))
  f243 := Tryz.func105.trans (congrArg some (by kernel_rfl))
  f246 := Tryz.func126.trans (congrArg some (by kernel_rfl))
  f283 := Tryz.func158.trans (congrArg some (by kernel_rfl))
  f284 := Tryz.func159.trans (congrArg some (by kernel_rfl))
  f285 := Tryz.func160.trans (congrArg some (by kernel_rfl))
  f286 := Tryz.func161.trans (congrArg some (by kernel_rfl))
  f317 := Tryz.func192.trans (congrArg some (by kernel_rfl))
  f318 := Tryz.func193.trans (congrArg some (by kernel_rfl))
  f319 := Tryz.func194.trans (congrArg some (by kernel_rfl))
  f320 := Tryz.func195.trans (congrArg some (by kernel_rfl))
  f337 := Tryz.func208.trans (congrArg some (by kernel_rfl))
  f338 := Tryz.func209.trans (congrArg some (by kernel_rfl))
  t0 := Tryz.underlying0
  a0 := Tryz.isAgg0
  z0 := Tryz.sizeOf0
  v0 := Tryz.zeroValue0
  t2 := Tryz.underlying2
  a2 := Tryz.isAgg2
  z2 := Tryz.sizeOf2
  v2 := Tryz.zeroValue2
  t3 := Tryz.underlying3
  a3 := Tryz.isAgg3
  z3 := Tryz.sizeOf3
  v3 := Tryz.zeroValue3
  t4 := Tryz.underlying4
  a4 := Tryz.isAgg4
  z4 := Tryz.sizeOf4
  v4 := Tryz.zeroValue4
  t5 := Tryz.underlying5
  a5 := Tryz.isAgg5
  z5 := Tryz.sizeOf5
  v5 := Tryz.zeroValue5
  t9 := Tryz.underlying9
  a9 := Tryz.isAgg9
  z9 := Tryz.sizeOf9
  v9 := Tryz.zeroValue9
  t20 := Tryz.underlying20
  a20 := Tryz.isAgg20
  z20 := Tryz.sizeOf20
  v20 := Tryz.zeroValue20
  t37 := Tryz.underlying31
  a37 := Tryz.isAgg31
  z37 := Tryz.sizeOf31
  v37 := Tryz.zeroValue31
  t46 := Tryz.underlying264
  a46 := Tryz.isAgg264
  z46 := Tryz.sizeOf264
  v46 := Tryz.zeroValue264
  t51 := Tryz.underlying298
  a51 := Tryz.isAgg298
  z51 := Tryz.sizeOf298
  v51 := Tryz.zeroValue298
  t53 := Tryz.underlying92
  a53 := Tryz.isAgg92
  z53 := Tryz.sizeOf92
  v53 := Tryz.zeroValue92
  t171 := Tryz.underlying301
  a171 := Tryz.isAgg301
  z171 := Tryz.sizeOf301
  v171 := Tryz.zeroValue301
  t173 := Tryz.underlying303
  a173 := Tryz.isAgg303
  z173 := Tryz.sizeOf303
  v173 := Tryz.zeroValue303
  t212 := Tryz.underlying332
  a212 := Tryz.isAgg332
  z212 := Tryz.sizeOf332
  v212 := Tryz.zeroValue332
  t213 := Tryz.underlying333
  a213 := Tryz.isAgg333
  z213 := Tryz.sizeOf333
  t232 := Tryz.underlying356
  a232 := Tryz.isAgg356
  z232 := Tryz.sizeOf356
  v232 := Tryz.zeroValue356
  t233 := Tryz.underlying357
  a233 := Tryz.isAgg357
  z233 := Tryz.sizeOf357
  v233 := Tryz.zeroValue357
  g17 := by kernel_rfl
  g18 := by kernel_rfl
  g19 := by kernel_rfl
  i0 := by kernel_rfl
  i2 := by kernel_rfl
  i3 := by kernel_rfl
  i4 := by kernel_rfl
  i5 := by kernel_rfl
  i9 := by kernel_rfl
  i20 := by kernel_rfl
  i37 := by kernel_rfl
  i46 := by kernel_rfl
  i51 := by kernel_rfl
  i53 := by kernel_rfl
  i171 := by kernel_rfl
  i173 := by kernel_rfl
  i212 := by kernel_rfl
  i232 := by kernel_rfl
  i233 := by kernel_rfl
  m17 := by kernel_rfl
  m18 := by kernel_rfl
  m19 := by kernel_rfl }
open Go.RowKit Go.Sort Go.Lib in
/-- strconv.Itoa: "Itoa is equivalent to FormatInt(int64(i), 10).": i's DECIMAL NUMERAL ('Lib.itoa': a '-' where i is negative, then the digits), FOR EVERY int. The world behind the call: the world before it, new blocks behind the heap (the library's 'var a [24]byte'), draws. (LAID: no walk: one application.) -/
theorem Tryz.strconv_Itoa (n : Int) (h0 : -9223372036854775808 ≤ n) (h1 : n ≤ 9223372036854775807) (w : World) (htab : Lib.TabIs Tryz.prog w "internal/strconv.uint64pow10" .u64 Lib.pow10Tab) :
    Calls Tryz.prog 77 #[.int .i64 n] w fun e w' => e = .returned (.string ⟨(Lib.itoa n).toArray⟩) ∧ ∃ k os, w' = grow (w.drewN k) os := Any.strconv_Itoa Tryz.laysM171 n h0 h1 w htab
def Tryz.laysM183_ren : Go.Shelf.Ren := ⟨fun | 183 => 88 | n => n, fun | 130 => 216 | 37 => 31 | 0 => 0 | 93 => 213 | 3 => 3 | 5 => 5 | 91 => 211 | n => n, fun | n => n⟩
theorem Tryz.laysM183 : Go.Proofs.LaysM.n183 Tryz.prog Tryz.laysM183_ren := {
  mixed := by kernel_rfl
  f183 := Tryz.func88.trans (congrArg some (by kernel_rfl))
  t0 := Tryz.underlying0
  a0 := Tryz.isAgg0
  z0 := Tryz.sizeOf0
  v0 := Tryz.zeroValue0
  t3 := Tryz.underlying3
  a3 := Tryz.isAgg3
  z3 := Tryz.sizeOf3
  v3 := Tryz.zeroValue3
  t37 := Tryz.underlying31
  a37 := Tryz.isAgg31
  z37 := Tryz.sizeOf31
  v37 := Tryz.zeroValue31
  t93 := Tryz.underlying213
  a93 := Tryz.isAgg213
  z93 := Tryz.sizeOf213
  v93 := Tryz.zeroValue213
  t130 := Tryz.underlying216
  a130 := Tryz.isAgg216
  z130 := Tryz.sizeOf216
  v130 := Tryz.zeroValue216
  t5 := Tryz.underlying5
  a5 := Tryz.isAgg5
  z5 := Tryz.sizeOf5
  v5 := Tryz.zeroValue5
  t91 := Tryz.underlying211
  a91 := Tryz.isAgg211
  z91 := Tryz.sizeOf211
  v91 := Tryz.zeroValue211
  i0 := by kernel_rfl
  i3 := by kernel_rfl
  i5 := by kernel_rfl
  i37 := by kernel_rfl
  i91 := by kernel_rfl
  i93 := by kernel_rfl
  i130 := by kernel_rfl }
open Go.RowKit in
/-- (*bytes.Buffer).Bytes: "Bytes returns a slice of length b.Len() holding the unread portion of the buffer. .. The slice aliases the buffer content at least until the next buffer modification": A SLICE THAT OWNS THE CELLS bs ('World.ownsRow': nil where nothing was ever written). The world is as it was but for the count of draws. (LAID: no walk: one application.) -/
theorem Tryz.Buffer_Bytes (B b : Nat) (bs : List Value) (w : World) (h : Lib.IsBuffer 213 5 B b bs w) :
    Calls Tryz.prog 88 #[.pointer (some ⟨b, 0, none⟩)] w fun e w' => ∃ v, e = .returned v ∧ w'.ownsRow B 5 1 v bs.length bs ∧ ∃ n, w' = w.drewN n := Any.Buffer_Bytes Tryz.laysM183 B b bs w h
def Tryz.laysC245_ren : Go.Shelf.Ren := ⟨fun | 245 => 118 | 279 => 142 | 280 => 143 | 281 => 144 | 282 => 145 | 316 => 184 | 171 => 77 | 205 => 63 | 243 => 105 | 246 => 126 | 283 => 158 | 284 => 159 | 285 => 160 | 286 => 161 | 129 => 156 | 317 => 192 | 318 => 193 | 319 => 194 | 320 => 195 | 337 => 208 | 338 => 209 | n => n, fun | 9 => 9 | 3 => 3 | 75 => 85 | 167 => 284 | 4 => 4 | 168 => 287 | 210 => 323 | 37 => 31 | 0 => 0 | 127 => 227 | 145 => 223 | 143 => 221 | 2 => 2 | 171 => 301 | 53 => 92 | 5 => 5 | 173 => 303 | 212 => 332 | 51 => 298 | 20 => 20 | 213 => 333 | 46 => 264 | 232 => 356 | 233 => 357 | 80 => 136 | n => n, fun | 15 => 3 | 16 => 4 | 17 => 5 | 18 => 6 | 19 => 7 | n => n⟩
theorem Tryz.laysC245 : Go.Proofs.LaysC.n245 Tryz.prog Tryz.laysC245_ren := {
  mixed := by kernel_rfl
  f129 := Tryz.func156.trans (congrArg some (by kernel_rfl))
  f171 := Tryz.func77.trans (congrArg some (by kernel_rfl))
  f205 := Tryz.func63.trans (congrArg some (by kernel_rfl))
  f243 := Tryz.func105.trans (congrArg some (by kernel_rfl))
  f245 := Tryz.func118.trans (congrArg some (by kernel_rfl))
  f246 := Tryz.func126.trans (congrArg some (by kernel_rfl))
  f279 := Tryz.func142.trans (congrArg some (by kernel_rfl))
  f280 := Tryz.func143.trans (congrArg some (by kernel_rfl))
  f281 := Tryz.func144.trans (congrArg some (by kernel_rfl))
  f282 := Tryz.func145.trans (congrArg some (by kernel_rfl))
  f283 := Tryz.func158.trans (congrArg some (by kernel_rfl))
  f284 := Tryz.func159.trans (congrArg some (by kernel_rfl))
  f285 := Tryz.func160.trans (congrArg some (by kernel_rfl))
  f286 := Tryz.func161.trans (congrArg some (by kernel_rfl))
  f316 := Tryz.func184.trans (congrArg some (by kernel_rfl))
  f317 := Tryz.func192.trans (congrArg some (by kernel_rfl))
  f318 := Tryz.func193.trans (congrArg some (by kernel_rfl))
  f319 := Tryz.func194.trans (congrArg some (by kernel_rfl))
  f320 := Tryz.func195.trans (congrArg some (by kernel_rfl))
  f337 := Tryz.func208.trans (congrArg some (by kernel_rfl))
  f338 := Tryz.func209.trans (congrArg some (by kernel_rfl))
  t0 := Tryz.underlying0
  a0 := Tryz.isAgg0
  z0 := Tryz.sizeOf0
  v0 := Tryz.zeroValue0
  t2 := Tryz.underlying2
  a2 := Tryz.isAgg2
  z2 := Tryz.sizeOf2
  v2 := Tryz.zeroValue2
  t3 := Tryz.underlying3
  a3 := Tryz.isAgg3
  z3 := Tryz.sizeOf3
  v3 := Tryz.zeroValue3
  t4 := Tryz.underlying4
  a4 := Tryz.isAgg4
  z4 := Tryz.sizeOf4
  v4 := Tryz.zeroValue4
  t5 := Tryz.underlying5
  a5 := Tryz.isAgg5
  z5 := Tryz.sizeOf5
  v5 := Tryz.zeroValue5
  t9 := Tryz.underlying9
  a9 := Tryz.isAgg9
  z9 := Tryz.sizeOf9
  v9 := Tryz.zeroValue9
  t20 := Tryz.underlying20
  a20 := Tryz.isAgg20
  z20 := Tryz.sizeOf20
  v20 := Tryz.zeroValue20
  t37 := Tryz.underlying31
  a37 := Tryz.isAgg31
  z37 := Tryz.sizeOf31
  v37 := Tryz.zeroValue31
  t46 := Tryz.underlying264
  a46 := Tryz.isAgg264
  z46 := Tryz.sizeOf264
  v46 := Tryz.zeroValue264
  t51 := Tryz.underlying298
  a51 := Tryz.isAgg298
  z51 := Tryz.sizeOf298
  v51 := Tryz.zeroValue298
  t53 := Tryz.underlying92
  a53 := Tryz.isAgg92
  z53 := Tryz.sizeOf92
  v53 := Tryz.zeroValue92
  t75 := Tryz.underlying85
  a75 := Tryz.isAgg85
  z75 := Tryz.sizeOf85
  v75 := Tryz.zeroValue85
  t127 := Tryz.underlying227
  a127 := Tryz.isAgg227
  z127 := Tryz.sizeOf227
  v127 := Tryz.zeroValue227
  t143 := Tryz.underlying221
  a143 := Tryz.isAgg221
  z143 := Tryz.sizeOf221
  v143 := Tryz.zeroValue221
  t145 := Tryz.underlying223
  a145 := Tryz.isAgg223
  z145 := Tryz.sizeOf223
  v145 := Tryz.zeroValue223
  t167 := Tryz.underlying284
  a167 := Tryz.isAgg284
  z167 := Tryz.sizeOf284
  v167 := Tryz.zeroValue284
  t168 := Tryz.underlying287
  a168 := Tryz.isAgg287
  z168 := Tryz.sizeOf287
  v168 := Tryz.zeroValue287
  t171 := Tryz.underlying301
  a171 := Tryz.isAgg301
  z171 := Tryz.sizeOf301
  v171 := Tryz.zeroValue301
  t173 := Tryz.underlying303
  a173 := Tryz.isAgg303
  z173 := Tryz.sizeOf303
  v173 := Tryz.zeroValue303
  t210 := Tryz.underlying323
  a210 := Tryz.isAgg323
  z210 := Tryz.sizeOf323
  v210 := Tryz.zeroValue323
  t212 := Tryz.underlying332
  a212 := Tryz.isAgg332
  z212 := Tryz.sizeOf332
  v212 := Tryz.zeroValue332
  t213 := Tryz.underlying333
  a213 := Tryz.isAgg333
  z213 := Tryz.sizeOf333
  t232 := Tryz.underlying356
  a232 := Tryz.isAgg356
  z232 := Tryz.sizeOf356
  v232 := Tryz.zeroValue356
  t233 := Tryz.underlying357
  a233 := Tryz.isAgg357
  z233 := Tryz.sizeOf357
  v233 := Tryz.zeroValue357
  g15 := by kernel_rfl
  g16 := by kernel_rfl
  g17 := by kernel_rfl
  g18 := by kernel_rfl
  g19 := by kernel_rfl
  t80 := Tryz.underlying136
  a80 := Tryz.isAgg136
  z80 := Tryz.sizeOf136
  v80 := Tryz.zeroValue136
  i0 := by kernel_rfl
  i2 := by kernel_rfl
  i3 := by kernel_rfl
  i4 := by kernel_rfl
  i5 := by kernel_rfl
  i9 := by kernel_rfl
  i20 := by kernel_rfl
  i37 := by kernel_rfl
  i46 := by kernel_rfl
  i51 := by kernel_rfl
  i53 := by kernel_rfl
  i75 := by kernel_rfl
  i80 := by kernel_rfl
  i127 := by kernel_rfl
  i143 := by kernel_rfl
  i145 := by kernel_rfl
  i167 := by kernel_rfl
  i168 := by kernel_rfl
  i171 := by kernel_rfl
  i173 := by kernel_rfl
  i210 := by kernel_rfl
  i212 := by kernel_rfl
  i232 := by kernel_rfl
  i233 := by kernel_rfl
  m15 := by kernel_rfl
  m16 := by kernel_rfl
  m17 := by kernel_rfl
  m18 := by kernel_rfl
  m19 := by kernel_rfl
  c0 := by kernel_rfl
  c2 := by kernel_rfl
  c3 := by kernel_rfl
  c4 := by kernel_rfl
  c5 := by kernel_rfl
  c9 := by kernel_rfl
  c20 := by kernel_rfl
  c37 := by kernel_rfl
  c46 := by kernel_rfl
  c51 := by kernel_rfl
  c53 := by kernel_rfl
  c75 := by kernel_rfl
  c80 := by kernel_rfl
  c127 := by kernel_rfl
  c143 := by kernel_rfl
  c145 := by kernel_rfl
  c167 := by kernel_rfl
  c168 := by kernel_rfl
  c171 := by kernel_rfl
  c173 := by kernel_rfl
  c210 := by kernel_rfl
  c212 := by kernel_rfl
  c213 := by kernel_rfl
  c232 := by kernel_rfl
  c233 := by kernel_rfl }
open Go.RowKit in
/-- strconv.toError, at the inner package's ErrSyntax: 'syntaxError(fn, s)' as an error: A *NumError IN A NEW BLOCK. (LAID: no walk: one application.) -/
theorem Tryz.strconv_toError_syntax (fn s : ByteArray) (base bits : Int) (ev : Value) (w : World) (hlim : s.size ≤ 281474976710656) (hv : w.cell? ⟨3, 0, none⟩ = some ev) (hev : ev = .nilIface ∨ ∃ te pe, ev = .iface te pe) :
    Calls Tryz.prog 118 #[.string fn, .string s, .int .i64 base, .int .i64 bits, .iface 284 (.int .i64 2)] w fun e w' => ∃ N, e = .returned (.iface 287 (.pointer (some ⟨N, 0, none⟩))) ∧ w.heap.size ≤ N ∧ w'.heap[N]? = some (.cells #[.string fn, .string s, ev] 323 (0, 0)) ∧ Below w.heap.size w w' := Any.strconv_toError_syntax Tryz.laysC245 fn s base bits ev w hlim hv hev
def Tryz.laysC174_ren : Go.Shelf.Ren := ⟨fun | 174 => 94 | 247 => 117 | 245 => 118 | 287 => 141 | 279 => 142 | 280 => 143 | 281 => 144 | 282 => 145 | 321 => 182 | 322 => 183 | 316 => 184 | 171 => 77 | 205 => 63 | 243 => 105 | 246 => 126 | 283 => 158 | 284 => 159 | 285 => 160 | 286 => 161 | 129 => 156 | 317 => 192 | 318 => 193 | 319 => 194 | 320 => 195 | 337 => 208 | 338 => 209 | n => n, fun | 9 => 9 | 3 => 3 | 2 => 2 | 75 => 85 | 85 => 224 | 4 => 4 | 167 => 284 | 5 => 5 | 53 => 92 | 175 => 285 | 46 => 264 | 168 => 287 | 37 => 31 | 0 => 0 | 210 => 323 | 21 => 21 | 127 => 227 | 145 => 223 | 143 => 221 | 171 => 301 | 173 => 303 | 212 => 332 | 51 => 298 | 20 => 20 | 213 => 333 | 232 => 356 | 233 => 357 | 80 => 136 | n => n, fun | 15 => 3 | 16 => 4 | 17 => 5 | 18 => 6 | 19 => 7 | n => n⟩
theorem Tryz.laysC174 : Go.Proofs.LaysC.n174 Tryz.prog Tryz.laysC174_ren := {
  mixed := by kernel_rfl
  f129 := Tryz.func156.trans (congrArg some (by kernel_rfl))
  f171 := Tryz.func77.trans (congrArg some (by kernel_rfl))
  f174 := Tryz.func94.trans (congrArg some (by kernel_rfl))
  f205 := Tryz.func63.trans (congrArg some (by kernel_rfl))
  f243 := Tryz.func105.trans (congrArg some (by kernel_rfl))
  f245 := Tryz.func118.trans (congrArg some (by kernel_rfl))
  f246 := Tryz.func126.trans (congrArg some (by kernel_rfl))
  f247 := Tryz.func117.trans (congrArg some (by kernel_rfl))
  f279 := Tryz.func142.trans (congrArg some (by kernel_rfl))
  f280 := Tryz.func143.trans (congrArg some (by kernel_rfl))
  f281 := Tryz.func144.trans (congrArg some (by kernel_rfl))
  f282 := Tryz.func145.trans (congrArg some (by kernel_rfl))
  f283 := Tryz.func158.trans (congrArg some (by kernel_rfl))
  f284 := Tryz.func159.trans (congrArg some (by kernel_rfl))
  f285 := Tryz.func160.trans (congrArg some (by kernel_rfl))
  f286 := Tryz.func161.trans (congrArg some (by kernel_rfl))
  f287 := Tryz.func141.trans (congrArg some (by kernel_rfl))
  f316 := Tryz.func184.trans (congrArg some (by kernel_rfl))
  f317 := Tryz.func192.trans (congrArg some (by kernel_rfl))
  f318 := Tryz.func193.trans (congrArg some (by kernel_rfl))
  f319 := Tryz.func194.trans (congrArg some (by kernel_rfl))
  f320 := Tryz.func195.trans (congrArg some (by kernel_rfl))
  f321 := Tryz.func182.trans (congrArg some (by kernel_rfl))
  f322 := Tryz.func183.trans (congrArg some (by kernel_rfl))
  f337 := Tryz.func208.trans (congrArg some (by kernel_rfl))
  f338 := Tryz.func209.trans (congrArg some (by kernel_rfl))
  t0 := Tryz.underlying0
  a0 := Tryz.isAgg0
  z0 := Tryz.sizeOf0
  v0 := Tryz.zeroValue0
  t2 := Tryz.underlying2
  a2 := Tryz.isAgg2
  z2 := Tryz.sizeOf2
  v2 := Tryz.zeroValue2
  t3 := Tryz.underlying3
  a3 := Tryz.isAgg3
  z3 := Tryz.sizeOf3
  v3 := Tryz.zeroValue3
  t4 := Tryz.underlying4
  a4 := Tryz.isAgg4
  z4 := Tryz.sizeOf4
  v4 := Tryz.zeroValue4
  t5 := Tryz.underlying5
  a5 := Tryz.isAgg5
  z5 := Tryz.sizeOf5
  v5 := Tryz.zeroValue5
  t9 := Tryz.underlying9
  a9 := Tryz.isAgg9
  z9 := Tryz.sizeOf9
  v9 := Tryz.zeroValue9
  t20 := Tryz.underlying20
  a20 := Tryz.isAgg20
  z20 := Tryz.sizeOf20
  v20 := Tryz.zeroValue20
  t21 := Tryz.underlying21
  a21 := Tryz.isAgg21
  z21 := Tryz.sizeOf21
  v21 := Tryz.zeroValue21
  t37 := Tryz.underlying31
  a37 := Tryz.isAgg31
  z37 := Tryz.sizeOf31
  v37 := Tryz.zeroValue31
  t46 := Tryz.underlying264
  a46 := Tryz.isAgg264
  z46 := Tryz.sizeOf264
  v46 := Tryz.zeroValue264
  t51 := Tryz.underlying298
  a51 := Tryz.isAgg298
  z51 := Tryz.sizeOf298
  v51 := Tryz.zeroValue298
  t53 := Tryz.underlying92
  a53 := Tryz.isAgg92
  z53 := Tryz.sizeOf92
  v53 := Tryz.zeroValue92
  t75 := Tryz.underlying85
  a75 := Tryz.isAgg85
  z75 := Tryz.sizeOf85
  v75 := Tryz.zeroValue85
  t85 := Tryz.underlying224
  a85 := Tryz.isAgg224
  z85 := Tryz.sizeOf224
  v85 := Tryz.zeroValue224
  t127 := Tryz.underlying227
  a127 := Tryz.isAgg227
  z127 := Tryz.sizeOf227
  v127 := Tryz.zeroValue227
  t143 := Tryz.underlying221
  a143 := Tryz.isAgg221
  z143 := Tryz.sizeOf221
  v143 := Tryz.zeroValue221
  t145 := Tryz.underlying223
  a145 := Tryz.isAgg223
  z145 := Tryz.sizeOf223
  v145 := Tryz.zeroValue223
  t167 := Tryz.underlying284
  a167 := Tryz.isAgg284
  z167 := Tryz.sizeOf284
  v167 := Tryz.zeroValue284
  t168 := Tryz.underlying287
  a168 := Tryz.isAgg287
  z168 := Tryz.sizeOf287
  v168 := Tryz.zeroValue287
  t171 := Tryz.underlying301
  a171 := Tryz.isAgg301
  z171 := Tryz.sizeOf301
  v171 := Tryz.zeroValue301
  t173 := Tryz.underlying303
  a173 := Tryz.isAgg303
  z173 := Tryz.sizeOf303
  v173 := Tryz.zeroValue303
  t175 := Tryz.underlying285
  a175 := Tryz.isAgg285
  z175 := Tryz.sizeOf285
  v175 := Tryz.zeroValue285
  t210 := Tryz.underlying323
  a210 := Tryz.isAgg323
  z210 := Tryz.sizeOf323
  v210 := Tryz.zeroValue323
  t212 := Tryz.underlying332
  a212 := Tryz.isAgg332
  z212 := Tryz.sizeOf332
  v212 := Tryz.zeroValue332
  t213 := Tryz.underlying333
  a213 := Tryz.isAgg333
  z213 := Tryz.sizeOf333
  t232 := Tryz.underlying356
  a232 := Tryz.isAgg356
  z232 := Tryz.sizeOf356
  v232 := Tryz.zeroValue356
  t233 := Tryz.underlying357
  a233 := Tryz.isAgg357
  z233 := Tryz.sizeOf357
  v233 := Tryz.zeroValue357
  g15 := by kernel_rfl
  g16 := by kernel_rfl
  g17 := by kernel_rfl
  g18 := by kernel_rfl
  g19 := by kernel_rfl
  t80 := Tryz.underlying136
  a80 := Tryz.isAgg136
  z80 := Tryz.sizeOf136
  v80 := Tryz.zeroValue136
  i0 := by kernel_rfl
  i2 := by kernel_rfl
  i3 := by kernel_rfl
  i4 := by kernel_rfl
  i5 := by kernel_rfl
  i9 := by kernel_rfl
  i20 := by kernel_rfl
  i21 := by kernel_rfl
  i37 := by kernel_rfl
  i46 := by kernel_rfl
  i51 := by kernel_rfl
  i53 := by kernel_rfl
  i75 := by kernel_rfl
  i80 := by kernel_rfl
  i85 := by kernel_rfl
  i127 := by kernel_rfl
  i143 := by kernel_rfl
  i145 := by kernel_rfl
  i167 := by kernel_rfl
  i168 := by kernel_rfl
  i171 := by kernel_rfl
  i173 := by kernel_rfl
  i175 := by kernel_rfl
  i210 := by kernel_rfl
  i212 := by kernel_rfl
  i232 := by kernel_rfl
  i233 := by kernel_rfl
  m15 := by kernel_rfl
  m16 := by kernel_rfl
  m17 := by kernel_rfl
  m18 := by kernel_rfl
  m19 := by kernel_rfl
  c0 := by kernel_rfl
  c2 := by kernel_rfl
  c3 := by kernel_rfl
  c4 := by kernel_rfl
  c5 := by kernel_rfl
  c9 := by kernel_rfl
  c20 := by kernel_rfl
  c21 := by kernel_rfl
  c37 := by kernel_rfl
  c46 := by kernel_rfl
  c51 := by kernel_rfl
  c53 := by kernel_rfl
  c75 := by kernel_rfl
  c80 := by kernel_rfl
  c85 := by kernel_rfl
  c127 := by kernel_rfl
  c143 := by kernel_rfl
  c145 := by kernel_rfl
  c167 := by kernel_rfl
  c168 := by kernel_rfl
  c171 := by kernel_rfl
  c173 := by kernel_rfl
  c175 := by kernel_rfl
  c210 := by kernel_rfl
  c212 := by kernel_rfl
  c213 := by kernel_rfl
  c232 := by kernel_rfl
  c233 := by kernel_rfl }
open Go.RowKit in
/-- strconv.ParseInt(s, 10, 64), AT EVERY STRING THAT SPELLS AN int64 ('Lib.parseIntB 64 s.data.toList = .ok v'): v, AND NO ERROR. (LAID: no walk: one application.) -/
theorem Tryz.strconv_ParseInt_10_at64_ok (s : ByteArray) (hmax : s.size ≤ 9223372036854775806) (v : Int) (h : Lib.parseIntB 64 s.data.toList = .ok v) (w : World) :
    Calls Tryz.prog 94 #[.string s, .int .i64 10, .int .i64 64] w fun e w' => e = .returned (.tuple #[.int .i64 v, .nilIface]) ∧ (w' = w ∨ ∃ t, w' = Lib.bytesWorld w 5 t) := Any.strconv_ParseInt_10_at64_ok Tryz.laysC174 s hmax v h w
def Tryz.laysM252_ren : Go.Shelf.Ren := ⟨fun | 252 => 112 | 181 => 135 | 184 => 136 | 251 => 114 | 290 => 137 | 324 => 181 | n => n, fun | 130 => 216 | 3 => 3 | 4 => 4 | 0 => 0 | 93 => 213 | 131 => 258 | 37 => 31 | 75 => 85 | 91 => 211 | 20 => 20 | 5 => 5 | 80 => 136 | 9 => 9 | n => n, fun | 14 => 2 | n => n⟩
theorem Tryz.laysM252 : Go.Proofs.LaysM.n252 Tryz.prog Tryz.laysM252_ren := {
  mixed := by kernel_rfl
  f181 := Tryz.func135.trans (congrArg some (by kernel_rfl))
  f184 := Tryz.func136.trans (congrArg some (by kernel_rfl))
  f251 := Tryz.func114.trans (congrArg some (by kernel_rfl))
  f252 := Tryz.func112.trans (congrArg some (by kernel_rfl))
  f290 := Tryz.func137.trans (congrArg some (by kernel_rfl))
  f324 := Tryz.func181.trans (congrArg some (by kernel_rfl))
  t0 := Tryz.underlying0
  a0 := Tryz.isAgg0
  z0 := Tryz.sizeOf0
  v0 := Tryz.zeroValue0
  t3 := Tryz.underlying3
  a3 := Tryz.isAgg3
  z3 := Tryz.sizeOf3
  v3 := Tryz.zeroValue3
  t4 := Tryz.underlying4
  a4 := Tryz.isAgg4
  z4 := Tryz.sizeOf4
  v4 := Tryz.zeroValue4
  t20 := Tryz.underlying20
  a20 := Tryz.isAgg20
  z20 := Tryz.sizeOf20
  v20 := Tryz.zeroValue20
  t37 := Tryz.underlying31
  a37 := Tryz.isAgg31
  z37 := Tryz.sizeOf31
  v37 := Tryz.zeroValue31
  t75 := Tryz.underlying85
  a75 := Tryz.isAgg85
  z75 := Tryz.sizeOf85
  v75 := Tryz.zeroValue85
  t91 := Tryz.underlying211
  a91 := Tryz.isAgg211
  z91 := Tryz.sizeOf211
  v91 := Tryz.zeroValue211
  t93 := Tryz.underlying213
  a93 := Tryz.isAgg213
  z93 := Tryz.sizeOf213
  v93 := Tryz.zeroValue213
  t130 := Tryz.underlying216
  a130 := Tryz.isAgg216
  z130 := Tryz.sizeOf216
  v130 := Tryz.zeroValue216
  t131 := Tryz.underlying258
  a131 := Tryz.isAgg258
  z131 := Tryz.sizeOf258
  v131 := Tryz.zeroValue258
  g14 := by kernel_rfl
  t5 := Tryz.underlying5
  a5 := Tryz.isAgg5
  z5 := Tryz.sizeOf5
  v5 := Tryz.zeroValue5
  t9 := Tryz.underlying9
  a9 := Tryz.isAgg9
  z9 := Tryz.sizeOf9
  v9 := Tryz.zeroValue9
  t80 := Tryz.underlying136
  a80 := Tryz.isAgg136
  z80 := Tryz.sizeOf136
  v80 := Tryz.zeroValue136
  i0 := by kernel_rfl
  i3 := by kernel_rfl
  i4 := by kernel_rfl
  i5 := by kernel_rfl
  i9 := by kernel_rfl
  i20 := by kernel_rfl
  i37 := by kernel_rfl
  i75 := by kernel_rfl
  i80 := by kernel_rfl
  i91 := by kernel_rfl
  i93 := by kernel_rfl
  i130 := by kernel_rfl
  i131 := by kernel_rfl
  m14 := by kernel_rfl }
open Go.RowKit in
/-- grow, 'buf' nil, n AT MOST 64: 'b.buf = make([]byte, n, smallBufferSize)'. (LAID: no walk: one application.) -/
theorem Tryz.Buffer_grow_nil_small_kept (B b n : Nat) (lr : Int) (w : World) (hB : B ≤ b) (hBw : B ≤ w.heap.size) (hbk : w.heap[b]? = some (.cells #[.slice none 0 0, .int .i64 0, .int .i8 lr] 213 (0, 0))) (hn : 1 ≤ n) (h64 : n ≤ 64) :
    Calls Tryz.prog 112 #[.pointer (some ⟨b, 0, none⟩), .int .i64 n] w fun e w' => e = .returned (.int .i64 0) ∧ ∃ xs, xs.length = n ∧ Lib.IsBuffer 213 5 B b xs w' ∧ Below B w w' ∧ Lib.OthersKept 5 (some b) w w' := Any.Buffer_grow_nil_small_kept Tryz.laysM252 B b n lr w hB hBw hbk hn h64
open Go.RowKit in
/-- grow, 'buf' nil, n ABOVE 64: growSlice of the nil slice. (LAID: no walk: one application.) -/
theorem Tryz.Buffer_grow_nil_big_kept (B b n : Nat) (lr : Int) (w : World) (hB : B ≤ b) (hBw : B ≤ w.heap.size) (hbk : w.heap[b]? = some (.cells #[.slice none 0 0, .int .i64 0, .int .i8 lr] 213 (0, 0))) (h64 : 64 < n) (hlim : n ≤ 140737488355328) :
    Calls Tryz.prog 112 #[.pointer (some ⟨b, 0, none⟩), .int .i64 n] w fun e w' => e = .returned (.int .i64 0) ∧ ∃ xs, xs.length = n ∧ Lib.IsBuffer 213 5 B b xs w' ∧ Below B w w' ∧ Lib.OthersKept 5 (some b) w w' := Any.Buffer_grow_nil_big_kept Tryz.laysM252 B b n lr w hB hBw hbk h64 hlim
def Tryz.laysM179_ren : Go.Shelf.Ren := ⟨fun | 179 => 90 | 251 => 114 | 252 => 112 | 181 => 135 | 184 => 136 | 290 => 137 | 324 => 181 | n => n, fun | 130 => 216 | 5 => 5 | 75 => 85 | 0 => 0 | 93 => 213 | 91 => 211 | 3 => 3 | 131 => 258 | 4 => 4 | 37 => 31 | 20 => 20 | 80 => 136 | 9 => 9 | n => n, fun | 14 => 2 | n => n⟩
theorem Tryz.laysM179 : Go.Proofs.LaysM.n179 Tryz.prog Tryz.laysM179_ren := {
  mixed := by kernel_rfl
  f179 := Tryz.func90.trans (congrArg some (by kernel_rfl))
  f181 := Tryz.func135.trans (congrArg some (by kernel_rfl))
  f184 := Tryz.func136.trans (congrArg some (by kernel_rfl))
  f251 := Tryz.func114.trans (congrArg some (by kernel_rfl))
  f252 := Tryz.func112.trans (congrArg some (by kernel_rfl))
  f290 := Tryz.func137.trans (congrArg some (by kernel_rfl))
  f324 := Tryz.func181.trans (congrArg some (by kernel_rfl))
  t0 := Tryz.underlying0
  a0 := Tryz.isAgg0
  z0 := Tryz.sizeOf0
  v0 := Tryz.zeroValue0
  t3 := Tryz.underlying3
  a3 := Tryz.isAgg3
  z3 := Tryz.sizeOf3
  v3 := Tryz.zeroValue3
  t4 := Tryz.underlying4
  a4 := Tryz.isAgg4
  z4 := Tryz.sizeOf4
  v4 := Tryz.zeroValue4
  t5 := Tryz.underlying5
  a5 := Tryz.isAgg5
  z5 := Tryz.sizeOf5
  v5 := Tryz.zeroValue5
  t20 := Tryz.underlying20
  a20 := Tryz.isAgg20
  z20 := Tryz.sizeOf20
  v20 := Tryz.zeroValue20
  t37 := Tryz.underlying31
  a37 := Tryz.isAgg31
  z37 := Tryz.sizeOf31
  v37 := Tryz.zeroValue31
  t75 := Tryz.underlying85
  a75 := Tryz.isAgg85
  z75 := Tryz.sizeOf85
  v75 := Tryz.zeroValue85
  t91 := Tryz.underlying211
  a91 := Tryz.isAgg211
  z91 := Tryz.sizeOf211
  v91 := Tryz.zeroValue211
  t93 := Tryz.underlying213
  a93 := Tryz.isAgg213
  z93 := Tryz.sizeOf213
  v93 := Tryz.zeroValue213
  t130 := Tryz.underlying216
  a130 := Tryz.isAgg216
  z130 := Tryz.sizeOf216
  v130 := Tryz.zeroValue216
  t131 := Tryz.underlying258
  a131 := Tryz.isAgg258
  z131 := Tryz.sizeOf258
  v131 := Tryz.zeroValue258
  g14 := by kernel_rfl
  t9 := Tryz.underlying9
  a9 := Tryz.isAgg9
  z9 := Tryz.sizeOf9
  v9 := Tryz.zeroValue9
  t80 := Tryz.underlying136
  a80 := Tryz.isAgg136
  z80 := Tryz.sizeOf136
  v80 := Tryz.zeroValue136
  i0 := by kernel_rfl
  i3 := by kernel_rfl
  i4 := by kernel_rfl
  i5 := by kernel_rfl
  i9 := by kernel_rfl
  i20 := by kernel_rfl
  i37 := by kernel_rfl
  i75 := by kernel_rfl
  i80 := by kernel_rfl
  i91 := by kernel_rfl
  i93 := by kernel_rfl
  i130 := by kernel_rfl
  i131 := by kernel_rfl
  m14 := by kernel_rfl }
def Tryz.laysM178_ren : Go.Shelf.Ren := ⟨fun | 178 => 89 | 251 => 114 | 252 => 112 | 181 => 135 | 184 => 136 | 290 => 137 | 324 => 181 | n => n, fun | 130 => 216 | 9 => 9 | 3 => 3 | 75 => 85 | 0 => 0 | 93 => 213 | 91 => 211 | 131 => 258 | 4 => 4 | 37 => 31 | 20 => 20 | 80 => 136 | 5 => 5 | n => n, fun | 14 => 2 | n => n⟩
theorem Tryz.laysM178 : Go.Proofs.LaysM.n178 Tryz.prog Tryz.laysM178_ren := {
  mixed := by kernel_rfl
  f178 := Tryz.func89.trans (congrArg some (by kernel_rfl))
  f181 := Tryz.func135.trans (congrArg some (by kernel_rfl))
  f184 := Tryz.func136.trans (congrArg some (by kernel_rfl))
  f251 := Tryz.func114.trans (congrArg some (by kernel_rfl))
  f252 := Tryz.func112.trans (congrArg some (by kernel_rfl))
  f290 := Tryz.func137.trans (congrArg some (by kernel_rfl))
  f324 := Tryz.func181.trans (congrArg some (by kernel_rfl))
  t0 := Tryz.underlying0
  a0 := Tryz.isAgg0
  z0 := Tryz.sizeOf0
  v0 := Tryz.zeroValue0
  t3 := Tryz.underlying3
  a3 := Tryz.isAgg3
  z3 := Tryz.sizeOf3
  v3 := Tryz.zeroValue3
  t4 := Tryz.underlying4
  a4 := Tryz.isAgg4
  z4 := Tryz.sizeOf4
  v4 := Tryz.zeroValue4
  t9 := Tryz.underlying9
  a9 := Tryz.isAgg9
  z9 := Tryz.sizeOf9
  v9 := Tryz.zeroValue9
  t20 := Tryz.underlying20
  a20 := Tryz.isAgg20
  z20 := Tryz.sizeOf20
  v20 := Tryz.zeroValue20
  t37 := Tryz.underlying31
  a37 := Tryz.isAgg31
  z37 := Tryz.sizeOf31
  v37 := Tryz.zeroValue31
  t75 := Tryz.underlying85
  a75 := Tryz.isAgg85
  z75 := Tryz.sizeOf85
  v75 := Tryz.zeroValue85
  t91 := Tryz.underlying211
  a91 := Tryz.isAgg211
  z91 := Tryz.sizeOf211
  v91 := Tryz.zeroValue211
  t93 := Tryz.underlying213
  a93 := Tryz.isAgg213
  z93 := Tryz.sizeOf213
  v93 := Tryz.zeroValue213
  t130 := Tryz.underlying216
  a130 := Tryz.isAgg216
  z130 := Tryz.sizeOf216
  v130 := Tryz.zeroValue216
  t131 := Tryz.underlying258
  a131 := Tryz.isAgg258
  z131 := Tryz.sizeOf258
  v131 := Tryz.zeroValue258
  g14 := by kernel_rfl
  t5 := Tryz.underlying5
  a5 := Tryz.isAgg5
  z5 := Tryz.sizeOf5
  v5 := Tryz.zeroValue5
  t80 := Tryz.underlying136
  a80 := Tryz.isAgg136
  z80 := Tryz.sizeOf136
  v80 := Tryz.zeroValue136
  i0 := by kernel_rfl
  i3 := by kernel_rfl
  i4 := by kernel_rfl
  i5 := by kernel_rfl
  i9 := by kernel_rfl
  i20 := by kernel_rfl
  i37 := by kernel_rfl
  i75 := by kernel_rfl
  i80 := by kernel_rfl
  i91 := by kernel_rfl
  i93 := by kernel_rfl
  i130 := by kernel_rfl
  i131 := by kernel_rfl
  m14 := by kernel_rfl }
def Tryz.laysM180_ren : Go.Shelf.Ren := ⟨fun | 180 => 91 | 251 => 114 | 252 => 112 | 181 => 135 | 184 => 136 | 290 => 137 | 324 => 181 | n => n, fun | 130 => 216 | 37 => 31 | 3 => 3 | 75 => 85 | 0 => 0 | 93 => 213 | 91 => 211 | 131 => 258 | 4 => 4 | 20 => 20 | 5 => 5 | 80 => 136 | 9 => 9 | n => n, fun | 14 => 2 | n => n⟩
theorem Tryz.laysM180 : Go.Proofs.LaysM.n180 Tryz.prog Tryz.laysM180_ren := {
  mixed := by kernel_rfl
  f180 := Tryz.func91.trans (congrArg some (by kernel_rfl))
  f181 := Tryz.func135.trans (congrArg some (by kernel_rfl))
  f184 := Tryz.func136.trans (congrArg some (by kernel_rfl))
  f251 := Tryz.func114.trans (congrArg some (by kernel_rfl))
  f252 := Tryz.func112.trans (congrArg some (by kernel_rfl))
  f290 := Tryz.func137.trans (congrArg some (by kernel_rfl))
  f324 := Tryz.func181.trans (congrArg some (by kernel_rfl))
  t0 := Tryz.underlying0
  a0 := Tryz.isAgg0
  z0 := Tryz.sizeOf0
  v0 := Tryz.zeroValue0
  t3 := Tryz.underlying3
  a3 := Tryz.isAgg3
  z3 := Tryz.sizeOf3
  v3 := Tryz.zeroValue3
  t4 := Tryz.underlying4
  a4 := Tryz.isAgg4
  z4 := Tryz.sizeOf4
  v4 := Tryz.zeroValue4
  t20 := Tryz.underlying20
  a20 := Tryz.isAgg20
  z20 := Tryz.sizeOf20
  v20 := Tryz.zeroValue20
  t37 := Tryz.underlying31
  a37 := Tryz.isAgg31
  z37 := Tryz.sizeOf31
  v37 := Tryz.zeroValue31
  t75 := Tryz.underlying85
  a75 := Tryz.isAgg85
  z75 := Tryz.sizeOf85
  v75 := Tryz.zeroValue85
  t91 := Tryz.underlying211
  a91 := Tryz.isAgg211
  z91 := Tryz.sizeOf211
  v91 := Tryz.zeroValue211
  t93 := Tryz.underlying213
  a93 := Tryz.isAgg213
  z93 := Tryz.sizeOf213
  v93 := Tryz.zeroValue213
  t130 := Tryz.underlying216
  a130 := Tryz.isAgg216
  z130 := Tryz.sizeOf216
  v130 := Tryz.zeroValue216
  t131 := Tryz.underlying258
  a131 := Tryz.isAgg258
  z131 := Tryz.sizeOf258
  v131 := Tryz.zeroValue258
  g14 := by kernel_rfl
  t5 := Tryz.underlying5
  a5 := Tryz.isAgg5
  z5 := Tryz.sizeOf5
  v5 := Tryz.zeroValue5
  t9 := Tryz.underlying9
  a9 := Tryz.isAgg9
  z9 := Tryz.sizeOf9
  v9 := Tryz.zeroValue9
  t80 := Tryz.underlying136
  a80 := Tryz.isAgg136
  z80 := Tryz.sizeOf136
  v80 := Tryz.zeroValue136
  i0 := by kernel_rfl
  i3 := by kernel_rfl
  i4 := by kernel_rfl
  i5 := by kernel_rfl
  i9 := by kernel_rfl
  i20 := by kernel_rfl
  i37 := by kernel_rfl
  i75 := by kernel_rfl
  i80 := by kernel_rfl
  i91 := by kernel_rfl
  i93 := by kernel_rfl
  i130 := by kernel_rfl
  i131 := by kernel_rfl
  m14 := by kernel_rfl }
open Go.RowKit in
theorem Tryz.Buffer_WriteByte_k (B b : Nat) (bs : List Value) (c : Int) (w : World) (h : Lib.IsBuffer 213 5 B b bs w) (hBw : B ≤ w.heap.size) (h1 : ∀ v ∈ bs, v.oneCell' = true) (hlim : bs.length + 1 ≤ 140737488355328) :
    Calls Tryz.prog 90 #[.pointer (some ⟨b, 0, none⟩), .int .u8 c] w fun e w' => e = .returned .nilIface ∧ Lib.IsBuffer 213 5 B b (bs ++ [.int .u8 c]) w' ∧ Below B w w' ∧ Lib.OthersKept 5 (some b) w w' := Any.Buffer_WriteByte_k Tryz.laysM179 B b bs c w h hBw h1 hlim
open Go.RowKit in
theorem Tryz.Buffer_WriteString_k (B b : Nat) (bs : List Value) (s : ByteArray) (w : World) (h : Lib.IsBuffer 213 5 B b bs w) (hBw : B ≤ w.heap.size) (h1 : ∀ v ∈ bs, v.oneCell' = true) (hlim : bs.length + s.size ≤ 140737488355328) :
    Calls Tryz.prog 89 #[.pointer (some ⟨b, 0, none⟩), .string s] w fun e w' => e = .returned (.tuple #[.int .i64 s.size, .nilIface]) ∧ Lib.IsBuffer 213 5 B b (bs ++ Lib.byteCells s.data.toList) w' ∧ Below B w w' ∧ Lib.OthersKept 5 (some b) w w' := Any.Buffer_WriteString_k Tryz.laysM178 B b bs s w h hBw h1 hlim
open Go.RowKit in
theorem Tryz.Buffer_Write_k (B b : Nat) (bs cs : List Value) (a : Addr) (n c : Nat) (w : World) (h : Lib.IsBuffer 213 5 B b bs w) (hBw : B ≤ w.heap.size) (h1 : ∀ v ∈ bs, v.oneCell' = true) (hn : cs.length = n) (haB : a.block < B) (hsrc : ∀ j v, cs[j]? = some v → w.cell? (a.add j) = some v) (h1c : ∀ v ∈ cs, v.oneCell' = true) (hlim : bs.length + n ≤ 140737488355328) :
    Calls Tryz.prog 91 #[.pointer (some ⟨b, 0, none⟩), .slice (some a) n c] w fun e w' => e = .returned (.tuple #[.int .i64 n, .nilIface]) ∧ Lib.IsBuffer 213 5 B b (bs ++ cs) w' ∧ Below B w w' ∧ Lib.OthersKept 5 (some b) w w' := Any.Buffer_Write_k Tryz.laysM180 B b bs cs a n c w h hBw h1 hn haB hsrc h1c hlim
def Tryz.lays264_ren : Go.Shelf.Ren := ⟨fun | 264 => 283 | n => n, fun | 53 => 92 | 46 => 264 | n => n, fun | n => n⟩
theorem Tryz.lays264 : Go.Proofs.Lays.n264 Tryz.prog Tryz.lays264_ren := {
  mixed := by kernel_rfl
  f264 := Tryz.func283.trans (congrArg some (by kernel_rfl))
  t46 := Tryz.underlying264
  a46 := Tryz.isAgg264
  z46 := Tryz.sizeOf264
  v46 := Tryz.zeroValue264
  t53 := Tryz.underlying92
  a53 := Tryz.isAgg92
  z53 := Tryz.sizeOf92
  v53 := Tryz.zeroValue92 }
open Go.RowKit Go.Lib in
theorem Tryz.bits_Mul64 (x y : Nat) (hx : x < 18446744073709551616) (hy : y < 18446744073709551616) (w : World) :
    Calls Tryz.prog 283 #[.int .u64 x, .int .u64 y] w fun e w' => e = .returned (.tuple #[.int .u64 ((x * y / 18446744073709551616 : Nat) : Int), .int .u64 ((x * y % 18446744073709551616 : Nat) : Int)]) ∧ w' = w := Any.bits_Mul64 Tryz.lays264 x y hx hy w
def Tryz.lays7n32_ren : Go.Shelf.Ren := ⟨fun | 32 => 175 | 49 => 201 | n => n, fun | 30 => 31 | 21 => 21 | 3 => 3 | 0 => 0 | 5 => 5 | 4 => 4 | 33 => 317 | 66 => 267 | 25 => 264 | 69 => 270 | 68 => 269 | n => n, fun | 2 => 0 | 3 => 1 | n => n⟩
theorem Tryz.lays7n32 : Go.Proofs.Lays7.n32 Tryz.prog Tryz.lays7n32_ren := {
  mixed := by kernel_rfl
  f32 := Tryz.func175.trans (congrArg some (by kernel_rfl))
  f49 := Tryz.func201.trans (congrArg some (by kernel_rfl))
  t0 := Tryz.underlying0
  a0 := Tryz.isAgg0
  z0 := Tryz.sizeOf0
  v0 := Tryz.zeroValue0
  i0 := by kernel_rfl
  t3 := Tryz.underlying3
  a3 := Tryz.isAgg3
  z3 := Tryz.sizeOf3
  v3 := Tryz.zeroValue3
  i3 := by kernel_rfl
  t4 := Tryz.underlying4
  a4 := Tryz.isAgg4
  z4 := Tryz.sizeOf4
  v4 := Tryz.zeroValue4
  i4 := by kernel_rfl
  t5 := Tryz.underlying5
  a5 := Tryz.isAgg5
  z5 := Tryz.sizeOf5
  v5 := Tryz.zeroValue5
  i5 := by kernel_rfl
  t21 := Tryz.underlying21
  a21 := Tryz.isAgg21
  z21 := Tryz.sizeOf21
  v21 := Tryz.zeroValue21
  i21 := by kernel_rfl
  t25 := Tryz.underlying264
  a25 := Tryz.isAgg264
  z25 := Tryz.sizeOf264
  v25 := Tryz.zeroValue264
  i25 := by kernel_rfl
  t30 := Tryz.underlying31
  a30 := Tryz.isAgg31
  z30 := Tryz.sizeOf31
  v30 := Tryz.zeroValue31
  i30 := by kernel_rfl
  t33 := Tryz.underlying317
  a33 := Tryz.isAgg317
  z33 := Tryz.sizeOf317
  v33 := Tryz.zeroValue317
  i33 := by kernel_rfl
  t66 := Tryz.underlying267
  a66 := Tryz.isAgg267
  z66 := Tryz.sizeOf267
  t68 := Tryz.underlying269
  a68 := Tryz.isAgg269
  z68 := Tryz.sizeOf269
  v68 := Tryz.zeroValue269
  i68 := by kernel_rfl
  t69 := Tryz.underlying270
  a69 := Tryz.isAgg270
  z69 := Tryz.sizeOf270
  v69 := Tryz.zeroValue270
  i69 := by kernel_rfl
  g2 := by kernel_rfl
  g3 := by kernel_rfl }
open Go.RowKit in
/-- unicode/utf8.DecodeRune at every slice of bytes that is not nil. -/
theorem Tryz.utf8_DecodeRune (s : ByteArray) (b off cap : Nat) (w : World) (hT : Lib.Utf8Tabs 0 1 w)
    (hp : ∀ j, j < s.size → w.cell? ⟨b, off + j, none⟩ = some (.int .u8 (s.get! j).toNat)) :
    Calls Tryz.prog 175 #[.slice (some ⟨b, off, none⟩) s.size cap] w fun e w' => e = .returned (.tuple #[.int .i32 (Lib.decodeGo s).1, .int .i64 (Lib.decodeGo s).2]) ∧ Below w.heap.size w w' := Any7.utf8_DecodeRune Tryz.lays7n32 s b off cap w hT hp
end Go.Proofs
