/-
  DERIVED: THE SHELF's CONTRACTS AT THIS DUMP, IN PLAIN WORDS (tools/lay-plain.mjs out of 'TryzShelf.lean', which tools/lay-shelf.mjs wrote): THE SAME DECLARATIONS UNDER THE SAME NAMES: 'import', 'namespace', 'open', 'def', 'theorem' AND NOTHING ELSE: no command of the shelf's: FOR A HAND-IN. Each laying: the table of numbers ('.._ren') and one theorem, a field a fact of the dump's own or the kernel's comparison; each contract: ONE APPLICATION.
-/
import Derived.Shelf.Small.Utf8
import Derived.Shelf.Small.Strs
import Derived.Shelf.Strconv.Itoa0
import Derived.Shelf.Strconv.Itoa1
import Derived.Shelf.LaysM
import Derived.Shelf.Strconv.Itoa2
import Derived.Shelf.Strconv.Itoa3
import Derived.Shelf.Bytes.Len
import Derived.Shelf.Bytes.TryGrow
import Derived.Shelf.Bytes.GrowSliceCatch
import Derived.Shelf.Bytes.GrowSlice
import Derived.Shelf.Bytes.Bytes
import Derived.Ground.MnProg
import Derived.Shelf.Bin.BEUint16
import Derived.Shelf.Bin.BEPutUint16
import Derived.Shelf.Bin.BEUint64
import Derived.Shelf.Bin.BEUint64Panics
import Derived.Shelf.Bin.PutUvarint
import Derived.Ground.MpProg
import Derived.Shelf.Pu.ParseUintPublic10
import Derived.Shelf.Bin.ReadersZ
import Derived.Shelf.Bytes.GrowRow0Own
import Derived.Shelf.Bytes.GrowRowOwn
import Derived.Shelf.Bytes.GrowNilOwn
import Derived.Shelf.Bytes.GrowOwn
import Derived.Shelf.Bytes.WriteAny
import Derived.Shelf.Strings.Prefix
import Derived.Shelf.Bits.Mul64
import Derived.Shelf.Unicode.DecodeSlow
import Derived.Shelf.Bytes.SlEqualAll
import Derived.Shelf.Bytes.Small
import Derived.Test.YtnpcmmjdojdmnaaGreatDoorProg
namespace Go.Proofs
open Go.Shelf
def Tryz.lays118_ren : Go.Shelf.Ren := ⟨fun | 118 => 376 | n => n, fun | 21 => 21 | 3 => 3 | 4 => 4 | n => n, fun | n => n⟩
theorem Tryz.lays118 : Go.Proofs.Lays.n118 Tryz.prog Tryz.lays118_ren := {
  mixed := by kernel_rfl
  f118 := Tryz.func376.trans (congrArg some (by kernel_rfl))
  t3 := Tryz.underlying3
  a3 := Tryz.isAgg3
  z3 := Tryz.sizeOf3
  v3 := Tryz.zeroValue3
  t4 := Tryz.underlying4
  a4 := Tryz.isAgg4
  z4 := Tryz.sizeOf4
  v4 := Tryz.zeroValue4
  t21 := Tryz.underlying21
  a21 := Tryz.isAgg21
  z21 := Tryz.sizeOf21
  v21 := Tryz.zeroValue21 }
/-- utf8.RuneLen: "RuneLen returns the number of bytes in the UTF-8 encoding of the rune. It returns -1 if the rune is not a valid value to encode in UTF-8.": IT RETURNS 'Lib.runeLen r'; the world is as it was. (LAID: no walk: one application.) -/
theorem Tryz.utf8_RuneLen (r : Int) (w : World) :
    Calls Tryz.prog 376 #[.int .i32 r] w fun e w' => e = .returned (.int .i64 (Lib.runeLen r)) ∧ w' = w := Any.utf8_RuneLen Tryz.lays118 r w
def Tryz.lays213_ren : Go.Shelf.Ren := ⟨fun | 213 => 73 | 265 => 149 | n => n, fun | 9 => 9 | 3 => 3 | n => n, fun | n => n⟩
theorem Tryz.lays213 : Go.Proofs.Lays.n213 Tryz.prog Tryz.lays213_ren := {
  mixed := by kernel_rfl
  f213 := Tryz.func73.trans (congrArg some (by kernel_rfl))
  f265 := Tryz.func149.trans (congrArg some (by kernel_rfl))
  t3 := Tryz.underlying3
  a3 := Tryz.isAgg3
  z3 := Tryz.sizeOf3
  v3 := Tryz.zeroValue3
  t9 := Tryz.underlying9
  a9 := Tryz.isAgg9
  z9 := Tryz.sizeOf9
  v9 := Tryz.zeroValue9 }
open Go.RowKit in
/-- internal/bytealg.CompareString (what strings.Compare calls): IT RETURNS 'Lib.compareBytes a b'; the world is as it was. (LAID: no walk: one application.) -/
theorem Tryz.bytealg_CompareString (a b : ByteArray) (w : World) :
    Calls Tryz.prog 73 #[.string a, .string b] w fun e w' => e = .returned (.int .i64 (Lib.compareBytes a.data.toList b.data.toList)) ∧ w' = w := Any.bytealg_CompareString Tryz.lays213 a b w
def Tryz.lays106_ren : Go.Shelf.Ren := ⟨fun | 106 => 50 | 213 => 73 | 265 => 149 | n => n, fun | 9 => 9 | 3 => 3 | n => n, fun | n => n⟩
theorem Tryz.lays106 : Go.Proofs.Lays.n106 Tryz.prog Tryz.lays106_ren := {
  mixed := by kernel_rfl
  f106 := Tryz.func50.trans (congrArg some (by kernel_rfl))
  f213 := Tryz.func73.trans (congrArg some (by kernel_rfl))
  f265 := Tryz.func149.trans (congrArg some (by kernel_rfl))
  t3 := Tryz.underlying3
  a3 := Tryz.isAgg3
  z3 := Tryz.sizeOf3
  v3 := Tryz.zeroValue3
  t9 := Tryz.underlying9
  a9 := Tryz.isAgg9
  z9 := Tryz.sizeOf9
  v9 := Tryz.zeroValue9 }
open Go.RowKit in
/-- strings.Compare: "Compare returns an integer comparing two strings lexicographically. The result will be 0 if a == b, -1 if a < b, and +1 if a > b.": IT RETURNS 'Lib.compareBytes a b'; the world is as it was. (LAID: no walk: one application.) -/
theorem Tryz.strings_Compare (a b : ByteArray) (w : World) :
    Calls Tryz.prog 50 #[.string a, .string b] w fun e w' => e = .returned (.int .i64 (Lib.compareBytes a.data.toList b.data.toList)) ∧ w' = w := Any.strings_Compare Tryz.lays106 a b w
def Tryz.lays129_ren : Go.Shelf.Ren := ⟨fun | 129 => 187 | n => n, fun | 53 => 67 | 3 => 3 | 4 => 4 | 46 => 151 | 5 => 5 | 9 => 9 | n => n, fun | n => n⟩
theorem Tryz.lays129 : Go.Proofs.Lays.n129 Tryz.prog Tryz.lays129_ren := {
  mixed := by kernel_rfl
  f129 := Tryz.func187.trans (congrArg some (by kernel_rfl))
  t3 := Tryz.underlying3
  a3 := Tryz.isAgg3
  z3 := Tryz.sizeOf3
  v3 := Tryz.zeroValue3
  t4 := Tryz.underlying4
  a4 := Tryz.isAgg4
  z4 := Tryz.sizeOf4
  v4 := Tryz.zeroValue4
  t5 := Tryz.underlying5
  a5 := Tryz.isAgg5
  z5 := Tryz.sizeOf5
  v5 := Tryz.zeroValue5
  t9 := Tryz.underlying9
  a9 := Tryz.isAgg9
  z9 := Tryz.sizeOf9
  v9 := Tryz.zeroValue9
  t46 := Tryz.underlying151
  a46 := Tryz.isAgg151
  z46 := Tryz.sizeOf151
  v46 := Tryz.zeroValue151
  t53 := Tryz.underlying67
  a53 := Tryz.isAgg67
  z53 := Tryz.sizeOf67
  v53 := Tryz.zeroValue67 }
/-- bits.Len64: "Len64 returns the minimum number of bits required to represent x; the result is 0 for x == 0.": IT RETURNS 'Lib.bitLen x'; the world is as it was. ('h0', 'h1': x is a uint64.) (LAID: no walk: one application.) -/
theorem Tryz.bits_Len64 (x : Int) (w : World) (h0 : 0 ≤ x) (h1 : x ≤ 18446744073709551615) :
    Calls Tryz.prog 187 #[.int .u64 x] w fun e w' => e = .returned (.int .i64 (Lib.bitLen x.toNat)) ∧ w' = w := Any.bits_Len64 Tryz.lays129 x w h0 h1
def Tryz.lays317_ren : Go.Shelf.Ren := ⟨fun | 317 => 335 | n => n, fun | 3 => 3 | 46 => 151 | n => n, fun | n => n⟩
theorem Tryz.lays317 : Go.Proofs.Lays.n317 Tryz.prog Tryz.lays317_ren := {
  mixed := by kernel_rfl
  f317 := Tryz.func335.trans (congrArg some (by kernel_rfl))
  t3 := Tryz.underlying3
  a3 := Tryz.isAgg3
  z3 := Tryz.sizeOf3
  v3 := Tryz.zeroValue3
  t46 := Tryz.underlying151
  a46 := Tryz.isAgg151
  z46 := Tryz.sizeOf151
  v46 := Tryz.zeroValue151 }
open Go.Lib in
/-- internal/strconv.log10Pow2: "log10Pow2(x) returns ⌊log₁₀ 2**x⌋ = ⌊x * log₁₀ 2⌋.": '(x * 78913) >> 18', at an x up to 64 (a length in bits). The world is as it was. (LAID: no walk: one application.) -/
theorem Tryz.internal_strconv_log10Pow2 (x : Nat) (h : x ≤ 64) (w : World) :
    Calls Tryz.prog 335 #[.int .i64 x] w fun e w' => e = .returned (.int .i64 (Lib.l10 x)) ∧ w' = w := Any.internal_strconv_log10Pow2 Tryz.lays317 x h w
def Tryz.lays318_ren : Go.Shelf.Ren := ⟨fun | 318 => 336 | n => n, fun | 3 => 3 | 4 => 4 | n => n, fun | n => n⟩
theorem Tryz.lays318 : Go.Proofs.Lays.n318 Tryz.prog Tryz.lays318_ren := {
  mixed := by kernel_rfl
  f318 := Tryz.func336.trans (congrArg some (by kernel_rfl))
  t3 := Tryz.underlying3
  a3 := Tryz.isAgg3
  z3 := Tryz.sizeOf3
  v3 := Tryz.zeroValue3
  t4 := Tryz.underlying4
  a4 := Tryz.isAgg4
  z4 := Tryz.sizeOf4
  v4 := Tryz.zeroValue4 }
open Go.Lib in
/-- internal/strconv.bool2: "bool2 converts b to an integer: 1 for true, 0 for false." The world is as it was. (LAID: no walk: one application.) -/
theorem Tryz.internal_strconv_bool2_int (b : Bool) (w : World) :
    Calls Tryz.prog 336 #[.bool b] w fun e w' => e = .returned (.int .i64 (if b then 1 else 0)) ∧ w' = w := Any.internal_strconv_bool2_int Tryz.lays318 b w
def Tryz.lays283_ren : Go.Shelf.Ren := ⟨fun | 283 => 275 | n => n, fun | 3 => 3 | 9 => 9 | 4 => 4 | n => n, fun | n => n⟩
theorem Tryz.lays283 : Go.Proofs.Lays.n283 Tryz.prog Tryz.lays283_ren := {
  mixed := by kernel_rfl
  f283 := Tryz.func275.trans (congrArg some (by kernel_rfl))
  t3 := Tryz.underlying3
  a3 := Tryz.isAgg3
  z3 := Tryz.sizeOf3
  v3 := Tryz.zeroValue3
  t4 := Tryz.underlying4
  a4 := Tryz.isAgg4
  z4 := Tryz.sizeOf4
  v4 := Tryz.zeroValue4
  t9 := Tryz.underlying9
  a9 := Tryz.isAgg9
  z9 := Tryz.sizeOf9
  v9 := Tryz.zeroValue9 }
open Go.Lib in
/-- internal/strconv.small: "small returns the string for an i with 0 <= i < nSmalls.": i's decimal numeral. The world is as it was. (LAID: no walk: one application.) -/
theorem Tryz.internal_strconv_small (i : Nat) (h : i < 100) (w : World) :
    Calls Tryz.prog 275 #[.int .i64 i] w fun e w' => e = .returned (.string ⟨(Lib.decDigits i).toArray⟩) ∧ w' = w := Any.internal_strconv_small Tryz.lays283 i h w
def Tryz.laysM284_ren : Go.Shelf.Ren := ⟨fun | 284 => 276 | 129 => 187 | 317 => 335 | 318 => 336 | n => n, fun | 53 => 67 | 3 => 3 | 212 => 250 | 0 => 0 | 4 => 4 | 46 => 151 | 5 => 5 | 9 => 9 | n => n, fun | 17 => 13 | n => n⟩
theorem Tryz.laysM284 : Go.Proofs.LaysM.n284 Tryz.prog Tryz.laysM284_ren := {
  mixed := by kernel_rfl
  f129 := Tryz.func187.trans (congrArg some (by kernel_rfl))
  f284 := Tryz.func276.trans (congrArg some (by kernel_rfl))
  f317 := Tryz.func335.trans (congrArg some (by kernel_rfl))
  f318 := Tryz.func336.trans (congrArg some (by kernel_rfl))
  t0 := Tryz.underlying0
  a0 := Tryz.isAgg0
  z0 := Tryz.sizeOf0
  v0 := Tryz.zeroValue0
  t3 := Tryz.underlying3
  a3 := Tryz.isAgg3
  z3 := Tryz.sizeOf3
  v3 := Tryz.zeroValue3
  t4 := Tryz.underlying4
  a4 := Tryz.isAgg4
  z4 := Tryz.sizeOf4
  v4 := Tryz.zeroValue4
  t5 := Tryz.underlying5
  a5 := Tryz.isAgg5
  z5 := Tryz.sizeOf5
  v5 := Tryz.zeroValue5
  t9 := Tryz.underlying9
  a9 := Tryz.isAgg9
  z9 := Tryz.sizeOf9
  v9 := Tryz.zeroValue9
  t46 := Tryz.underlying151
  a46 := Tryz.isAgg151
  z46 := Tryz.sizeOf151
  v46 := Tryz.zeroValue151
  t53 := Tryz.underlying67
  a53 := Tryz.isAgg67
  z53 := Tryz.sizeOf67
  v53 := Tryz.zeroValue67
  t212 := Tryz.underlying250
  a212 := Tryz.isAgg250
  z212 := Tryz.sizeOf250
  v212 := Tryz.zeroValue250
  g17 := by kernel_rfl
  i0 := by kernel_rfl
  i3 := by kernel_rfl
  i4 := by kernel_rfl
  i5 := by kernel_rfl
  i9 := by kernel_rfl
  i46 := by kernel_rfl
  i53 := by kernel_rfl
  i212 := by kernel_rfl
  m17 := by kernel_rfl }
open Go.Lib in
/-- internal/strconv.numDigits, at a d that is not 0: THE NUMBER OF d's DECIMAL DIGITS. The world is as it was. (LAID: no walk: one application.) -/
theorem Tryz.internal_strconv_numDigits (u : Nat) (h1 : 1 ≤ u) (h2 : u < 18446744073709551616) (w : World) (htab : Lib.TabIs Tryz.prog w "internal/strconv.uint64pow10" .u64 Lib.pow10Tab) :
    Calls Tryz.prog 276 #[.int .u64 u] w fun e w' => e = .returned (.int .i64 (Lib.nDigits u)) ∧ w' = w := Any.internal_strconv_numDigits Tryz.laysM284 u h1 h2 w htab
def Tryz.lays285_ren : Go.Shelf.Ren := ⟨fun | 285 => 277 | n => n, fun | 37 => 22 | 53 => 67 | 3 => 3 | 4 => 4 | 51 => 251 | 9 => 9 | 5 => 5 | 0 => 0 | n => n, fun | n => n⟩
theorem Tryz.lays285 : Go.Proofs.Lays.n285 Tryz.prog Tryz.lays285_ren := {
  mixed := by kernel_rfl
  f285 := Tryz.func277.trans (congrArg some (by kernel_rfl))
  t0 := Tryz.underlying0
  a0 := Tryz.isAgg0
  z0 := Tryz.sizeOf0
  v0 := Tryz.zeroValue0
  t3 := Tryz.underlying3
  a3 := Tryz.isAgg3
  z3 := Tryz.sizeOf3
  v3 := Tryz.zeroValue3
  t4 := Tryz.underlying4
  a4 := Tryz.isAgg4
  z4 := Tryz.sizeOf4
  v4 := Tryz.zeroValue4
  t5 := Tryz.underlying5
  a5 := Tryz.isAgg5
  z5 := Tryz.sizeOf5
  v5 := Tryz.zeroValue5
  t9 := Tryz.underlying9
  a9 := Tryz.isAgg9
  z9 := Tryz.sizeOf9
  v9 := Tryz.zeroValue9
  t37 := Tryz.underlying22
  a37 := Tryz.isAgg22
  z37 := Tryz.sizeOf22
  v37 := Tryz.zeroValue22
  t51 := Tryz.underlying251
  a51 := Tryz.isAgg251
  z51 := Tryz.sizeOf251
  v51 := Tryz.zeroValue251
  t53 := Tryz.underlying67
  a53 := Tryz.isAgg67
  z53 := Tryz.sizeOf67
  v53 := Tryz.zeroValue67 }
open Go.RowKit Go.Sort Go.Lib in
/-- internal/strconv.formatBase10: "formatBase10 formats the decimal representation of u into a. The caller is responsible for ensuring that a is big enough to hold u. If a is too big, leading zeros will be filled in as needed.": THE ROW HOLDS u's DIGITS ('FmtInv .. 0 ..': every place t holds 'dg u (len - 1 - t)'); all else is as it was but for the count of draws. (LAID: no walk: one application.) -/
theorem Tryz.internal_strconv_formatBase10 (blk off cap : Nat) (u : Nat) (d : Array UInt8) (w : World) (hH : Holds (fun (b : UInt8) => Value.int .u8 (b.toNat : Int)) w blk off d) (hu : u < 10 ^ d.size) (hu64 : u < 18446744073709551616) (hsz : d.size < 4611686018427387904) :
    Calls Tryz.prog 277 #[.slice (some ⟨blk, off, none⟩) d.size cap, .int .u64 u] w fun e w' =>
      e = .returned (.tuple #[]) ∧ ∃ (n v' : Nat) (dk : Array UInt8), w' = (putRow (fun (b : UInt8) => Value.int .u8 (b.toNat : Int)) w blk off dk).drewN n ∧ FmtInv d.size u 0 v' dk := Any.internal_strconv_formatBase10 Tryz.lays285 blk off cap u d w hH hu hu64 hsz
def Tryz.laysM246_ren : Go.Shelf.Ren := ⟨fun | 246 => 241 | 283 => 275 | 284 => 276 | 285 => 277 | 286 => 278 | 129 => 187 | 317 => 335 | 318 => 336 | 319 => 337 | 320 => 338 | 337 => 386 | 338 => 387 | n => n, fun | 2 => 2 | 3 => 3 | 9 => 9 | 4 => 4 | 171 => 216 | 0 => 0 | 53 => 67 | 37 => 22 | 5 => 5 | 173 => 217 | 212 => 250 | 51 => 251 | 20 => 20 | 213 => 252 | 46 => 151 | 232 => 263 | 233 => 269 | n => n, fun | 17 => 13 | 18 => 23 | 19 => 24 | n => n⟩
theorem Tryz.laysM246 : Go.Proofs.LaysM.n246 Tryz.prog Tryz.laysM246_ren := {
  mixed := by kernel_rfl
  f129 := Tryz.func187.trans (congrArg some (by kernel_rfl))
  f246 := Tryz.func241.trans (congrArg some (by kernel_rfl))
  f283 := Tryz.func275.trans (congrArg some (by kernel_rfl))
  f284 := Tryz.func276.trans (congrArg some (by kernel_rfl))
  f285 := Tryz.func277.trans (congrArg some (by kernel_rfl))
  f286 := Tryz.func278.trans (congrArg some (by kernel_rfl))
  f317 := Tryz.func335.trans (congrArg some (by kernel_rfl))
  f318 := Tryz.func336.trans (congrArg some (by kernel_rfl))
  f319 := Tryz.func337.trans (congrArg some (by kernel_rfl))
  f320 := Tryz.func338.trans (congrArg some (by kernel_rfl))
  f337 := Tryz.func386.trans (congrArg some (by kernel_rfl))
  f338 := Tryz.func387.trans (congrArg some (by kernel_rfl))
  t0 := Tryz.underlying0
  a0 := Tryz.isAgg0
  z0 := Tryz.sizeOf0
  v0 := Tryz.zeroValue0
  t2 := Tryz.underlying2
  a2 := Tryz.isAgg2
  z2 := Tryz.sizeOf2
  v2 := Tryz.zeroValue2
  t3 := Tryz.underlying3
  a3 := Tryz.isAgg3
  z3 := Tryz.sizeOf3
  v3 := Tryz.zeroValue3
  t4 := Tryz.underlying4
  a4 := Tryz.isAgg4
  z4 := Tryz.sizeOf4
  v4 := Tryz.zeroValue4
  t5 := Tryz.underlying5
  a5 := Tryz.isAgg5
  z5 := Tryz.sizeOf5
  v5 := Tryz.zeroValue5
  t9 := Tryz.underlying9
  a9 := Tryz.isAgg9
  z9 := Tryz.sizeOf9
  v9 := Tryz.zeroValue9
  t20 := Tryz.underlying20
  a20 := Tryz.isAgg20
  z20 := Tryz.sizeOf20
  v20 := Tryz.zeroValue20
  t37 := Tryz.underlying22
  a37 := Tryz.isAgg22
  z37 := Tryz.sizeOf22
  v37 := Tryz.zeroValue22
  t46 := Tryz.underlying151
  a46 := Tryz.isAgg151
  z46 := Tryz.sizeOf151
  v46 := Tryz.zeroValue151
  t51 := Tryz.underlying251
  a51 := Tryz.isAgg251
  z51 := Tryz.sizeOf251
  v51 := Tryz.zeroValue251
  t53 := Tryz.underlying67
  a53 := Tryz.isAgg67
  z53 := Tryz.sizeOf67
  v53 := Tryz.zeroValue67
  t171 := Tryz.underlying216
  a171 := Tryz.isAgg216
  z171 := Tryz.sizeOf216
  v171 := Tryz.zeroValue216
  t173 := Tryz.underlying217
  a173 := Tryz.isAgg217
  z173 := Tryz.sizeOf217
  v173 := Tryz.zeroValue217
  t212 := Tryz.underlying250
  a212 := Tryz.isAgg250
  z212 := Tryz.sizeOf250
  v212 := Tryz.zeroValue250
  t213 := Tryz.underlying252
  a213 := Tryz.isAgg252
  z213 := Tryz.sizeOf252
  t232 := Tryz.underlying263
  a232 := Tryz.isAgg263
  z232 := Tryz.sizeOf263
  v232 := Tryz.zeroValue263
  t233 := Tryz.underlying269
  a233 := Tryz.isAgg269
  z233 := Tryz.sizeOf269
  v233 := Tryz.zeroValue269
  g17 := by kernel_rfl
  g18 := by kernel_rfl
  g19 := by kernel_rfl
  i0 := by kernel_rfl
  i2 := by kernel_rfl
  i3 := by kernel_rfl
  i4 := by kernel_rfl
  i5 := by kernel_rfl
  i9 := by kernel_rfl
  i20 := by kernel_rfl
  i37 := by kernel_rfl
  i46 := by kernel_rfl
  i51 := by kernel_rfl
  i53 := by kernel_rfl
  i171 := by kernel_rfl
  i173 := by kernel_rfl
  i212 := by kernel_rfl
  i232 := by kernel_rfl
  i233 := by kernel_rfl
  m17 := by kernel_rfl
  m18 := by kernel_rfl
  m19 := by kernel_rfl }
open Go.RowKit Go.Sort Go.Lib in
/-- internal/strconv.FormatInt: "FormatInt returns the string representation of i in the given base": AT BASE 10: i's decimal numeral, for every int64. The world behind the call: the world before it, new blocks behind the heap, draws. (LAID: no walk: one application.) -/
theorem Tryz.internal_strconv_FormatInt_10 (n : Int) (h0 : -9223372036854775808 ≤ n) (h1 : n ≤ 9223372036854775807) (w : World) (htab : Lib.TabIs Tryz.prog w "internal/strconv.uint64pow10" .u64 Lib.pow10Tab) :
    Calls Tryz.prog 241 #[.int .i64 n, .int .i64 10] w fun e w' => e = .returned (.string ⟨(Lib.itoa n).toArray⟩) ∧ ∃ k os, w' = grow (w.drewN k) os := Any.internal_strconv_FormatInt_10 Tryz.laysM246 n h0 h1 w htab
def Tryz.lays246_ren : Go.Shelf.Ren := ⟨fun | 246 => 241 | 283 => 275 | 284 => 276 | 285 => 277 | 286 => 278 | 129 => 187 | 317 => 335 | 318 => 336 | 319 => 337 | 320 => 338 | 337 => 386 | 338 => 387 | n => n, fun | 2 => 2 | 3 => 3 | 9 => 9 | 4 => 4 | 171 => 216 | 0 => 0 | 53 => 67 | 37 => 22 | 5 => 5 | 173 => 217 | 212 => 250 | 51 => 251 | 20 => 20 | 213 => 252 | 46 => 151 | 232 => 263 | 233 => 269 | n => n, fun | 17 => 13 | 18 => 23 | 19 => 24 | n => n⟩
theorem Tryz.lays246 : Go.Proofs.Lays.n246 Tryz.prog Tryz.lays246_ren := {
  mixed := by kernel_rfl
  f129 := Tryz.func187.trans (congrArg some (by kernel_rfl))
  f246 := Tryz.func241.trans (congrArg some (by kernel_rfl))
  f283 := Tryz.func275.trans (congrArg some (by kernel_rfl))
  f284 := Tryz.func276.trans (congrArg some (by kernel_rfl))
  f285 := Tryz.func277.trans (congrArg some (by kernel_rfl))
  f286 := Tryz.func278.trans (congrArg some (by kernel_rfl))
  f317 := Tryz.func335.trans (congrArg some (by kernel_rfl))
  f318 := Tryz.func336.trans (congrArg some (by kernel_rfl))
  f319 := Tryz.func337.trans (congrArg some (by kernel_rfl))
  f320 := Tryz.func338.trans (congrArg some (by kernel_rfl))
  f337 := Tryz.func386.trans (congrArg some (by kernel_rfl))
  f338 := Tryz.func387.trans (congrArg some (by kernel_rfl))
  t0 := Tryz.underlying0
  a0 := Tryz.isAgg0
  z0 := Tryz.sizeOf0
  v0 := Tryz.zeroValue0
  t2 := Tryz.underlying2
  a2 := Tryz.isAgg2
  z2 := Tryz.sizeOf2
  v2 := Tryz.zeroValue2
  t3 := Tryz.underlying3
  a3 := Tryz.isAgg3
  z3 := Tryz.sizeOf3
  v3 := Tryz.zeroValue3
  t4 := Tryz.underlying4
  a4 := Tryz.isAgg4
  z4 := Tryz.sizeOf4
  v4 := Tryz.zeroValue4
  t5 := Tryz.underlying5
  a5 := Tryz.isAgg5
  z5 := Tryz.sizeOf5
  v5 := Tryz.zeroValue5
  t9 := Tryz.underlying9
  a9 := Tryz.isAgg9
  z9 := Tryz.sizeOf9
  v9 := Tryz.zeroValue9
  t20 := Tryz.underlying20
  a20 := Tryz.isAgg20
  z20 := Tryz.sizeOf20
  v20 := Tryz.zeroValue20
  t37 := Tryz.underlying22
  a37 := Tryz.isAgg22
  z37 := Tryz.sizeOf22
  v37 := Tryz.zeroValue22
  t46 := Tryz.underlying151
  a46 := Tryz.isAgg151
  z46 := Tryz.sizeOf151
  v46 := Tryz.zeroValue151
  t51 := Tryz.underlying251
  a51 := Tryz.isAgg251
  z51 := Tryz.sizeOf251
  v51 := Tryz.zeroValue251
  t53 := Tryz.underlying67
  a53 := Tryz.isAgg67
  z53 := Tryz.sizeOf67
  v53 := Tryz.zeroValue67
  t171 := Tryz.underlying216
  a171 := Tryz.isAgg216
  z171 := Tryz.sizeOf216
  v171 := Tryz.zeroValue216
  t173 := Tryz.underlying217
  a173 := Tryz.isAgg217
  z173 := Tryz.sizeOf217
  v173 := Tryz.zeroValue217
  t212 := Tryz.underlying250
  a212 := Tryz.isAgg250
  z212 := Tryz.sizeOf250
  v212 := Tryz.zeroValue250
  t213 := Tryz.underlying252
  a213 := Tryz.isAgg252
  z213 := Tryz.sizeOf252
  t232 := Tryz.underlying263
  a232 := Tryz.isAgg263
  z232 := Tryz.sizeOf263
  v232 := Tryz.zeroValue263
  t233 := Tryz.underlying269
  a233 := Tryz.isAgg269
  z233 := Tryz.sizeOf269
  v233 := Tryz.zeroValue269
  g17 := by kernel_rfl
  g18 := by kernel_rfl
  g19 := by kernel_rfl }
open Go.RowKit Go.Sort Go.Lib in
/-- THE ROAD WITHOUT THE TABLE: 0 <= i < 100: two constants are read, nothing is laid: no premise on the world, and the world is as it was. (LAID: no walk: one application.) -/
theorem Tryz.internal_strconv_FormatInt_10_small (i : Nat) (hi : i < 100) (w : World) :
    Calls Tryz.prog 241 #[.int .i64 i, .int .i64 10] w fun e w' => e = .returned (.string ⟨(Lib.decDigits i).toArray⟩) ∧ w' = w := Any.internal_strconv_FormatInt_10_small Tryz.lays246 i hi w
def Tryz.laysM243_ren : Go.Shelf.Ren := ⟨fun | 243 => 191 | 246 => 241 | 283 => 275 | 284 => 276 | 285 => 277 | 286 => 278 | 129 => 187 | 317 => 335 | 318 => 336 | 319 => 337 | 320 => 338 | 337 => 386 | 338 => 387 | n => n, fun | 3 => 3 | 9 => 9 | 2 => 2 | 4 => 4 | 171 => 216 | 0 => 0 | 53 => 67 | 37 => 22 | 5 => 5 | 173 => 217 | 212 => 250 | 51 => 251 | 20 => 20 | 213 => 252 | 46 => 151 | 232 => 263 | 233 => 269 | n => n, fun | 17 => 13 | 18 => 23 | 19 => 24 | n => n⟩
theorem Tryz.laysM243 : Go.Proofs.LaysM.n243 Tryz.prog Tryz.laysM243_ren := {
  mixed := by kernel_rfl
  f129 := Tryz.func187.trans (congrArg some (by kernel_rfl))
  f243 := Tryz.func191.trans (congrArg some (by kernel_rfl))
  f246 := Tryz.func241.trans (congrArg some (by kernel_rfl))
  f283 := Tryz.func275.trans (congrArg some (by kernel_rfl))
  f284 := Tryz.func276.trans (congrArg some (by kernel_rfl))
  f285 := Tryz.func277.trans (congrArg some (by kernel_rfl))
  f286 := Tryz.func278.trans (congrArg some (by kernel_rfl))
  f317 := Tryz.func335.trans (congrArg some (by kernel_rfl))
  f318 := Tryz.func336.trans (congrArg some (by kernel_rfl))
  f319 := Tryz.func337.trans (congrArg some (by kernel_rfl))
  f320 := Tryz.func338.trans (congrArg some (by kernel_rfl))
  f337 := Tryz.func386.trans (congrArg some (by kernel_rfl))
  f338 := Tryz.func387.trans (congrArg some (by kernel_rfl))
  t0 := Tryz.underlying0
  a0 := Tryz.isAgg0
  z0 := Tryz.sizeOf0
  v0 := Tryz.zeroValue0
  t2 := Tryz.underlying2
  a2 := Tryz.isAgg2
  z2 := Tryz.sizeOf2
  v2 := Tryz.zeroValue2
  t3 := Tryz.underlying3
  a3 := Tryz.isAgg3
  z3 := Tryz.sizeOf3
  v3 := Tryz.zeroValue3
  t4 := Tryz.underlying4
  a4 := Tryz.isAgg4
  z4 := Tryz.sizeOf4
  v4 := Tryz.zeroValue4
  t5 := Tryz.underlying5
  a5 := Tryz.isAgg5
  z5 := Tryz.sizeOf5
  v5 := Tryz.zeroValue5
  t9 := Tryz.underlying9
  a9 := Tryz.isAgg9
  z9 := Tryz.sizeOf9
  v9 := Tryz.zeroValue9
  t20 := Tryz.underlying20
  a20 := Tryz.isAgg20
  z20 := Tryz.sizeOf20
  v20 := Tryz.zeroValue20
  t37 := Tryz.underlying22
  a37 := Tryz.isAgg22
  z37 := Tryz.sizeOf22
  v37 := Tryz.zeroValue22
  t46 := Tryz.underlying151
  a46 := Tryz.isAgg151
  z46 := Tryz.sizeOf151
  v46 := Tryz.zeroValue151
  t51 := Tryz.underlying251
  a51 := Tryz.isAgg251
  z51 := Tryz.sizeOf251
  v51 := Tryz.zeroValue251
  t53 := Tryz.underlying67
  a53 := Tryz.isAgg67
  z53 := Tryz.sizeOf67
  v53 := Tryz.zeroValue67
  t171 := Tryz.underlying216
  a171 := Tryz.isAgg216
  z171 := Tryz.sizeOf216
  v171 := Tryz.zeroValue216
  t173 := Tryz.underlying217
  a173 := Tryz.isAgg217
  z173 := Tryz.sizeOf217
  v173 := Tryz.zeroValue217
  t212 := Tryz.underlying250
  a212 := Tryz.isAgg250
  z212 := Tryz.sizeOf250
  v212 := Tryz.zeroValue250
  t213 := Tryz.underlying252
  a213 := Tryz.isAgg252
  z213 := Tryz.sizeOf252
  t232 := Tryz.underlying263
  a232 := Tryz.isAgg263
  z232 := Tryz.sizeOf263
  v232 := Tryz.zeroValue263
  t233 := Tryz.underlying269
  a233 := Tryz.isAgg269
  z233 := Tryz.sizeOf269
  v233 := Tryz.zeroValue269
  g17 := by kernel_rfl
  g18 := by kernel_rfl
  g19 := by kernel_rfl
  i0 := by kernel_rfl
  i2 := by kernel_rfl
  i3 := by kernel_rfl
  i4 := by kernel_rfl
  i5 := by kernel_rfl
  i9 := by kernel_rfl
  i20 := by kernel_rfl
  i37 := by kernel_rfl
  i46 := by kernel_rfl
  i51 := by kernel_rfl
  i53 := by kernel_rfl
  i171 := by kernel_rfl
  i173 := by kernel_rfl
  i212 := by kernel_rfl
  i232 := by kernel_rfl
  i233 := by kernel_rfl
  m17 := by kernel_rfl
  m18 := by kernel_rfl
  m19 := by kernel_rfl }
open Go.RowKit Go.Sort Go.Lib in
/-- internal/strconv.Itoa: "Itoa is equivalent to FormatInt(int64(i), 10).": i's decimal numeral, for every int. (LAID: no walk: one application.) -/
theorem Tryz.internal_strconv_Itoa (n : Int) (h0 : -9223372036854775808 ≤ n) (h1 : n ≤ 9223372036854775807) (w : World) (htab : Lib.TabIs Tryz.prog w "internal/strconv.uint64pow10" .u64 Lib.pow10Tab) :
    Calls Tryz.prog 191 #[.int .i64 n] w fun e w' => e = .returned (.string ⟨(Lib.itoa n).toArray⟩) ∧ ∃ k os, w' = grow (w.drewN k) os := Any.internal_strconv_Itoa Tryz.laysM243 n h0 h1 w htab
def Tryz.lays243_ren : Go.Shelf.Ren := ⟨fun | 243 => 191 | 246 => 241 | 283 => 275 | 284 => 276 | 285 => 277 | 286 => 278 | 129 => 187 | 317 => 335 | 318 => 336 | 319 => 337 | 320 => 338 | 337 => 386 | 338 => 387 | n => n, fun | 3 => 3 | 9 => 9 | 2 => 2 | 4 => 4 | 171 => 216 | 0 => 0 | 53 => 67 | 37 => 22 | 5 => 5 | 173 => 217 | 212 => 250 | 51 => 251 | 20 => 20 | 213 => 252 | 46 => 151 | 232 => 263 | 233 => 269 | n => n, fun | 17 => 13 | 18 => 23 | 19 => 24 | n => n⟩
theorem Tryz.lays243 : Go.Proofs.Lays.n243 Tryz.prog Tryz.lays243_ren := {
  mixed := by kernel_rfl
  f129 := Tryz.func187.trans (congrArg some (by kernel_rfl))
  f243 := Tryz.func191.trans (congrArg some (by kernel_rfl))
  f246 := Tryz.func241.trans (congrArg some (by kernel_rfl))
  f283 := Tryz.func275.trans (congrArg some (by kernel_rfl))
  f284 := Tryz.func276.trans (congrArg some (by kernel_rfl))
  f285 := Tryz.func277.trans (congrArg some (by kernel_rfl))
  f286 := Tryz.func278.trans (congrArg some (by kernel_rfl))
  f317 := Tryz.func335.trans (congrArg some (by kernel_rfl))
  f318 := Tryz.func336.trans (congrArg some (by kernel_rfl))
  f319 := Tryz.func337.trans (congrArg some (by kernel_rfl))
  f320 := Tryz.func338.trans (congrArg some (by kernel_rfl))
  f337 := Tryz.func386.trans (congrArg some (by kernel_rfl))
  f338 := Tryz.func387.trans (congrArg some (by kernel_rfl))
  t0 := Tryz.underlying0
  a0 := Tryz.isAgg0
  z0 := Tryz.sizeOf0
  v0 := Tryz.zeroValue0
  t2 := Tryz.underlying2
  a2 := Tryz.isAgg2
  z2 := Tryz.sizeOf2
  v2 := Tryz.zeroValue2
  t3 := Tryz.underlying3
  a3 := Tryz.isAgg3
  z3 := Tryz.sizeOf3
  v3 := Tryz.zeroValue3
  t4 := Tryz.underlying4
  a4 := Tryz.isAgg4
  z4 := Tryz.sizeOf4
  v4 := Tryz.zeroValue4
  t5 := Tryz.underlying5
  a5 := Tryz.isAgg5
  z5 := Tryz.sizeOf5
  v5 := Tryz.zeroValue5
  t9 := Tryz.underlying9
  a9 := Tryz.isAgg9
  z9 := Tryz.sizeOf9
  v9 := Tryz.zeroValue9
  t20 := Tryz.underlying20
  a20 := Tryz.isAgg20
  z20 := Tryz.sizeOf20
  v20 := Tryz.zeroValue20
  t37 := Tryz.underlying22
  a37 := Tryz.isAgg22
  z37 := Tryz.sizeOf22
  v37 := Tryz.zeroValue22
  t46 := Tryz.underlying151
  a46 := Tryz.isAgg151
  z46 := Tryz.sizeOf151
  v46 := Tryz.zeroValue151
  t51 := Tryz.underlying251
  a51 := Tryz.isAgg251
  z51 := Tryz.sizeOf251
  v51 := Tryz.zeroValue251
  t53 := Tryz.underlying67
  a53 := Tryz.isAgg67
  z53 := Tryz.sizeOf67
  v53 := Tryz.zeroValue67
  t171 := Tryz.underlying216
  a171 := Tryz.isAgg216
  z171 := Tryz.sizeOf216
  v171 := Tryz.zeroValue216
  t173 := Tryz.underlying217
  a173 := Tryz.isAgg217
  z173 := Tryz.sizeOf217
  v173 := Tryz.zeroValue217
  t212 := Tryz.underlying250
  a212 := Tryz.isAgg250
  z212 := Tryz.sizeOf250
  v212 := Tryz.zeroValue250
  t213 := Tryz.underlying252
  a213 := Tryz.isAgg252
  z213 := Tryz.sizeOf252
  t232 := Tryz.underlying263
  a232 := Tryz.isAgg263
  z232 := Tryz.sizeOf263
  v232 := Tryz.zeroValue263
  t233 := Tryz.underlying269
  a233 := Tryz.isAgg269
  z233 := Tryz.sizeOf269
  v233 := Tryz.zeroValue269
  g17 := by kernel_rfl
  g18 := by kernel_rfl
  g19 := by kernel_rfl }
open Go.RowKit Go.Sort Go.Lib in
/-- THE ROAD WITHOUT THE TABLE: 0 <= i < 100. (LAID: no walk: one application.) -/
theorem Tryz.internal_strconv_Itoa_small (i : Nat) (hi : i < 100) (w : World) :
    Calls Tryz.prog 191 #[.int .i64 i] w fun e w' => e = .returned (.string ⟨(Lib.decDigits i).toArray⟩) ∧ w' = w := Any.internal_strconv_Itoa_small Tryz.lays243 i hi w
def Tryz.laysM171_ren : Go.Shelf.Ren := ⟨fun | 171 => 161 | 243 => 191 | 246 => 241 | 283 => 275 | 284 => 276 | 285 => 277 | 286 => 278 | 129 => 187 | 317 => 335 | 318 => 336 | 319 => 337 | 320 => 338 | 337 => 386 | 338 => 387 | n => n, fun | 3 => 3 | 9 => 9 | 2 => 2 | 4 => 4 | 171 => 216 | 0 => 0 | 53 => 67 | 37 => 22 | 5 => 5 | 173 => 217 | 212 => 250 | 51 => 251 | 20 => 20 | 213 => 252 | 46 => 151 | 232 => 263 | 233 => 269 | n => n, fun | 17 => 13 | 18 => 23 | 19 => 24 | n => n⟩
theorem Tryz.laysM171 : Go.Proofs.LaysM.n171 Tryz.prog Tryz.laysM171_ren := {
  mixed := by kernel_rfl
  f129 := Tryz.func187.trans (congrArg some (by kernel_rfl))
  f171 := Tryz.func161.trans (congrArg some (by kernel_rfl))
  f243 := Tryz.func191.trans (congrArg some (by kernel_rfl))
  f246 := Tryz.func241.trans (congrArg some (by kernel_rfl))
  f283 := Tryz.func275.trans (congrArg some (by kernel_rfl))
  f284 := Tryz.func276.trans (congrArg some (by kernel_rfl))
  f285 := Tryz.func277.trans (congrArg some (by kernel_rfl))
  f286 := Tryz.func278.trans (congrArg some (by kernel_rfl))
  f317 := Tryz.func335.trans (congrArg some (by kernel_rfl))
  f318 := Tryz.func336.trans (congrArg some (by kernel_rfl))
  f319 := Tryz.func337.trans (congrArg some (by kernel_rfl))
  f320 := Tryz.func338.trans (congrArg some (by kernel_rfl))
  f337 := Tryz.func386.trans (congrArg some (by kernel_rfl))
  f338 := Tryz.func387.trans (congrArg some (by kernel_rfl))
  t0 := Tryz.underlying0
  a0 := Tryz.isAgg0
  z0 := Tryz.sizeOf0
  v0 := Tryz.zeroValue0
  t2 := Tryz.underlying2
  a2 := Tryz.isAgg2
  z2 := Tryz.sizeOf2
  v2 := Tryz.zeroValue2
  t3 := Tryz.underlying3
  a3 := Tryz.isAgg3
  z3 := Tryz.sizeOf3
  v3 := Tryz.zeroValue3
  t4 := Tryz.underlying4
  a4 := Tryz.isAgg4
  z4 := Tryz.sizeOf4
  v4 := Tryz.zeroValue4
  t5 := Tryz.underlying5
  a5 := Tryz.isAgg5
  z5 := Tryz.sizeOf5
  v5 := Tryz.zeroValue5
  t9 := Tryz.underlying9
  a9 := Tryz.isAgg9
  z9 := Tryz.sizeOf9
  v9 := Tryz.zeroValue9
  t20 := Tryz.underlying20
  a20 := Tryz.isAgg20
  z20 := Tryz.sizeOf20
  v20 := Tryz.zeroValue20
  t37 := Tryz.underlying22
  a37 := Tryz.isAgg22
  z37 := Tryz.sizeOf22
  v37 := Tryz.zeroValue22
  t46 := Tryz.underlying151
  a46 := Tryz.isAgg151
  z46 := Tryz.sizeOf151
  v46 := Tryz.zeroValue151
  t51 := Tryz.underlying251
  a51 := Tryz.isAgg251
  z51 := Tryz.sizeOf251
  v51 := Tryz.zeroValue251
  t53 := Tryz.underlying67
  a53 := Tryz.isAgg67
  z53 := Tryz.sizeOf67
  v53 := Tryz.zeroValue67
  t171 := Tryz.underlying216
  a171 := Tryz.isAgg216
  z171 := Tryz.sizeOf216
  v171 := Tryz.zeroValue216
  t173 := Tryz.underlying217
  a173 := Tryz.isAgg217
  z173 := Tryz.sizeOf217
  v173 := Tryz.zeroValue217
  t212 := Tryz.underlying250
  a212 := Tryz.isAgg250
  z212 := Tryz.sizeOf250
  v212 := Tryz.zeroValue250
  t213 := Tryz.underlying252
  a213 := Tryz.isAgg252
  z213 := Tryz.sizeOf252
  t232 := Tryz.underlying263
  a232 := Tryz.isAgg263
  z232 := Tryz.sizeOf263
  v232 := Tryz.zeroValue263
  t233 := Tryz.underlying269
  a233 := Tryz.isAgg269
  z233 := Tryz.sizeOf269
  v233 := Tryz.zeroValue269
  g17 := by kernel_rfl
  g18 := by kernel_rfl
  g19 := by kernel_rfl
  i0 := by kernel_rfl
  i2 := by kernel_rfl
  i3 := by kernel_rfl
  i4 := by kernel_rfl
  i5 := by kernel_rfl
  i9 := by kernel_rfl
  i20 := by kernel_rfl
  i37 := by kernel_rfl
  i46 := by kernel_rfl
  i51 := by kernel_rfl
  i53 := by kernel_rfl
  i171 := by kernel_rfl
  i173 := by kernel_rfl
  i212 := by kernel_rfl
  i232 := by kernel_rfl
  i233 := by kernel_rfl
  m17 := by kernel_rfl
  m18 := by kernel_rfl
  m19 := by kernel_rfl }
open Go.RowKit Go.Sort Go.Lib in
/-- strconv.Itoa: "Itoa is equivalent to FormatInt(int64(i), 10).": i's DECIMAL NUMERAL ('Lib.itoa': a '-' where i is negative, then the digits), FOR EVERY int. The world behind the call: the world before it, new blocks behind the heap (the library's 'var a [24]byte'), draws. (LAID: no walk: one application.) -/
theorem Tryz.strconv_Itoa (n : Int) (h0 : -9223372036854775808 ≤ n) (h1 : n ≤ 9223372036854775807) (w : World) (htab : Lib.TabIs Tryz.prog w "internal/strconv.uint64pow10" .u64 Lib.pow10Tab) :
    Calls Tryz.prog 161 #[.int .i64 n] w fun e w' => e = .returned (.string ⟨(Lib.itoa n).toArray⟩) ∧ ∃ k os, w' = grow (w.drewN k) os := Any.strconv_Itoa Tryz.laysM171 n h0 h1 w htab
def Tryz.lays171_ren : Go.Shelf.Ren := ⟨fun | 171 => 161 | 243 => 191 | 246 => 241 | 283 => 275 | 284 => 276 | 285 => 277 | 286 => 278 | 129 => 187 | 317 => 335 | 318 => 336 | 319 => 337 | 320 => 338 | 337 => 386 | 338 => 387 | n => n, fun | 3 => 3 | 9 => 9 | 2 => 2 | 4 => 4 | 171 => 216 | 0 => 0 | 53 => 67 | 37 => 22 | 5 => 5 | 173 => 217 | 212 => 250 | 51 => 251 | 20 => 20 | 213 => 252 | 46 => 151 | 232 => 263 | 233 => 269 | n => n, fun | 17 => 13 | 18 => 23 | 19 => 24 | n => n⟩
theorem Tryz.lays171 : Go.Proofs.Lays.n171 Tryz.prog Tryz.lays171_ren := {
  mixed := by kernel_rfl
  f129 := Tryz.func187.trans (congrArg some (by kernel_rfl))
  f171 := Tryz.func161.trans (congrArg some (by kernel_rfl))
  f243 := Tryz.func191.trans (congrArg some (by kernel_rfl))
  f246 := Tryz.func241.trans (congrArg some (by kernel_rfl))
  f283 := Tryz.func275.trans (congrArg some (by kernel_rfl))
  f284 := Tryz.func276.trans (congrArg some (by kernel_rfl))
  f285 := Tryz.func277.trans (congrArg some (by kernel_rfl))
  f286 := Tryz.func278.trans (congrArg some (by kernel_rfl))
  f317 := Tryz.func335.trans (congrArg some (by kernel_rfl))
  f318 := Tryz.func336.trans (congrArg some (by kernel_rfl))
  f319 := Tryz.func337.trans (congrArg some (by kernel_rfl))
  f320 := Tryz.func338.trans (congrArg some (by kernel_rfl))
  f337 := Tryz.func386.trans (congrArg some (by kernel_rfl))
  f338 := Tryz.func387.trans (congrArg some (by kernel_rfl))
  t0 := Tryz.underlying0
  a0 := Tryz.isAgg0
  z0 := Tryz.sizeOf0
  v0 := Tryz.zeroValue0
  t2 := Tryz.underlying2
  a2 := Tryz.isAgg2
  z2 := Tryz.sizeOf2
  v2 := Tryz.zeroValue2
  t3 := Tryz.underlying3
  a3 := Tryz.isAgg3
  z3 := Tryz.sizeOf3
  v3 := Tryz.zeroValue3
  t4 := Tryz.underlying4
  a4 := Tryz.isAgg4
  z4 := Tryz.sizeOf4
  v4 := Tryz.zeroValue4
  t5 := Tryz.underlying5
  a5 := Tryz.isAgg5
  z5 := Tryz.sizeOf5
  v5 := Tryz.zeroValue5
  t9 := Tryz.underlying9
  a9 := Tryz.isAgg9
  z9 := Tryz.sizeOf9
  v9 := Tryz.zeroValue9
  t20 := Tryz.underlying20
  a20 := Tryz.isAgg20
  z20 := Tryz.sizeOf20
  v20 := Tryz.zeroValue20
  t37 := Tryz.underlying22
  a37 := Tryz.isAgg22
  z37 := Tryz.sizeOf22
  v37 := Tryz.zeroValue22
  t46 := Tryz.underlying151
  a46 := Tryz.isAgg151
  z46 := Tryz.sizeOf151
  v46 := Tryz.zeroValue151
  t51 := Tryz.underlying251
  a51 := Tryz.isAgg251
  z51 := Tryz.sizeOf251
  v51 := Tryz.zeroValue251
  t53 := Tryz.underlying67
  a53 := Tryz.isAgg67
  z53 := Tryz.sizeOf67
  v53 := Tryz.zeroValue67
  t171 := Tryz.underlying216
  a171 := Tryz.isAgg216
  z171 := Tryz.sizeOf216
  v171 := Tryz.zeroValue216
  t173 := Tryz.underlying217
  a173 := Tryz.isAgg217
  z173 := Tryz.sizeOf217
  v173 := Tryz.zeroValue217
  t212 := Tryz.underlying250
  a212 := Tryz.isAgg250
  z212 := Tryz.sizeOf250
  v212 := Tryz.zeroValue250
  t213 := Tryz.underlying252
  a213 := Tryz.isAgg252
  z213 := Tryz.sizeOf252
  t232 := Tryz.underlying263
  a232 := Tryz.isAgg263
  z232 := Tryz.sizeOf263
  v232 := Tryz.zeroValue263
  t233 := Tryz.underlying269
  a233 := Tryz.isAgg269
  z233 := Tryz.sizeOf269
  v233 := Tryz.zeroValue269
  g17 := by kernel_rfl
  g18 := by kernel_rfl
  g19 := by kernel_rfl }
open Go.RowKit Go.Sort Go.Lib in
/-- THE ROAD WITHOUT THE TABLE: 0 <= i < 100: NO PREMISE ON THE WORLD, AND THE WORLD IS AS IT WAS: a row that keeps its argument in that range need list no table ('laid = []'). (LAID: no walk: one application.) -/
theorem Tryz.strconv_Itoa_small (i : Nat) (hi : i < 100) (w : World) :
    Calls Tryz.prog 161 #[.int .i64 i] w fun e w' => e = .returned (.string ⟨(Lib.decDigits i).toArray⟩) ∧ w' = w := Any.strconv_Itoa_small Tryz.lays171 i hi w
def Tryz.laysM181_ren : Go.Shelf.Ren := ⟨fun | 181 => 193 | n => n, fun | 130 => 154 | 3 => 3 | 0 => 0 | 93 => 129 | 37 => 22 | 91 => 127 | 5 => 5 | n => n, fun | n => n⟩
theorem Tryz.laysM181 : Go.Proofs.LaysM.n181 Tryz.prog Tryz.laysM181_ren := {
  mixed := by kernel_rfl
  f181 := Tryz.func193.trans (congrArg some (by kernel_rfl))
  t0 := Tryz.underlying0
  a0 := Tryz.isAgg0
  z0 := Tryz.sizeOf0
  v0 := Tryz.zeroValue0
  t3 := Tryz.underlying3
  a3 := Tryz.isAgg3
  z3 := Tryz.sizeOf3
  v3 := Tryz.zeroValue3
  t37 := Tryz.underlying22
  a37 := Tryz.isAgg22
  z37 := Tryz.sizeOf22
  v37 := Tryz.zeroValue22
  t93 := Tryz.underlying129
  a93 := Tryz.isAgg129
  z93 := Tryz.sizeOf129
  v93 := Tryz.zeroValue129
  t130 := Tryz.underlying154
  a130 := Tryz.isAgg154
  z130 := Tryz.sizeOf154
  v130 := Tryz.zeroValue154
  t5 := Tryz.underlying5
  a5 := Tryz.isAgg5
  z5 := Tryz.sizeOf5
  v5 := Tryz.zeroValue5
  t91 := Tryz.underlying127
  a91 := Tryz.isAgg127
  z91 := Tryz.sizeOf127
  v91 := Tryz.zeroValue127
  i0 := by kernel_rfl
  i3 := by kernel_rfl
  i5 := by kernel_rfl
  i37 := by kernel_rfl
  i91 := by kernel_rfl
  i93 := by kernel_rfl
  i130 := by kernel_rfl }
open Go.RowKit in
/-- (*bytes.Buffer).Len: "Len returns the number of bytes of the unread portion of the buffer; b.Len() == len(b.Bytes()).": the world is as it was but for the count of draws (the statement has two reads: its order is drawn). (LAID: no walk: one application.) -/
theorem Tryz.Buffer_Len (B b : Nat) (bs : List Value) (w : World) (h : Lib.IsBuffer 129 5 B b bs w) :
    Calls Tryz.prog 193 #[.pointer (some ⟨b, 0, none⟩)] w fun e w' => e = .returned (.int .i64 bs.length) ∧ ∃ n, w' = w.drewN n := Any.Buffer_Len Tryz.laysM181 B b bs w h
def Tryz.laysM251_ren : Go.Shelf.Ren := ⟨fun | 251 => 166 | n => n, fun | 130 => 154 | 3 => 3 | 4 => 4 | 0 => 0 | 93 => 129 | 37 => 22 | 91 => 127 | 5 => 5 | n => n, fun | n => n⟩
theorem Tryz.laysM251 : Go.Proofs.LaysM.n251 Tryz.prog Tryz.laysM251_ren := {
  mixed := by kernel_rfl
  f251 := Tryz.func166.trans (congrArg some (by kernel_rfl))
  t0 := Tryz.underlying0
  a0 := Tryz.isAgg0
  z0 := Tryz.sizeOf0
  v0 := Tryz.zeroValue0
  t3 := Tryz.underlying3
  a3 := Tryz.isAgg3
  z3 := Tryz.sizeOf3
  v3 := Tryz.zeroValue3
  t4 := Tryz.underlying4
  a4 := Tryz.isAgg4
  z4 := Tryz.sizeOf4
  v4 := Tryz.zeroValue4
  t37 := Tryz.underlying22
  a37 := Tryz.isAgg22
  z37 := Tryz.sizeOf22
  v37 := Tryz.zeroValue22
  t93 := Tryz.underlying129
  a93 := Tryz.isAgg129
  z93 := Tryz.sizeOf129
  v93 := Tryz.zeroValue129
  t130 := Tryz.underlying154
  a130 := Tryz.isAgg154
  z130 := Tryz.sizeOf154
  v130 := Tryz.zeroValue154
  t5 := Tryz.underlying5
  a5 := Tryz.isAgg5
  z5 := Tryz.sizeOf5
  v5 := Tryz.zeroValue5
  t91 := Tryz.underlying127
  a91 := Tryz.isAgg127
  z91 := Tryz.sizeOf127
  v91 := Tryz.zeroValue127
  i0 := by kernel_rfl
  i3 := by kernel_rfl
  i4 := by kernel_rfl
  i5 := by kernel_rfl
  i37 := by kernel_rfl
  i91 := by kernel_rfl
  i93 := by kernel_rfl
  i130 := by kernel_rfl }
open Go.RowKit in
/-- (*bytes.Buffer).tryGrowByReslice: "tryGrowByReslice is an inlineable version of grow for the fast-case where the internal buffer only needs to be resliced. It returns the index where bytes should be written and whether it succeeded.": THERE IS ROOM: 'buf' is resliced to l + n. (LAID: no walk: one application.) -/
theorem Tryz.Buffer_tryGrow_room (b : Nat) (ao : Option Addr) (l cap n : Nat) (w : World) (c0 : w.cell? ⟨b, 0, none⟩ = some (.slice ao l cap)) (f0 : w.frozen? ⟨b, 0, none⟩ = false) (hlc : l ≤ cap) (hcap : cap ≤ maxLen) (hn : n ≤ cap - l) :
    Calls Tryz.prog 166 #[.pointer (some ⟨b, 0, none⟩), .int .i64 n] w fun e w' => e = .returned (.tuple #[.int .i64 l, .bool true]) ∧ w' = w.setCell ⟨b, 0, none⟩ (.slice ao (l + n) cap) := Any.Buffer_tryGrow_room Tryz.laysM251 b ao l cap n w c0 f0 hlc hcap hn
open Go.RowKit in
/-- .. THERE IS NONE: nothing turns. (LAID: no walk: one application.) -/
theorem Tryz.Buffer_tryGrow_none (b : Nat) (ao : Option Addr) (l cap n : Nat) (w : World) (c0 : w.cell? ⟨b, 0, none⟩ = some (.slice ao l cap)) (hlc : l ≤ cap) (hcap : cap ≤ maxLen) (hn : cap - l < n) :
    Calls Tryz.prog 166 #[.pointer (some ⟨b, 0, none⟩), .int .i64 n] w fun e w' => e = .returned (.tuple #[.int .i64 0, .bool false]) ∧ w' = w := Any.Buffer_tryGrow_none Tryz.laysM251 b ao l cap n w c0 hlc hcap hn
def Tryz.laysM324_ren : Go.Shelf.Ren := ⟨fun | 324 => 242 | n => n, fun | 20 => 20 | 4 => 4 | 75 => 58 | 0 => 0 | 80 => 114 | 9 => 9 | n => n, fun | 14 => 8 | n => n⟩
theorem Tryz.laysM324 : Go.Proofs.LaysM.n324 Tryz.prog Tryz.laysM324_ren := {
  mixed := by kernel_rfl
  f324 := Tryz.func242.trans (congrArg some (by kernel_rfl))
  t0 := Tryz.underlying0
  a0 := Tryz.isAgg0
  z0 := Tryz.sizeOf0
  v0 := Tryz.zeroValue0
  t4 := Tryz.underlying4
  a4 := Tryz.isAgg4
  z4 := Tryz.sizeOf4
  v4 := Tryz.zeroValue4
  t20 := Tryz.underlying20
  a20 := Tryz.isAgg20
  z20 := Tryz.sizeOf20
  v20 := Tryz.zeroValue20
  t75 := Tryz.underlying58
  a75 := Tryz.isAgg58
  z75 := Tryz.sizeOf58
  v75 := Tryz.zeroValue58
  g14 := by kernel_rfl
  t9 := Tryz.underlying9
  a9 := Tryz.isAgg9
  z9 := Tryz.sizeOf9
  v9 := Tryz.zeroValue9
  t80 := Tryz.underlying114
  a80 := Tryz.isAgg114
  z80 := Tryz.sizeOf114
  v80 := Tryz.zeroValue114
  i0 := by kernel_rfl
  i4 := by kernel_rfl
  i9 := by kernel_rfl
  i20 := by kernel_rfl
  i75 := by kernel_rfl
  i80 := by kernel_rfl
  m14 := by kernel_rfl }
theorem Tryz.growSlice_catch_idle (w : World) :
    CallsD Tryz.prog 242 #[] .returning w fun e u' w' => e = .returned (.tuple #[]) ∧ u' = .returning ∧ w' = w := Any.growSlice_catch_idle Tryz.laysM324 w
def Tryz.laysM290_ren : Go.Shelf.Ren := ⟨fun | 290 => 195 | 324 => 242 | n => n, fun | 37 => 22 | 3 => 3 | 0 => 0 | 4 => 4 | 20 => 20 | 75 => 58 | 5 => 5 | 80 => 114 | 9 => 9 | n => n, fun | 14 => 8 | n => n⟩
theorem Tryz.laysM290 : Go.Proofs.LaysM.n290 Tryz.prog Tryz.laysM290_ren := {
  mixed := by kernel_rfl
  f290 := Tryz.func195.trans (congrArg some (by kernel_rfl))
  f324 := Tryz.func242.trans (congrArg some (by kernel_rfl))
  t0 := Tryz.underlying0
  a0 := Tryz.isAgg0
  z0 := Tryz.sizeOf0
  v0 := Tryz.zeroValue0
  t3 := Tryz.underlying3
  a3 := Tryz.isAgg3
  z3 := Tryz.sizeOf3
  v3 := Tryz.zeroValue3
  t4 := Tryz.underlying4
  a4 := Tryz.isAgg4
  z4 := Tryz.sizeOf4
  v4 := Tryz.zeroValue4
  t20 := Tryz.underlying20
  a20 := Tryz.isAgg20
  z20 := Tryz.sizeOf20
  v20 := Tryz.zeroValue20
  t37 := Tryz.underlying22
  a37 := Tryz.isAgg22
  z37 := Tryz.sizeOf22
  v37 := Tryz.zeroValue22
  t75 := Tryz.underlying58
  a75 := Tryz.isAgg58
  z75 := Tryz.sizeOf58
  v75 := Tryz.zeroValue58
  g14 := by kernel_rfl
  t5 := Tryz.underlying5
  a5 := Tryz.isAgg5
  z5 := Tryz.sizeOf5
  v5 := Tryz.zeroValue5
  t9 := Tryz.underlying9
  a9 := Tryz.isAgg9
  z9 := Tryz.sizeOf9
  v9 := Tryz.zeroValue9
  t80 := Tryz.underlying114
  a80 := Tryz.isAgg114
  z80 := Tryz.sizeOf114
  v80 := Tryz.zeroValue114
  i0 := by kernel_rfl
  i3 := by kernel_rfl
  i4 := by kernel_rfl
  i5 := by kernel_rfl
  i9 := by kernel_rfl
  i20 := by kernel_rfl
  i37 := by kernel_rfl
  i75 := by kernel_rfl
  i80 := by kernel_rfl
  m14 := by kernel_rfl }
open Go.RowKit in
/-- bytes.growSlice: "growSlice grows b by n, preserving the original content of b.": OF A SLICE THAT LIES AT THE HEAD OF A ROW: a new row, number 'w.heap.size': it begins with b's l cells; its capacity has room for n more; whatever lay below is as it was. (LAID: no walk: one application.) -/
theorem Tryz.bytes_growSlice_row (g l c n : Nat) (cur : Array Value) (w : World) (hg : w.heap[g]? = some (.cells cur 5 (0, 0))) (hcs : cur.size = c) (hlc : l ≤ c) (hn : 1 ≤ n) (hlim : l + n ≤ 140737488355328) (hc2 : c ≤ 140737488355328) (h1 : ∀ v ∈ cur.toList.take l, v.oneCell' = true) :
    Calls Tryz.prog 195 #[.slice (some ⟨g, 0, none⟩) l c, .int .i64 n] w fun e w' => ∃ cap2 cells, e = .returned (.slice (some ⟨w.heap.size, 0, none⟩) l cap2) ∧ w'.heap[w.heap.size]? = some (.cells cells 5 (0, 0)) ∧
      cells.size = cap2 ∧ cells.toList.take l = cur.toList.take l ∧ l + n ≤ cap2 ∧ cap2 ≤ maxLen ∧ Below w.heap.size w w' := Any.bytes_growSlice_row Tryz.laysM290 g l c n cur w hg hcs hlc hn hlim hc2 h1
open Go.RowKit in
/-- .. OF THE NIL SLICE: a new row with room for n. (LAID: no walk: one application.) -/
theorem Tryz.bytes_growSlice_nil (n : Nat) (w : World) (hn : 1 ≤ n) (hlim : n ≤ 140737488355328) :
    Calls Tryz.prog 195 #[.slice none 0 0, .int .i64 n] w fun e w' => ∃ cap2 cells, e = .returned (.slice (some ⟨w.heap.size, 0, none⟩) 0 cap2) ∧ w'.heap[w.heap.size]? = some (.cells cells 5 (0, 0)) ∧
      cells.size = cap2 ∧ n ≤ cap2 ∧ cap2 ≤ maxLen ∧ Below w.heap.size w w' := Any.bytes_growSlice_nil Tryz.laysM290 n w hn hlim
def Tryz.laysM183_ren : Go.Shelf.Ren := ⟨fun | 183 => 108 | n => n, fun | 130 => 154 | 37 => 22 | 0 => 0 | 93 => 129 | 3 => 3 | 5 => 5 | 91 => 127 | n => n, fun | n => n⟩
theorem Tryz.laysM183 : Go.Proofs.LaysM.n183 Tryz.prog Tryz.laysM183_ren := {
  mixed := by kernel_rfl
  f183 := Tryz.func108.trans (congrArg some (by kernel_rfl))
  t0 := Tryz.underlying0
  a0 := Tryz.isAgg0
  z0 := Tryz.sizeOf0
  v0 := Tryz.zeroValue0
  t3 := Tryz.underlying3
  a3 := Tryz.isAgg3
  z3 := Tryz.sizeOf3
  v3 := Tryz.zeroValue3
  t37 := Tryz.underlying22
  a37 := Tryz.isAgg22
  z37 := Tryz.sizeOf22
  v37 := Tryz.zeroValue22
  t93 := Tryz.underlying129
  a93 := Tryz.isAgg129
  z93 := Tryz.sizeOf129
  v93 := Tryz.zeroValue129
  t130 := Tryz.underlying154
  a130 := Tryz.isAgg154
  z130 := Tryz.sizeOf154
  v130 := Tryz.zeroValue154
  t5 := Tryz.underlying5
  a5 := Tryz.isAgg5
  z5 := Tryz.sizeOf5
  v5 := Tryz.zeroValue5
  t91 := Tryz.underlying127
  a91 := Tryz.isAgg127
  z91 := Tryz.sizeOf127
  v91 := Tryz.zeroValue127
  i0 := by kernel_rfl
  i3 := by kernel_rfl
  i5 := by kernel_rfl
  i37 := by kernel_rfl
  i91 := by kernel_rfl
  i93 := by kernel_rfl
  i130 := by kernel_rfl }
open Go.RowKit in
/-- (*bytes.Buffer).Bytes: "Bytes returns a slice of length b.Len() holding the unread portion of the buffer. .. The slice aliases the buffer content at least until the next buffer modification": A SLICE THAT OWNS THE CELLS bs ('World.ownsRow': nil where nothing was ever written). The world is as it was but for the count of draws. (LAID: no walk: one application.) -/
theorem Tryz.Buffer_Bytes (B b : Nat) (bs : List Value) (w : World) (h : Lib.IsBuffer 129 5 B b bs w) :
    Calls Tryz.prog 108 #[.pointer (some ⟨b, 0, none⟩)] w fun e w' => ∃ v, e = .returned v ∧ w'.ownsRow B 5 1 v bs.length bs ∧ ∃ n, w' = w.drewN n := Any.Buffer_Bytes Tryz.laysM183 B b bs w h
def Tryz.laysBin36_ren : Go.Shelf.Ren := ⟨fun | 36 => 248 | n => n, fun | 37 => 182 | 22 => 22 | 23 => 184 | 0 => 0 | 5 => 5 | 45 => 151 | n => n, fun | n => n⟩
theorem Tryz.laysBin36 : Go.Proofs.LaysBin.n36 Tryz.prog Tryz.laysBin36_ren := {
  mixed := by kernel_rfl
  f36 := Tryz.func248.trans (congrArg some (by kernel_rfl))
  t0 := Tryz.underlying0
  a0 := Tryz.isAgg0
  z0 := Tryz.sizeOf0
  v0 := Tryz.zeroValue0
  i0 := by kernel_rfl
  t5 := Tryz.underlying5
  a5 := Tryz.isAgg5
  z5 := Tryz.sizeOf5
  v5 := Tryz.zeroValue5
  i5 := by kernel_rfl
  t22 := Tryz.underlying22
  a22 := Tryz.isAgg22
  z22 := Tryz.sizeOf22
  v22 := Tryz.zeroValue22
  i22 := by kernel_rfl
  t23 := Tryz.underlying184
  a23 := Tryz.isAgg184
  z23 := Tryz.sizeOf184
  v23 := Tryz.zeroValue184
  i23 := by kernel_rfl
  t37 := Tryz.underlying182
  a37 := Tryz.isAgg182
  z37 := Tryz.sizeOf182
  v37 := Tryz.zeroValue182
  i37 := by kernel_rfl
  t45 := Tryz.underlying151
  a45 := Tryz.isAgg151
  z45 := Tryz.sizeOf151
  v45 := Tryz.zeroValue151
  i45 := by kernel_rfl }
open Go.RowKit in
/-- binary.BigEndian.Uint16: "Uint16 returns the uint16 representation of b[0:2].": THE NUMBER THAT THE FIRST 2 BYTES SPELL, the greatest byte first ('Lib.beNat'). Of what was there nothing has turned (the receiver, an empty struct, is laid in a new block without cells; the statement's order is drawn). (LAID: no walk: one application.) -/
theorem Tryz.binary_BE_Uint16 (g o n c : Nat) (b0 b1 : UInt8) (w : World) (hn : 2 ≤ n) (c0 : w.cell? ⟨g, o, none⟩ = some (.int .u8 b0.toNat)) (c1 : w.cell? ⟨g, o + 1, none⟩ = some (.int .u8 b1.toNat)) :
    Calls Tryz.prog 248 #[.agg #[], .slice (some ⟨g, o, none⟩) n c] w fun e w' => e = .returned (.int .u16 (Lib.beNat [b0, b1])) ∧ Below w.heap.size w w' := Any.binary_BE_Uint16 Tryz.laysBin36 g o n c b0 b1 w hn c0 c1
def Tryz.laysBin37_ren : Go.Shelf.Ren := ⟨fun | 37 => 247 | n => n, fun | 37 => 182 | 22 => 22 | 23 => 184 | 0 => 0 | 5 => 5 | 45 => 151 | n => n, fun | n => n⟩
theorem Tryz.laysBin37 : Go.Proofs.LaysBin.n37 Tryz.prog Tryz.laysBin37_ren := {
  mixed := by kernel_rfl
  f37 := Tryz.func247.trans (congrArg some (by kernel_rfl))
  t0 := Tryz.underlying0
  a0 := Tryz.isAgg0
  z0 := Tryz.sizeOf0
  v0 := Tryz.zeroValue0
  i0 := by kernel_rfl
  t5 := Tryz.underlying5
  a5 := Tryz.isAgg5
  z5 := Tryz.sizeOf5
  v5 := Tryz.zeroValue5
  i5 := by kernel_rfl
  t22 := Tryz.underlying22
  a22 := Tryz.isAgg22
  z22 := Tryz.sizeOf22
  v22 := Tryz.zeroValue22
  i22 := by kernel_rfl
  t23 := Tryz.underlying184
  a23 := Tryz.isAgg184
  z23 := Tryz.sizeOf184
  v23 := Tryz.zeroValue184
  i23 := by kernel_rfl
  t37 := Tryz.underlying182
  a37 := Tryz.isAgg182
  z37 := Tryz.sizeOf182
  v37 := Tryz.zeroValue182
  i37 := by kernel_rfl
  t45 := Tryz.underlying151
  a45 := Tryz.isAgg151
  z45 := Tryz.sizeOf151
  v45 := Tryz.zeroValue151
  i45 := by kernel_rfl }
open Go.RowKit in
/-- binary.BigEndian.PutUint16: "PutUint16 stores v into b[0:2].": v's 2 BYTES, the greatest first ('Lib.beBytes 2 v'), ARE LAID IN THE SLICE's FIRST 2 CELLS ('World.setCells'); nothing else turns (the receiver, an empty struct, is laid in a new block without cells). (LAID: no walk: one application.) -/
theorem Tryz.binary_BE_PutUint16 (g o n c v : Nat) (hv : v < 65536) (x0 x1 : Value) (w : World) (hn : 2 ≤ n) (c0 : w.cell? ⟨g, o, none⟩ = some x0) (c1 : w.cell? ⟨g, o + 1, none⟩ = some x1) (f0 : w.frozen? ⟨g, o, none⟩ = false) (f1 : w.frozen? ⟨g, o + 1, none⟩ = false) :
    Calls Tryz.prog 247 #[.agg #[], .slice (some ⟨g, o, none⟩) n c, .int .u16 v] w fun e w' => e = .returned (.tuple #[]) ∧ w' = (w.alloc (.cells #[] 182)).setCells g o (Lib.byteCells (Lib.beBytes 2 v)) := Any.binary_BE_PutUint16 Tryz.laysBin37 g o n c v hv x0 x1 w hn c0 c1 f0 f1
def Tryz.laysBin42_ren : Go.Shelf.Ren := ⟨fun | 42 => 274 | n => n, fun | 37 => 182 | 22 => 22 | 33 => 67 | 0 => 0 | 5 => 5 | 45 => 151 | n => n, fun | n => n⟩
theorem Tryz.laysBin42 : Go.Proofs.LaysBin.n42 Tryz.prog Tryz.laysBin42_ren := {
  mixed := by kernel_rfl
  f42 := Tryz.func274.trans (congrArg some (by kernel_rfl))
  t0 := Tryz.underlying0
  a0 := Tryz.isAgg0
  z0 := Tryz.sizeOf0
  v0 := Tryz.zeroValue0
  i0 := by kernel_rfl
  t5 := Tryz.underlying5
  a5 := Tryz.isAgg5
  z5 := Tryz.sizeOf5
  v5 := Tryz.zeroValue5
  i5 := by kernel_rfl
  t22 := Tryz.underlying22
  a22 := Tryz.isAgg22
  z22 := Tryz.sizeOf22
  v22 := Tryz.zeroValue22
  i22 := by kernel_rfl
  t33 := Tryz.underlying67
  a33 := Tryz.isAgg67
  z33 := Tryz.sizeOf67
  v33 := Tryz.zeroValue67
  i33 := by kernel_rfl
  t37 := Tryz.underlying182
  a37 := Tryz.isAgg182
  z37 := Tryz.sizeOf182
  v37 := Tryz.zeroValue182
  i37 := by kernel_rfl
  t45 := Tryz.underlying151
  a45 := Tryz.isAgg151
  z45 := Tryz.sizeOf151
  v45 := Tryz.zeroValue151
  i45 := by kernel_rfl }
open Go.RowKit in
/-- binary.BigEndian.Uint64: "Uint64 returns the uint64 representation of b[0:8].": THE NUMBER THAT THE FIRST 8 BYTES SPELL, the greatest byte first ('Lib.beNat'). Of what was there nothing has turned (the receiver, an empty struct, is laid in a new block without cells; the statement's order is drawn). (LAID: no walk: one application.) -/
theorem Tryz.binary_BE_Uint64 (g o n c : Nat) (b0 b1 b2 b3 b4 b5 b6 b7 : UInt8) (w : World) (hn : 8 ≤ n) (c0 : w.cell? ⟨g, o, none⟩ = some (.int .u8 b0.toNat)) (c1 : w.cell? ⟨g, o + 1, none⟩ = some (.int .u8 b1.toNat)) (c2 : w.cell? ⟨g, o + 2, none⟩ = some (.int .u8 b2.toNat)) (c3 : w.cell? ⟨g, o + 3, none⟩ = some (.int .u8 b3.toNat)) (c4 : w.cell? ⟨g, o + 4, none⟩ = some (.int .u8 b4.toNat)) (c5 : w.cell? ⟨g, o + 5, none⟩ = some (.int .u8 b5.toNat)) (c6 : w.cell? ⟨g, o + 6, none⟩ = some (.int .u8 b6.toNat)) (c7 : w.cell? ⟨g, o + 7, none⟩ = some (.int .u8 b7.toNat)) :
    Calls Tryz.prog 274 #[.agg #[], .slice (some ⟨g, o, none⟩) n c] w fun e w' => e = .returned (.int .u64 (Lib.beNat [b0, b1, b2, b3, b4, b5, b6, b7])) ∧ Below w.heap.size w w' := Any.binary_BE_Uint64 Tryz.laysBin42 g o n c b0 b1 b2 b3 b4 b5 b6 b7 w hn c0 c1 c2 c3 c4 c5 c6 c7
open Go.RowKit in
/-- binary.BigEndian.Uint64, b SHORTER THAN 8: IT PANICS: Go's 'runtime error: index out of range [7] with length n' ('Lib.boundsPanicked'). THE WORLD: the receiver's new block without cells, and the draw of the panic's flag. (LAID: no walk: one application.) -/
theorem Tryz.binary_BE_Uint64_panics (ao : Option Addr) (n c : Nat) (w : World) (hn : n < 8) (hnil : ao = none → n = 0) :
    Calls Tryz.prog 274 #[.agg #[], .slice ao n c] w fun e w' => Lib.boundsPanicked Tryz.prog 7 n e ∧ w' = (w.alloc (.cells #[] 182)).drew := Any.binary_BE_Uint64_panics Tryz.laysBin42 ao n c w hn hnil
def Tryz.laysBin46_ren : Go.Shelf.Ren := ⟨fun | 46 => 148 | n => n, fun | 22 => 22 | 33 => 67 | 3 => 3 | 4 => 4 | 5 => 5 | 0 => 0 | 45 => 151 | n => n, fun | n => n⟩
theorem Tryz.laysBin46 : Go.Proofs.LaysBin.n46 Tryz.prog Tryz.laysBin46_ren := {
  mixed := by kernel_rfl
  f46 := Tryz.func148.trans (congrArg some (by kernel_rfl))
  t0 := Tryz.underlying0
  a0 := Tryz.isAgg0
  z0 := Tryz.sizeOf0
  v0 := Tryz.zeroValue0
  i0 := by kernel_rfl
  t3 := Tryz.underlying3
  a3 := Tryz.isAgg3
  z3 := Tryz.sizeOf3
  v3 := Tryz.zeroValue3
  i3 := by kernel_rfl
  t4 := Tryz.underlying4
  a4 := Tryz.isAgg4
  z4 := Tryz.sizeOf4
  v4 := Tryz.zeroValue4
  i4 := by kernel_rfl
  t5 := Tryz.underlying5
  a5 := Tryz.isAgg5
  z5 := Tryz.sizeOf5
  v5 := Tryz.zeroValue5
  i5 := by kernel_rfl
  t22 := Tryz.underlying22
  a22 := Tryz.isAgg22
  z22 := Tryz.sizeOf22
  v22 := Tryz.zeroValue22
  i22 := by kernel_rfl
  t33 := Tryz.underlying67
  a33 := Tryz.isAgg67
  z33 := Tryz.sizeOf67
  v33 := Tryz.zeroValue67
  i33 := by kernel_rfl
  t45 := Tryz.underlying151
  a45 := Tryz.isAgg151
  z45 := Tryz.sizeOf151
  v45 := Tryz.zeroValue151
  i45 := by kernel_rfl }
open Go.RowKit in
/-- binary.PutUvarint: "PutUvarint encodes a uint64 into buf and returns the number of bytes written. If the buffer is too small, PutUvarint will panic.": WHERE buf HAS ROOM: x's VARINT ('Lib.uvarint x') IS LAID IN buf's FIRST CELLS ('World.setCells'); its length comes back; nothing else turns. (LAID: no walk: one application.) -/
theorem Tryz.binary_PutUvarint (g o n c x : Nat) (hx : x < 18446744073709551616) (w : World) (hn : (Lib.uvarint x).length ≤ n) (hcell : ∀ j, j < (Lib.uvarint x).length → (w.cell? ⟨g, o + j, none⟩).isSome = true ∧ w.frozen? ⟨g, o + j, none⟩ = false) :
    Calls Tryz.prog 148 #[.slice (some ⟨g, o, none⟩) n c, .int .u64 x] w fun e w' => e = .returned (.int .i64 (Lib.uvarint x).length) ∧ w' = w.setCells g o (Lib.byteCells (Lib.uvarint x)) := Any.binary_PutUvarint Tryz.laysBin46 g o n c x hx w hn hcell
def Tryz.laysPu14_ren : Go.Shelf.Ren := ⟨fun | 14 => 246 | 16 => 280 | 17 => 281 | 19 => 341 | 20 => 342 | 21 => 343 | 22 => 344 | 23 => 345 | 24 => 346 | 25 => 389 | 27 => 161 | 26 => 52 | 28 => 191 | 29 => 241 | 30 => 275 | 31 => 276 | 32 => 277 | 33 => 278 | 35 => 187 | 34 => 335 | 36 => 336 | 37 => 337 | 38 => 338 | 39 => 386 | 40 => 387 | n => n, fun | 9 => 9 | 3 => 3 | 22 => 67 | 24 => 58 | 25 => 179 | 4 => 4 | 34 => 258 | 5 => 5 | 36 => 151 | 37 => 22 | 0 => 0 | 39 => 260 | 21 => 21 | 44 => 311 | 47 => 169 | 50 => 100 | 48 => 98 | 2 => 2 | 52 => 216 | 55 => 217 | 59 => 250 | 60 => 251 | 20 => 20 | 61 => 252 | 65 => 263 | 66 => 269 | 67 => 114 | n => n, fun | 0 => 15 | 1 => 16 | 2 => 13 | 3 => 23 | 4 => 24 | n => n⟩
theorem Tryz.laysPu14 : Go.Proofs.LaysPu.n14 Tryz.prog Tryz.laysPu14_ren := {
  mixed := by kernel_rfl
  f14 := Tryz.func246.trans (congrArg some (by kernel_rfl))
  f16 := Tryz.func280.trans (congrArg some (by kernel_rfl))
  f17 := Tryz.func281.trans (congrArg some (by kernel_rfl))
  f19 := Tryz.func341.trans (congrArg some (by kernel_rfl))
  f20 := Tryz.func342.trans (congrArg some (by kernel_rfl))
  f21 := Tryz.func343.trans (congrArg some (by kernel_rfl))
  f22 := Tryz.func344.trans (congrArg some (by kernel_rfl))
  f23 := Tryz.func345.trans (congrArg some (by kernel_rfl))
  f24 := Tryz.func346.trans (congrArg some (by kernel_rfl))
  f25 := Tryz.func389.trans (congrArg some (by kernel_rfl))
  f26 := Tryz.func52.trans (congrArg some (by kernel_rfl))
  f27 := Tryz.func161.trans (congrArg some (by kernel_rfl))
  f28 := Tryz.func191.trans (congrArg some (by kernel_rfl))
  f29 := Tryz.func241.trans (congrArg some (by kernel_rfl))
  f30 := Tryz.func275.trans (congrArg some (by kernel_rfl))
  f31 := Tryz.func276.trans (congrArg some (by kernel_rfl))
  f32 := Tryz.func277.trans (congrArg some (by kernel_rfl))
  f33 := Tryz.func278.trans (congrArg some (by kernel_rfl))
  f34 := Tryz.func335.trans (congrArg some (by kernel_rfl))
  f35 := Tryz.func187.trans (congrArg some (by kernel_rfl))
  f36 := Tryz.func336.trans (congrArg some (by kernel_rfl))
  f37 := Tryz.func337.trans (congrArg some (by kernel_rfl))
  f38 := Tryz.func338.trans (congrArg some (by kernel_rfl))
  f39 := Tryz.func386.trans (congrArg some (by kernel_rfl))
  f40 := Tryz.func387.trans (congrArg some (by kernel_rfl))
  t0 := Tryz.underlying0
  a0 := Tryz.isAgg0
  z0 := Tryz.sizeOf0
  v0 := Tryz.zeroValue0
  i0 := by kernel_rfl
  t2 := Tryz.underlying2
  a2 := Tryz.isAgg2
  z2 := Tryz.sizeOf2
  v2 := Tryz.zeroValue2
  i2 := by kernel_rfl
  t3 := Tryz.underlying3
  a3 := Tryz.isAgg3
  z3 := Tryz.sizeOf3
  v3 := Tryz.zeroValue3
  i3 := by kernel_rfl
  t4 := Tryz.underlying4
  a4 := Tryz.isAgg4
  z4 := Tryz.sizeOf4
  v4 := Tryz.zeroValue4
  i4 := by kernel_rfl
  t5 := Tryz.underlying5
  a5 := Tryz.isAgg5
  z5 := Tryz.sizeOf5
  v5 := Tryz.zeroValue5
  i5 := by kernel_rfl
  t9 := Tryz.underlying9
  a9 := Tryz.isAgg9
  z9 := Tryz.sizeOf9
  v9 := Tryz.zeroValue9
  i9 := by kernel_rfl
  t20 := Tryz.underlying20
  a20 := Tryz.isAgg20
  z20 := Tryz.sizeOf20
  v20 := Tryz.zeroValue20
  i20 := by kernel_rfl
  t21 := Tryz.underlying21
  a21 := Tryz.isAgg21
  z21 := Tryz.sizeOf21
  v21 := Tryz.zeroValue21
  i21 := by kernel_rfl
  t22 := Tryz.underlying67
  a22 := Tryz.isAgg67
  z22 := Tryz.sizeOf67
  v22 := Tryz.zeroValue67
  i22 := by kernel_rfl
  t24 := Tryz.underlying58
  a24 := Tryz.isAgg58
  z24 := Tryz.sizeOf58
  v24 := Tryz.zeroValue58
  i24 := by kernel_rfl
  t25 := Tryz.underlying179
  a25 := Tryz.isAgg179
  z25 := Tryz.sizeOf179
  v25 := Tryz.zeroValue179
  i25 := by kernel_rfl
  t34 := Tryz.underlying258
  a34 := Tryz.isAgg258
  z34 := Tryz.sizeOf258
  v34 := Tryz.zeroValue258
  i34 := by kernel_rfl
  c34 := by kernel_rfl
  t36 := Tryz.underlying151
  a36 := Tryz.isAgg151
  z36 := Tryz.sizeOf151
  v36 := Tryz.zeroValue151
  i36 := by kernel_rfl
  t37 := Tryz.underlying22
  a37 := Tryz.isAgg22
  z37 := Tryz.sizeOf22
  v37 := Tryz.zeroValue22
  i37 := by kernel_rfl
  t39 := Tryz.underlying260
  a39 := Tryz.isAgg260
  z39 := Tryz.sizeOf260
  v39 := Tryz.zeroValue260
  i39 := by kernel_rfl
  t44 := Tryz.underlying311
  a44 := Tryz.isAgg311
  z44 := Tryz.sizeOf311
  v44 := Tryz.zeroValue311
  i44 := by kernel_rfl
  t47 := Tryz.underlying169
  a47 := Tryz.isAgg169
  z47 := Tryz.sizeOf169
  v47 := Tryz.zeroValue169
  i47 := by kernel_rfl
  t48 := Tryz.underlying98
  a48 := Tryz.isAgg98
  z48 := Tryz.sizeOf98
  v48 := Tryz.zeroValue98
  i48 := by kernel_rfl
  t50 := Tryz.underlying100
  a50 := Tryz.isAgg100
  z50 := Tryz.sizeOf100
  v50 := Tryz.zeroValue100
  i50 := by kernel_rfl
  t52 := Tryz.underlying216
  a52 := Tryz.isAgg216
  z52 := Tryz.sizeOf216
  v52 := Tryz.zeroValue216
  i52 := by kernel_rfl
  t55 := Tryz.underlying217
  a55 := Tryz.isAgg217
  z55 := Tryz.sizeOf217
  v55 := Tryz.zeroValue217
  i55 := by kernel_rfl
  t59 := Tryz.underlying250
  a59 := Tryz.isAgg250
  z59 := Tryz.sizeOf250
  v59 := Tryz.zeroValue250
  i59 := by kernel_rfl
  t60 := Tryz.underlying251
  a60 := Tryz.isAgg251
  z60 := Tryz.sizeOf251
  v60 := Tryz.zeroValue251
  i60 := by kernel_rfl
  t61 := Tryz.underlying252
  a61 := Tryz.isAgg252
  z61 := Tryz.sizeOf252
  t65 := Tryz.underlying263
  a65 := Tryz.isAgg263
  z65 := Tryz.sizeOf263
  v65 := Tryz.zeroValue263
  i65 := by kernel_rfl
  t66 := Tryz.underlying269
  a66 := Tryz.isAgg269
  z66 := Tryz.sizeOf269
  v66 := Tryz.zeroValue269
  i66 := by kernel_rfl
  t67 := Tryz.underlying114
  a67 := Tryz.isAgg114
  z67 := Tryz.sizeOf114
  v67 := Tryz.zeroValue114
  i67 := by kernel_rfl
  g0 := by kernel_rfl
  m0 := by kernel_rfl
  g1 := by kernel_rfl
  m1 := by kernel_rfl
  g2 := by kernel_rfl
  m2 := by kernel_rfl
  g3 := by kernel_rfl
  m3 := by kernel_rfl
  g4 := by kernel_rfl
  m4 := by kernel_rfl }
open Go.RowKit in
/-- strconv.ParseUint(s, 10, 0), AT EVERY STRING THAT SPELLS A uint64 ('Lib.parseUintB 64 s.data.toList = .ok u'): u, AND NO ERROR. (LAID: no walk: one application.) -/
theorem Tryz.strconv_ParseUint_10_at0_ok (s : ByteArray) (hmax : s.size ≤ 9223372036854775806) (u : Nat) (h : Lib.parseUintB 64 s.data.toList = .ok u) (w : World) :
    Calls Tryz.prog 246 #[.string s, .int .i64 10, .int .i64 0] w fun e w' => e = .returned (.tuple #[.int .u64 u, .nilIface]) ∧ (w' = w ∨ w' = Lib.bytesWorld w 5 s) := Any.strconv_ParseUint_10_at0_ok Tryz.laysPu14 s hmax u h w
open Go.RowKit in
/-- strconv.ParseUint(s, 10, 0), AT EVERY NUMERAL THAT NO uint64 HOLDS: THE GREATEST uint64, AND AN ERROR THAT IS NOT nil: a *NumError in a new block N: {Func: "ParseUint", Num: s's bytes, Err: what the variable ErrRange holds}. Of what was there nothing has turned. (LAID: no walk: one application.) -/
theorem Tryz.strconv_ParseUint_10_at0_range (s : ByteArray) (hlim : s.size ≤ 281474976710656) (h : Lib.parseUintB 64 s.data.toList = .range) (ev : Value) (w : World) (hv : w.cell? ⟨16, 0, none⟩ = some ev) (hev : ev = .nilIface ∨ ∃ te pe, ev = .iface te pe) :
    Calls Tryz.prog 246 #[.string s, .int .i64 10, .int .i64 0] w fun e w' => ∃ N, e = .returned (.tuple #[.int .u64 18446744073709551615, .iface 260 (.pointer (some ⟨N, 0, none⟩))]) ∧ w.heap.size ≤ N ∧ w'.heap[N]? = some (.cells #[.string ⟨#[80, 97, 114, 115, 101, 85, 105, 110, 116]⟩, .string s, ev] 311 (0, 0)) ∧ Below w.heap.size w w' := Any.strconv_ParseUint_10_at0_range Tryz.laysPu14 s hlim h ev w hv hev
open Go.RowKit in
/-- strconv.ParseUint(s, 10, 64), AT EVERY STRING THAT SPELLS A uint64 ('Lib.parseUintB 64 s.data.toList = .ok u'): u, AND NO ERROR. (LAID: no walk: one application.) -/
theorem Tryz.strconv_ParseUint_10_at64_ok (s : ByteArray) (hmax : s.size ≤ 9223372036854775806) (u : Nat) (h : Lib.parseUintB 64 s.data.toList = .ok u) (w : World) :
    Calls Tryz.prog 246 #[.string s, .int .i64 10, .int .i64 64] w fun e w' => e = .returned (.tuple #[.int .u64 u, .nilIface]) ∧ (w' = w ∨ w' = Lib.bytesWorld w 5 s) := Any.strconv_ParseUint_10_at64_ok Tryz.laysPu14 s hmax u h w
open Go.RowKit in
/-- strconv.ParseUint(s, 10, 64), AT EVERY NUMERAL THAT NO uint64 HOLDS: THE GREATEST uint64, AND AN ERROR THAT IS NOT nil: a *NumError in a new block N: {Func: "ParseUint", Num: s's bytes, Err: what the variable ErrRange holds}. Of what was there nothing has turned. (LAID: no walk: one application.) -/
theorem Tryz.strconv_ParseUint_10_at64_range (s : ByteArray) (hlim : s.size ≤ 281474976710656) (h : Lib.parseUintB 64 s.data.toList = .range) (ev : Value) (w : World) (hv : w.cell? ⟨16, 0, none⟩ = some ev) (hev : ev = .nilIface ∨ ∃ te pe, ev = .iface te pe) :
    Calls Tryz.prog 246 #[.string s, .int .i64 10, .int .i64 64] w fun e w' => ∃ N, e = .returned (.tuple #[.int .u64 18446744073709551615, .iface 260 (.pointer (some ⟨N, 0, none⟩))]) ∧ w.heap.size ≤ N ∧ w'.heap[N]? = some (.cells #[.string ⟨#[80, 97, 114, 115, 101, 85, 105, 110, 116]⟩, .string s, ev] 311 (0, 0)) ∧ Below w.heap.size w w' := Any.strconv_ParseUint_10_at64_range Tryz.laysPu14 s hlim h ev w hv hev
open Go.RowKit in
/-- strconv.ParseUint(s, 10, 32), AT EVERY STRING THAT SPELLS A uint32 ('Lib.parseUintB 32 s.data.toList = .ok u'): u, AND NO ERROR. (LAID: no walk: one application.) -/
theorem Tryz.strconv_ParseUint_10_at32_ok (s : ByteArray) (hmax : s.size ≤ 9223372036854775806) (u : Nat) (h : Lib.parseUintB 32 s.data.toList = .ok u) (w : World) :
    Calls Tryz.prog 246 #[.string s, .int .i64 10, .int .i64 32] w fun e w' => e = .returned (.tuple #[.int .u64 u, .nilIface]) ∧ (w' = w ∨ w' = Lib.bytesWorld w 5 s) := Any.strconv_ParseUint_10_at32_ok Tryz.laysPu14 s hmax u h w
open Go.RowKit in
/-- strconv.ParseUint(s, 10, 32), AT EVERY NUMERAL THAT NO uint32 HOLDS: THE GREATEST uint32, AND AN ERROR THAT IS NOT nil: a *NumError in a new block N: {Func: "ParseUint", Num: s's bytes, Err: what the variable ErrRange holds}. Of what was there nothing has turned. (LAID: no walk: one application.) -/
theorem Tryz.strconv_ParseUint_10_at32_range (s : ByteArray) (hlim : s.size ≤ 281474976710656) (h : Lib.parseUintB 32 s.data.toList = .range) (ev : Value) (w : World) (hv : w.cell? ⟨16, 0, none⟩ = some ev) (hev : ev = .nilIface ∨ ∃ te pe, ev = .iface te pe) :
    Calls Tryz.prog 246 #[.string s, .int .i64 10, .int .i64 32] w fun e w' => ∃ N, e = .returned (.tuple #[.int .u64 4294967295, .iface 260 (.pointer (some ⟨N, 0, none⟩))]) ∧ w.heap.size ≤ N ∧ w'.heap[N]? = some (.cells #[.string ⟨#[80, 97, 114, 115, 101, 85, 105, 110, 116]⟩, .string s, ev] 311 (0, 0)) ∧ Below w.heap.size w w' := Any.strconv_ParseUint_10_at32_range Tryz.laysPu14 s hlim h ev w hv hev
open Go.RowKit in
/-- strconv.ParseUint(s, 10, 16), AT EVERY STRING THAT SPELLS A uint16 ('Lib.parseUintB 16 s.data.toList = .ok u'): u, AND NO ERROR. (LAID: no walk: one application.) -/
theorem Tryz.strconv_ParseUint_10_at16_ok (s : ByteArray) (hmax : s.size ≤ 9223372036854775806) (u : Nat) (h : Lib.parseUintB 16 s.data.toList = .ok u) (w : World) :
    Calls Tryz.prog 246 #[.string s, .int .i64 10, .int .i64 16] w fun e w' => e = .returned (.tuple #[.int .u64 u, .nilIface]) ∧ (w' = w ∨ w' = Lib.bytesWorld w 5 s) := Any.strconv_ParseUint_10_at16_ok Tryz.laysPu14 s hmax u h w
open Go.RowKit in
/-- strconv.ParseUint(s, 10, 16), AT EVERY NUMERAL THAT NO uint16 HOLDS: THE GREATEST uint16, AND AN ERROR THAT IS NOT nil: a *NumError in a new block N: {Func: "ParseUint", Num: s's bytes, Err: what the variable ErrRange holds}. Of what was there nothing has turned. (LAID: no walk: one application.) -/
theorem Tryz.strconv_ParseUint_10_at16_range (s : ByteArray) (hlim : s.size ≤ 281474976710656) (h : Lib.parseUintB 16 s.data.toList = .range) (ev : Value) (w : World) (hv : w.cell? ⟨16, 0, none⟩ = some ev) (hev : ev = .nilIface ∨ ∃ te pe, ev = .iface te pe) :
    Calls Tryz.prog 246 #[.string s, .int .i64 10, .int .i64 16] w fun e w' => ∃ N, e = .returned (.tuple #[.int .u64 65535, .iface 260 (.pointer (some ⟨N, 0, none⟩))]) ∧ w.heap.size ≤ N ∧ w'.heap[N]? = some (.cells #[.string ⟨#[80, 97, 114, 115, 101, 85, 105, 110, 116]⟩, .string s, ev] 311 (0, 0)) ∧ Below w.heap.size w w' := Any.strconv_ParseUint_10_at16_range Tryz.laysPu14 s hlim h ev w hv hev
open Go.RowKit in
/-- strconv.ParseUint(s, 10, 8), AT EVERY STRING THAT SPELLS A uint8 ('Lib.parseUintB 8 s.data.toList = .ok u'): u, AND NO ERROR. (LAID: no walk: one application.) -/
theorem Tryz.strconv_ParseUint_10_at8_ok (s : ByteArray) (hmax : s.size ≤ 9223372036854775806) (u : Nat) (h : Lib.parseUintB 8 s.data.toList = .ok u) (w : World) :
    Calls Tryz.prog 246 #[.string s, .int .i64 10, .int .i64 8] w fun e w' => e = .returned (.tuple #[.int .u64 u, .nilIface]) ∧ (w' = w ∨ w' = Lib.bytesWorld w 5 s) := Any.strconv_ParseUint_10_at8_ok Tryz.laysPu14 s hmax u h w
open Go.RowKit in
/-- strconv.ParseUint(s, 10, 8), AT EVERY NUMERAL THAT NO uint8 HOLDS: THE GREATEST uint8, AND AN ERROR THAT IS NOT nil: a *NumError in a new block N: {Func: "ParseUint", Num: s's bytes, Err: what the variable ErrRange holds}. Of what was there nothing has turned. (LAID: no walk: one application.) -/
theorem Tryz.strconv_ParseUint_10_at8_range (s : ByteArray) (hlim : s.size ≤ 281474976710656) (h : Lib.parseUintB 8 s.data.toList = .range) (ev : Value) (w : World) (hv : w.cell? ⟨16, 0, none⟩ = some ev) (hev : ev = .nilIface ∨ ∃ te pe, ev = .iface te pe) :
    Calls Tryz.prog 246 #[.string s, .int .i64 10, .int .i64 8] w fun e w' => ∃ N, e = .returned (.tuple #[.int .u64 255, .iface 260 (.pointer (some ⟨N, 0, none⟩))]) ∧ w.heap.size ≤ N ∧ w'.heap[N]? = some (.cells #[.string ⟨#[80, 97, 114, 115, 101, 85, 105, 110, 116]⟩, .string s, ev] 311 (0, 0)) ∧ Below w.heap.size w w' := Any.strconv_ParseUint_10_at8_range Tryz.laysPu14 s hlim h ev w hv hev
open Go.RowKit in
/-- binary.BigEndian.Uint16, ITS PREMISES 'open_ints'' CONCLUSION TO THE LETTER: a slice at WHATEVER address a, the numbers zs that its cells hold: THE NUMBER THAT THE FIRST 2 SPELL ('Lib.beZ'). (LAID: no walk: one application.) -/
theorem Tryz.binary_BE_Uint16_z (a : Addr) (n c : Nat) (zs : List Int) (w : World) (hn : 2 ≤ n) (hl : 2 ≤ zs.length) (hcell : ∀ i, i < zs.length → w.cell? (a.add i) = some (.int .u8 (zs.getD i 0))) (hw : ∀ z ∈ zs, (Lit.int .u8 z).wf = true) :
    Calls Tryz.prog 248 #[.agg #[], .slice (some a) n c] w fun e w' => e = .returned (.int .u16 (Lib.beZ (zs.take 2))) ∧ Below w.heap.size w w' := Any.binary_BE_Uint16_z Tryz.laysBin36 a n c zs w hn hl hcell hw
open Go.RowKit in
/-- binary.BigEndian.Uint64, ITS PREMISES 'open_ints'' CONCLUSION TO THE LETTER: a slice at WHATEVER address a, the numbers zs that its cells hold: THE NUMBER THAT THE FIRST 8 SPELL ('Lib.beZ'). (LAID: no walk: one application.) -/
theorem Tryz.binary_BE_Uint64_z (a : Addr) (n c : Nat) (zs : List Int) (w : World) (hn : 8 ≤ n) (hl : 8 ≤ zs.length) (hcell : ∀ i, i < zs.length → w.cell? (a.add i) = some (.int .u8 (zs.getD i 0))) (hw : ∀ z ∈ zs, (Lit.int .u8 z).wf = true) :
    Calls Tryz.prog 274 #[.agg #[], .slice (some a) n c] w fun e w' => e = .returned (.int .u64 (Lib.beZ (zs.take 8))) ∧ Below w.heap.size w w' := Any.binary_BE_Uint64_z Tryz.laysBin42 a n c zs w hn hl hcell hw
def Tryz.laysM252_ren : Go.Shelf.Ren := ⟨fun | 252 => 167 | 181 => 193 | 184 => 194 | 251 => 166 | 290 => 195 | 324 => 242 | n => n, fun | 130 => 154 | 3 => 3 | 4 => 4 | 0 => 0 | 93 => 129 | 131 => 155 | 37 => 22 | 75 => 58 | 91 => 127 | 20 => 20 | 5 => 5 | 80 => 114 | 9 => 9 | n => n, fun | 14 => 8 | n => n⟩
theorem Tryz.laysM252 : Go.Proofs.LaysM.n252 Tryz.prog Tryz.laysM252_ren := {
  mixed := by kernel_rfl
  f181 := Tryz.func193.trans (congrArg some (by kernel_rfl))
  f184 := Tryz.func194.trans (congrArg some (by kernel_rfl))
  f251 := Tryz.func166.trans (congrArg some (by kernel_rfl))
  f252 := Tryz.func167.trans (congrArg some (by kernel_rfl))
  f290 := Tryz.func195.trans (congrArg some (by kernel_rfl))
  f324 := Tryz.func242.trans (congrArg some (by kernel_rfl))
  t0 := Tryz.underlying0
  a0 := Tryz.isAgg0
  z0 := Tryz.sizeOf0
  v0 := Tryz.zeroValue0
  t3 := Tryz.underlying3
  a3 := Tryz.isAgg3
  z3 := Tryz.sizeOf3
  v3 := Tryz.zeroValue3
  t4 := Tryz.underlying4
  a4 := Tryz.isAgg4
  z4 := Tryz.sizeOf4
  v4 := Tryz.zeroValue4
  t20 := Tryz.underlying20
  a20 := Tryz.isAgg20
  z20 := Tryz.sizeOf20
  v20 := Tryz.zeroValue20
  t37 := Tryz.underlying22
  a37 := Tryz.isAgg22
  z37 := Tryz.sizeOf22
  v37 := Tryz.zeroValue22
  t75 := Tryz.underlying58
  a75 := Tryz.isAgg58
  z75 := Tryz.sizeOf58
  v75 := Tryz.zeroValue58
  t91 := Tryz.underlying127
  a91 := Tryz.isAgg127
  z91 := Tryz.sizeOf127
  v91 := Tryz.zeroValue127
  t93 := Tryz.underlying129
  a93 := Tryz.isAgg129
  z93 := Tryz.sizeOf129
  v93 := Tryz.zeroValue129
  t130 := Tryz.underlying154
  a130 := Tryz.isAgg154
  z130 := Tryz.sizeOf154
  v130 := Tryz.zeroValue154
  t131 := Tryz.underlying155
  a131 := Tryz.isAgg155
  z131 := Tryz.sizeOf155
  v131 := Tryz.zeroValue155
  g14 := by kernel_rfl
  t5 := Tryz.underlying5
  a5 := Tryz.isAgg5
  z5 := Tryz.sizeOf5
  v5 := Tryz.zeroValue5
  t9 := Tryz.underlying9
  a9 := Tryz.isAgg9
  z9 := Tryz.sizeOf9
  v9 := Tryz.zeroValue9
  t80 := Tryz.underlying114
  a80 := Tryz.isAgg114
  z80 := Tryz.sizeOf114
  v80 := Tryz.zeroValue114
  i0 := by kernel_rfl
  i3 := by kernel_rfl
  i4 := by kernel_rfl
  i5 := by kernel_rfl
  i9 := by kernel_rfl
  i20 := by kernel_rfl
  i37 := by kernel_rfl
  i75 := by kernel_rfl
  i80 := by kernel_rfl
  i91 := by kernel_rfl
  i93 := by kernel_rfl
  i130 := by kernel_rfl
  i131 := by kernel_rfl
  m14 := by kernel_rfl }
open Go.RowKit in
/-- grow, WHERE THE BUFFER HOLDS A ROW, NO BYTE IN IT (behind a Reset), AND THE ROW HAS NO ROOM: growSlice. (THE TEXT OF 'Buffer_grow_row' WITH 0 FOR l, BY PROGRAM: the walk parts on 'm == 0' and writes 0 for l throughout the goal: facts that still say l then do not strike: so l is laid in ahead of the walk.) (LAID: no walk: one application.) -/
theorem Tryz.Buffer_grow_row0_own (B b g cap n : Nat) (lr : Int) (cur : Array Value) (bs : List Value) (w : World) (hB : B ≤ b) (hBw : B ≤ w.heap.size) (hbk : w.heap[b]? = some (.cells #[.slice (some ⟨g, 0, none⟩) 0 cap, .int .i64 0, .int .i8 lr] 129 (0, 0))) (hl : bs.length = 0) (hBg : B ≤ g) (hg : w.heap[g]? = some (.cells cur 5 (0, 0))) (hlc : 0 ≤ cap) (hcm : cap ≤ maxLen) (hcs : cur.size = cap) (htake : cur.toList.take 0 = bs) (hgb : g ≠ b) (h1 : ∀ v ∈ bs, v.oneCell' = true) (hn : 1 ≤ n) (hroom : cap - 0 < n) (hlim : 0 + n ≤ 140737488355328) :
    Calls Tryz.prog 167 #[.pointer (some ⟨b, 0, none⟩), .int .i64 n] w fun e w' => e = .returned (.int .i64 0) ∧ ∃ xs, xs.length = n ∧ Lib.IsBuffer 129 5 B b (bs ++ xs) w' ∧ Below B w w' ∧ Lib.OthersKept 5 (some b) w w' ∧ w.grownBy w' (some b) := Any.Buffer_grow_row0_own Tryz.laysM252 B b g cap n lr cur bs w hB hBw hbk hl hBg hg hlc hcm hcs htake hgb h1 hn hroom hlim
open Go.RowKit in
/-- grow, WHERE THE BUFFER HOLDS A ROW THAT HAS NO ROOM: growSlice. (LAID: no walk: one application.) -/
theorem Tryz.Buffer_grow_row_own (B b g l cap n : Nat) (lr : Int) (cur : Array Value) (bs : List Value) (w : World) (hB : B ≤ b) (hBw : B ≤ w.heap.size) (hbk : w.heap[b]? = some (.cells #[.slice (some ⟨g, 0, none⟩) l cap, .int .i64 0, .int .i8 lr] 129 (0, 0))) (hl : bs.length = l) (hBg : B ≤ g) (hg : w.heap[g]? = some (.cells cur 5 (0, 0))) (hlc : l ≤ cap) (hcm : cap ≤ maxLen) (hcs : cur.size = cap) (htake : cur.toList.take l = bs) (hgb : g ≠ b) (h1 : ∀ v ∈ bs, v.oneCell' = true) (hn : 1 ≤ n) (hroom : cap - l < n) (hlim : l + n ≤ 140737488355328) :
    Calls Tryz.prog 167 #[.pointer (some ⟨b, 0, none⟩), .int .i64 n] w fun e w' => e = .returned (.int .i64 l) ∧ ∃ xs, xs.length = n ∧ Lib.IsBuffer 129 5 B b (bs ++ xs) w' ∧ Below B w w' ∧ Lib.OthersKept 5 (some b) w w' ∧ w.grownBy w' (some b) := Any.Buffer_grow_row_own Tryz.laysM252 B b g l cap n lr cur bs w hB hBw hbk hl hBg hg hlc hcm hcs htake hgb h1 hn hroom hlim
open Go.RowKit in
/-- grow, 'buf' nil, n AT MOST 64: 'b.buf = make([]byte, n, smallBufferSize)'. (LAID: no walk: one application.) -/
theorem Tryz.Buffer_grow_nil_small_own (B b n : Nat) (lr : Int) (w : World) (hB : B ≤ b) (hBw : B ≤ w.heap.size) (hbk : w.heap[b]? = some (.cells #[.slice none 0 0, .int .i64 0, .int .i8 lr] 129 (0, 0))) (hn : 1 ≤ n) (h64 : n ≤ 64) :
    Calls Tryz.prog 167 #[.pointer (some ⟨b, 0, none⟩), .int .i64 n] w fun e w' => e = .returned (.int .i64 0) ∧ ∃ xs, xs.length = n ∧ Lib.IsBuffer 129 5 B b xs w' ∧ Below B w w' ∧ Lib.OthersKept 5 (some b) w w' ∧ w.grownBy w' (some b) := Any.Buffer_grow_nil_small_own Tryz.laysM252 B b n lr w hB hBw hbk hn h64
open Go.RowKit in
/-- grow, 'buf' nil, n ABOVE 64: growSlice of the nil slice. (LAID: no walk: one application.) -/
theorem Tryz.Buffer_grow_nil_big_own (B b n : Nat) (lr : Int) (w : World) (hB : B ≤ b) (hBw : B ≤ w.heap.size) (hbk : w.heap[b]? = some (.cells #[.slice none 0 0, .int .i64 0, .int .i8 lr] 129 (0, 0))) (h64 : 64 < n) (hlim : n ≤ 140737488355328) :
    Calls Tryz.prog 167 #[.pointer (some ⟨b, 0, none⟩), .int .i64 n] w fun e w' => e = .returned (.int .i64 0) ∧ ∃ xs, xs.length = n ∧ Lib.IsBuffer 129 5 B b xs w' ∧ Below B w w' ∧ Lib.OthersKept 5 (some b) w w' ∧ w.grownBy w' (some b) := Any.Buffer_grow_nil_big_own Tryz.laysM252 B b n lr w hB hBw hbk h64 hlim
open Go.RowKit in
/-- tryGrowByReslice: EITHER there is room: the place to write at is the old length, and the buffer holds the old bytes and n more of whatever lay there; OR there is none: nothing turns, and 'Lib.NoRoom' is what grow asks. (LAID: no walk: one application.) -/
theorem Tryz.Buffer_tryGrow_own (B b n : Nat) (bs : List Value) (w : World) (h : Lib.IsBuffer 129 5 B b bs w) :
    Calls Tryz.prog 166 #[.pointer (some ⟨b, 0, none⟩), .int .i64 n] w fun e w' =>
      (e = .returned (.tuple #[.int .i64 bs.length, .bool true]) ∧ ∃ xs, xs.length = n ∧ Lib.IsBuffer 129 5 B b (bs ++ xs) w' ∧ Below B w w' ∧ Lib.OthersKept 5 (some b) w w' ∧ w.grownBy w' (some b)) ∨
      (e = .returned (.tuple #[.int .i64 0, .bool false]) ∧ w' = w ∧ Lib.NoRoom b n w) := Any.Buffer_tryGrow_own Tryz.laysM251 B b n bs w h
open Go.RowKit in
/-- (*bytes.Buffer).grow: "grow grows the buffer to guarantee space for n more bytes. It returns the index where bytes should be written.": WHERE THERE IS NO ROOM; UNDER Go's OWN LIMIT (the new length takes at most 2^47 bytes): the old length; the buffer holds the old bytes and n more of whatever. (LAID: no walk: one application.) -/
theorem Tryz.Buffer_grow_own (B b n : Nat) (bs : List Value) (w : World) (h : Lib.IsBuffer 129 5 B b bs w) (hnr : Lib.NoRoom b n w) (hBw : B ≤ w.heap.size) (h1 : ∀ v ∈ bs, v.oneCell' = true) (hlim : bs.length + n ≤ 140737488355328) :
    Calls Tryz.prog 167 #[.pointer (some ⟨b, 0, none⟩), .int .i64 n] w fun e w' => e = .returned (.int .i64 bs.length) ∧ ∃ xs, xs.length = n ∧ Lib.IsBuffer 129 5 B b (bs ++ xs) w' ∧ Below B w w' ∧ Lib.OthersKept 5 (some b) w w' ∧ w.grownBy w' (some b) := Any.Buffer_grow_own Tryz.laysM252 B b n bs w h hnr hBw h1 hlim
def Tryz.laysM180_ren : Go.Shelf.Ren := ⟨fun | 180 => 106 | 251 => 166 | 252 => 167 | 181 => 193 | 184 => 194 | 290 => 195 | 324 => 242 | n => n, fun | 130 => 154 | 37 => 22 | 3 => 3 | 75 => 58 | 0 => 0 | 93 => 129 | 91 => 127 | 131 => 155 | 4 => 4 | 20 => 20 | 5 => 5 | 80 => 114 | 9 => 9 | n => n, fun | 14 => 8 | n => n⟩
theorem Tryz.laysM180 : Go.Proofs.LaysM.n180 Tryz.prog Tryz.laysM180_ren := {
  mixed := by kernel_rfl
  f180 := Tryz.func106.trans (congrArg some (by kernel_rfl))
  f181 := Tryz.func193.trans (congrArg some (by kernel_rfl))
  f184 := Tryz.func194.trans (congrArg some (by kernel_rfl))
  f251 := Tryz.func166.trans (congrArg some (by kernel_rfl))
  f252 := Tryz.func167.trans (congrArg some (by kernel_rfl))
  f290 := Tryz.func195.trans (congrArg some (by kernel_rfl))
  f324 := Tryz.func242.trans (congrArg some (by kernel_rfl))
  t0 := Tryz.underlying0
  a0 := Tryz.isAgg0
  z0 := Tryz.sizeOf0
  v0 := Tryz.zeroValue0
  t3 := Tryz.underlying3
  a3 := Tryz.isAgg3
  z3 := Tryz.sizeOf3
  v3 := Tryz.zeroValue3
  t4 := Tryz.underlying4
  a4 := Tryz.isAgg4
  z4 := Tryz.sizeOf4
  v4 := Tryz.zeroValue4
  t20 := Tryz.underlying20
  a20 := Tryz.isAgg20
  z20 := Tryz.sizeOf20
  v20 := Tryz.zeroValue20
  t37 := Tryz.underlying22
  a37 := Tryz.isAgg22
  z37 := Tryz.sizeOf22
  v37 := Tryz.zeroValue22
  t75 := Tryz.underlying58
  a75 := Tryz.isAgg58
  z75 := Tryz.sizeOf58
  v75 := Tryz.zeroValue58
  t91 := Tryz.underlying127
  a91 := Tryz.isAgg127
  z91 := Tryz.sizeOf127
  v91 := Tryz.zeroValue127
  t93 := Tryz.underlying129
  a93 := Tryz.isAgg129
  z93 := Tryz.sizeOf129
  v93 := Tryz.zeroValue129
  t130 := Tryz.underlying154
  a130 := Tryz.isAgg154
  z130 := Tryz.sizeOf154
  v130 := Tryz.zeroValue154
  t131 := Tryz.underlying155
  a131 := Tryz.isAgg155
  z131 := Tryz.sizeOf155
  v131 := Tryz.zeroValue155
  g14 := by kernel_rfl
  t5 := Tryz.underlying5
  a5 := Tryz.isAgg5
  z5 := Tryz.sizeOf5
  v5 := Tryz.zeroValue5
  t9 := Tryz.underlying9
  a9 := Tryz.isAgg9
  z9 := Tryz.sizeOf9
  v9 := Tryz.zeroValue9
  t80 := Tryz.underlying114
  a80 := Tryz.isAgg114
  z80 := Tryz.sizeOf114
  v80 := Tryz.zeroValue114
  i0 := by kernel_rfl
  i3 := by kernel_rfl
  i4 := by kernel_rfl
  i5 := by kernel_rfl
  i9 := by kernel_rfl
  i20 := by kernel_rfl
  i37 := by kernel_rfl
  i75 := by kernel_rfl
  i80 := by kernel_rfl
  i91 := by kernel_rfl
  i93 := by kernel_rfl
  i130 := by kernel_rfl
  i131 := by kernel_rfl
  m14 := by kernel_rfl }
open Go.RowKit in
/-- (*bytes.Buffer).Write: "Write appends the contents of p to the buffer, growing the buffer as needed. The return value n is the length of p; err is always nil." (LAID: no walk: one application.) -/
theorem Tryz.Buffer_Write_any (B b : Nat) (bs cs : List Value) (a : Addr) (n c : Nat) (w : World) (h : Lib.IsBuffer 129 5 B b bs w) (hBw : B ≤ w.heap.size) (h1 : ∀ v ∈ bs, v.oneCell' = true) (hn : cs.length = n) (hab : a.block ≠ b) (hsrc : ∀ j v, cs[j]? = some v → w.cell? (a.add j) = some v) (h1c : ∀ v ∈ cs, v.oneCell' = true) (hlim : bs.length + n ≤ 140737488355328) :
    Calls Tryz.prog 106 #[.pointer (some ⟨b, 0, none⟩), .slice (some a) n c] w fun e w' => e = .returned (.tuple #[.int .i64 n, .nilIface]) ∧ Lib.IsBuffer 129 5 B b (bs ++ cs) w' ∧ Below B w w' ∧ Lib.OthersKept 5 (some b) w w' := Any.Buffer_Write_any Tryz.laysM180 B b bs cs a n c w h hBw h1 hn hab hsrc h1c hlim
def Tryz.lays206_ren : Go.Shelf.Ren := ⟨fun | 206 => 327 | n => n, fun | 9 => 9 | 4 => 4 | 3 => 3 | n => n, fun | n => n⟩
theorem Tryz.lays206 : Go.Proofs.Lays.n206 Tryz.prog Tryz.lays206_ren := {
  mixed := by kernel_rfl
  f206 := Tryz.func327.trans (congrArg some (by kernel_rfl))
  t3 := Tryz.underlying3
  a3 := Tryz.isAgg3
  z3 := Tryz.sizeOf3
  v3 := Tryz.zeroValue3
  t4 := Tryz.underlying4
  a4 := Tryz.isAgg4
  z4 := Tryz.sizeOf4
  v4 := Tryz.zeroValue4
  t9 := Tryz.underlying9
  a9 := Tryz.isAgg9
  z9 := Tryz.sizeOf9
  v9 := Tryz.zeroValue9 }
open Go.RowKit Go.Lib in
/-- internal/stringslite.HasPrefix (what strings.HasPrefix calls). (LAID: no walk: one application.) -/
theorem Tryz.stringslite_HasPrefix (s p : ByteArray) (w : World) :
    Calls Tryz.prog 327 #[.string s, .string p] w fun e w' => e = .returned (.bool (Lib.hasPrefix s.data.toList p.data.toList)) ∧ w' = w := Any.stringslite_HasPrefix Tryz.lays206 s p w
def Tryz.lays99_ren : Go.Shelf.Ren := ⟨fun | 99 => 266 | 206 => 327 | n => n, fun | 9 => 9 | 4 => 4 | 3 => 3 | n => n, fun | n => n⟩
theorem Tryz.lays99 : Go.Proofs.Lays.n99 Tryz.prog Tryz.lays99_ren := {
  mixed := by kernel_rfl
  f99 := Tryz.func266.trans (congrArg some (by kernel_rfl))
  f206 := Tryz.func327.trans (congrArg some (by kernel_rfl))
  t3 := Tryz.underlying3
  a3 := Tryz.isAgg3
  z3 := Tryz.sizeOf3
  v3 := Tryz.zeroValue3
  t4 := Tryz.underlying4
  a4 := Tryz.isAgg4
  z4 := Tryz.sizeOf4
  v4 := Tryz.zeroValue4
  t9 := Tryz.underlying9
  a9 := Tryz.isAgg9
  z9 := Tryz.sizeOf9
  v9 := Tryz.zeroValue9 }
open Go.RowKit Go.Lib in
/-- strings.HasPrefix: "HasPrefix reports whether the string s begins with prefix.": IT RETURNS 'Lib.hasPrefix s prefix'; the world is as it was. (LAID: no walk: one application.) -/
theorem Tryz.strings_HasPrefix (s p : ByteArray) (w : World) :
    Calls Tryz.prog 266 #[.string s, .string p] w fun e w' => e = .returned (.bool (Lib.hasPrefix s.data.toList p.data.toList)) ∧ w' = w := Any.strings_HasPrefix Tryz.lays99 s p w
def Tryz.lays207_ren : Go.Shelf.Ren := ⟨fun | 207 => 190 | n => n, fun | 9 => 9 | 4 => 4 | 3 => 3 | n => n, fun | n => n⟩
theorem Tryz.lays207 : Go.Proofs.Lays.n207 Tryz.prog Tryz.lays207_ren := {
  mixed := by kernel_rfl
  f207 := Tryz.func190.trans (congrArg some (by kernel_rfl))
  t3 := Tryz.underlying3
  a3 := Tryz.isAgg3
  z3 := Tryz.sizeOf3
  v3 := Tryz.zeroValue3
  t4 := Tryz.underlying4
  a4 := Tryz.isAgg4
  z4 := Tryz.sizeOf4
  v4 := Tryz.zeroValue4
  t9 := Tryz.underlying9
  a9 := Tryz.isAgg9
  z9 := Tryz.sizeOf9
  v9 := Tryz.zeroValue9 }
open Go.RowKit Go.Lib in
/-- internal/stringslite.HasSuffix (what strings.HasSuffix calls). (LAID: no walk: one application.) -/
theorem Tryz.stringslite_HasSuffix (s p : ByteArray) (w : World) (hs : s.size ≤ 9223372036854775807) :
    Calls Tryz.prog 190 #[.string s, .string p] w fun e w' => e = .returned (.bool (Lib.hasSuffix s.data.toList p.data.toList)) ∧ w' = w := Any.stringslite_HasSuffix Tryz.lays207 s p w hs
def Tryz.lays100_ren : Go.Shelf.Ren := ⟨fun | 100 => 157 | 207 => 190 | n => n, fun | 9 => 9 | 4 => 4 | 3 => 3 | n => n, fun | n => n⟩
theorem Tryz.lays100 : Go.Proofs.Lays.n100 Tryz.prog Tryz.lays100_ren := {
  mixed := by kernel_rfl
  f100 := Tryz.func157.trans (congrArg some (by kernel_rfl))
  f207 := Tryz.func190.trans (congrArg some (by kernel_rfl))
  t3 := Tryz.underlying3
  a3 := Tryz.isAgg3
  z3 := Tryz.sizeOf3
  v3 := Tryz.zeroValue3
  t4 := Tryz.underlying4
  a4 := Tryz.isAgg4
  z4 := Tryz.sizeOf4
  v4 := Tryz.zeroValue4
  t9 := Tryz.underlying9
  a9 := Tryz.isAgg9
  z9 := Tryz.sizeOf9
  v9 := Tryz.zeroValue9 }
open Go.RowKit Go.Lib in
/-- strings.HasSuffix: "HasSuffix reports whether the string s ends with suffix.": IT RETURNS 'Lib.hasSuffix s suffix'; the world is as it was. ('hs': no Go string is longer: a caller has it of every string that it was handed.) (LAID: no walk: one application.) -/
theorem Tryz.strings_HasSuffix (s p : ByteArray) (w : World) (hs : s.size ≤ 9223372036854775807) :
    Calls Tryz.prog 157 #[.string s, .string p] w fun e w' => e = .returned (.bool (Lib.hasSuffix s.data.toList p.data.toList)) ∧ w' = w := Any.strings_HasSuffix Tryz.lays100 s p w hs
def Tryz.lays264_ren : Go.Shelf.Ren := ⟨fun | 264 => 400 | n => n, fun | 53 => 67 | 46 => 151 | n => n, fun | n => n⟩
theorem Tryz.lays264 : Go.Proofs.Lays.n264 Tryz.prog Tryz.lays264_ren := {
  mixed := by kernel_rfl
  f264 := Tryz.func400.trans (congrArg some (by kernel_rfl))
  t46 := Tryz.underlying151
  a46 := Tryz.isAgg151
  z46 := Tryz.sizeOf151
  v46 := Tryz.zeroValue151
  t53 := Tryz.underlying67
  a53 := Tryz.isAgg67
  z53 := Tryz.sizeOf67
  v53 := Tryz.zeroValue67 }
open Go.RowKit Go.Lib in
theorem Tryz.bits_Mul64 (x y : Nat) (hx : x < 18446744073709551616) (hy : y < 18446744073709551616) (w : World) :
    Calls Tryz.prog 400 #[.int .u64 x, .int .u64 y] w fun e w' => e = .returned (.tuple #[.int .u64 ((x * y / 18446744073709551616 : Nat) : Int), .int .u64 ((x * y % 18446744073709551616 : Nat) : Int)]) ∧ w' = w := Any.bits_Mul64 Tryz.lays264 x y hx hy w
def Tryz.lays212_ren : Go.Shelf.Ren := ⟨fun | 212 => 390 | 263 => 399 | 264 => 400 | n => n, fun | 46 => 151 | 51 => 251 | 146 => 333 | 53 => 67 | 148 => 335 | n => n, fun | n => n⟩
theorem Tryz.lays212 : Go.Proofs.Lays.n212 Tryz.prog Tryz.lays212_ren := {
  mixed := by kernel_rfl
  f212 := Tryz.func390.trans (congrArg some (by kernel_rfl))
  f263 := Tryz.func399.trans (congrArg some (by kernel_rfl))
  f264 := Tryz.func400.trans (congrArg some (by kernel_rfl))
  t46 := Tryz.underlying151
  a46 := Tryz.isAgg151
  z46 := Tryz.sizeOf151
  v46 := Tryz.zeroValue151
  t51 := Tryz.underlying251
  a51 := Tryz.isAgg251
  z51 := Tryz.sizeOf251
  v51 := Tryz.zeroValue251
  t53 := Tryz.underlying67
  a53 := Tryz.isAgg67
  z53 := Tryz.sizeOf67
  v53 := Tryz.zeroValue67
  t146 := Tryz.underlying333
  a146 := Tryz.isAgg333
  z146 := Tryz.sizeOf333
  v146 := Tryz.zeroValue333
  t148 := Tryz.underlying335
  a148 := Tryz.isAgg335
  z148 := Tryz.sizeOf335
  v148 := Tryz.zeroValue335 }
open Go.RowKit Go.Lib in
/-- math/bits.Mul: "Mul returns the full-width product of x and y": on a machine of 64 bits: Mul64's. (LAID: no walk: one application.) -/
theorem Tryz.bits_Mul (x y : Nat) (hx : x < 18446744073709551616) (hy : y < 18446744073709551616) (w : World) :
    Calls Tryz.prog 390 #[.int .u64 x, .int .u64 y] w fun e w' => e = .returned (.tuple #[.int .u64 ((x * y / 18446744073709551616 : Nat) : Int), .int .u64 ((x * y % 18446744073709551616 : Nat) : Int)]) ∧ w' = w := Any.bits_Mul Tryz.lays212 x y hx hy w
def Tryz.lays260_ren : Go.Shelf.Ren := ⟨fun | 260 => 353 | n => n, fun | 9 => 9 | 21 => 21 | 3 => 3 | 4 => 4 | 5 => 5 | 119 => 264 | 0 => 0 | 46 => 151 | 139 => 316 | 138 => 315 | n => n, fun | 3 => 17 | 4 => 18 | n => n⟩
theorem Tryz.lays260 : Go.Proofs.Lays.n260 Tryz.prog Tryz.lays260_ren := {
  mixed := by kernel_rfl
  f260 := Tryz.func353.trans (congrArg some (by kernel_rfl))
  t0 := Tryz.underlying0
  a0 := Tryz.isAgg0
  z0 := Tryz.sizeOf0
  v0 := Tryz.zeroValue0
  t3 := Tryz.underlying3
  a3 := Tryz.isAgg3
  z3 := Tryz.sizeOf3
  v3 := Tryz.zeroValue3
  t4 := Tryz.underlying4
  a4 := Tryz.isAgg4
  z4 := Tryz.sizeOf4
  v4 := Tryz.zeroValue4
  t5 := Tryz.underlying5
  a5 := Tryz.isAgg5
  z5 := Tryz.sizeOf5
  v5 := Tryz.zeroValue5
  t9 := Tryz.underlying9
  a9 := Tryz.isAgg9
  z9 := Tryz.sizeOf9
  v9 := Tryz.zeroValue9
  t21 := Tryz.underlying21
  a21 := Tryz.isAgg21
  z21 := Tryz.sizeOf21
  v21 := Tryz.zeroValue21
  t46 := Tryz.underlying151
  a46 := Tryz.isAgg151
  z46 := Tryz.sizeOf151
  v46 := Tryz.zeroValue151
  t119 := Tryz.underlying264
  a119 := Tryz.isAgg264
  z119 := Tryz.sizeOf264
  t138 := Tryz.underlying315
  a138 := Tryz.isAgg315
  z138 := Tryz.sizeOf315
  v138 := Tryz.zeroValue315
  t139 := Tryz.underlying316
  a139 := Tryz.isAgg316
  z139 := Tryz.sizeOf316
  v139 := Tryz.zeroValue316
  g3 := by kernel_rfl
  g4 := by kernel_rfl }
open Go.RowKit Go.Lib in
theorem Tryz.utf8_decodeRuneInStringSlow (s : ByteArray) (w : World) (hT : Lib.Utf8Tabs 17 18 w) :
    Calls Tryz.prog 353 #[.string s] w fun e w' => e = .returned (.tuple #[.int .i32 (Lib.decodeGo s).1, .int .i64 (Lib.decodeGo s).2]) ∧ Below w.heap.size w w' := Any.utf8_decodeRuneInStringSlow Tryz.lays260 s w hT
def Tryz.laysnb115_ren : Go.Shelf.Ren := ⟨fun | 115 => 151 | n => n, fun | 37 => 22 | 4 => 4 | 9 => 9 | 5 => 5 | n => n, fun | n => n⟩
theorem Tryz.laysnb115 : Go.Proofs.Lays.nb115 Tryz.prog Tryz.laysnb115_ren := {
  mixed := by kernel_rfl
  f115 := Tryz.func151.trans (congrArg some (by kernel_rfl))
  t4 := Tryz.underlying4
  a4 := Tryz.isAgg4
  z4 := Tryz.sizeOf4
  v4 := Tryz.zeroValue4
  t9 := Tryz.underlying9
  a9 := Tryz.isAgg9
  z9 := Tryz.sizeOf9
  v9 := Tryz.zeroValue9
  t37 := Tryz.underlying22
  a37 := Tryz.isAgg22
  z37 := Tryz.sizeOf22
  v37 := Tryz.zeroValue22
  t5 := Tryz.underlying5
  a5 := Tryz.isAgg5
  z5 := Tryz.sizeOf5
  v5 := Tryz.zeroValue5 }
/-- bytes.Equal: WHOLE. (LAID: no walk: one application.) -/
theorem Tryz.bytes_Equal_all (p1 p2 : Option Addr) (n c m d : Nat) (xs ys : List Int) (w : World) (hx : xs.length = n) (hy : ys.length = m) (h1 : Lib.BytesIn w p1 n xs) (h2 : Lib.BytesIn w p2 m ys) :
    Calls Tryz.prog 151 #[.slice p1 n c, .slice p2 m d] w fun e w' => e = .returned (.bool (Lib.bytesOf xs == Lib.bytesOf ys)) ∧ w' = w := Any.bytes_Equal_all Tryz.laysnb115 p1 p2 n c m d xs ys w hx hy h1 h2
def Tryz.lays115_ren : Go.Shelf.Ren := ⟨fun | 115 => 151 | n => n, fun | 37 => 22 | 4 => 4 | 9 => 9 | 5 => 5 | n => n, fun | n => n⟩
theorem Tryz.lays115 : Go.Proofs.Lays.n115 Tryz.prog Tryz.lays115_ren := {
  mixed := by kernel_rfl
  f115 := Tryz.func151.trans (congrArg some (by kernel_rfl))
  t4 := Tryz.underlying4
  a4 := Tryz.isAgg4
  z4 := Tryz.sizeOf4
  v4 := Tryz.zeroValue4
  t9 := Tryz.underlying9
  a9 := Tryz.isAgg9
  z9 := Tryz.sizeOf9
  v9 := Tryz.zeroValue9
  t37 := Tryz.underlying22
  a37 := Tryz.isAgg22
  z37 := Tryz.sizeOf22
  v37 := Tryz.zeroValue22 }
/-- bytes.Equal: "Equal reports whether a and b are the same length and contain the same bytes. A nil argument is equivalent to an empty slice.": IT RETURNS 'the bytes of the one == the bytes of the other'; the world is as it was. THE TWO ARGUMENTS COME AS WHATEVER VALUES, each with the one fact that the walk wants of it: what 'string(..)' of it gives: for a slice whose cells you know: 'run_convert_bytes_arg' (Derived/Laws/BytesArg.lean) hands that fact; for a nil one: 'run_convert_bytes_nil' (with xs := []). (LAID: no walk: one application.) -/
theorem Tryz.bytes_Equal (v1 v2 : Value) (xs ys : List Int) (w : World) (h1 : (convert 22 9 v1).run Tryz.prog w = .ok (.string (strOfNums xs)) w) (h2 : (convert 22 9 v2).run Tryz.prog w = .ok (.string (strOfNums ys)) w) :
    Calls Tryz.prog 151 #[v1, v2] w fun e w' => e = .returned (.bool (Lib.bytesOf xs == Lib.bytesOf ys)) ∧ w' = w := Any.bytes_Equal Tryz.lays115 v1 v2 xs ys w h1 h2
end Go.Proofs
