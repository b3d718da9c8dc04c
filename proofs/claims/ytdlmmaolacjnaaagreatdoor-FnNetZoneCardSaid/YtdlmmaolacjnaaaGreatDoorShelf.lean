/-
  DERIVED: THE SHELF's CONTRACTS AT THIS DUMP, IN PLAIN WORDS (tools/lay-plain.mjs out of 'TryzShelf.lean', which tools/lay-shelf.mjs wrote): THE SAME DECLARATIONS UNDER THE SAME NAMES: 'import', 'namespace', 'open', 'def', 'theorem' AND NOTHING ELSE: no command of the shelf's: FOR A HAND-IN. Each laying: the table of numbers ('.._ren') and one theorem, a field a fact of the dump's own or the kernel's comparison; each contract: ONE APPLICATION.
-/
import Derived.Shelf.Small.Utf8
import Derived.Shelf.Strconv.Itoa0
import Derived.Shelf.Strconv.Itoa1
import Derived.Shelf.LaysM
import Derived.Shelf.Strconv.Itoa2
import Derived.Shelf.Strconv.Itoa3
import Derived.Ground.MnProg
import Derived.Shelf.Bin.PutUvarint
import Derived.Shelf.Bits.Mul64
import Derived.Shelf.Unicode.DecodeSlow
import Derived.Shelf.Bytes.SlIndexAt
import Derived.Shelf.Bytes.SlSearch0
import Derived.Shelf.Bytes.SlEqualAll
import Derived.Shelf.Bytes.Small
import Derived.Shelf.Bytes.IndexByte
import Derived.Test.YtdlmmaolacjnaaaGreatDoorProg
namespace Go.Proofs
open Go.Shelf
def Tryz.lays118_ren : Go.Shelf.Ren := ⟨fun | 118 => 327 | n => n, fun | 21 => 21 | 3 => 3 | 4 => 4 | n => n, fun | n => n⟩
theorem Tryz.lays118 : Go.Proofs.Lays.n118 Tryz.prog Tryz.lays118_ren := {
  mixed := by kernel_rfl
  f118 := Tryz.func327.trans (congrArg some (by kernel_rfl))
  t3 := Tryz.underlying3
  a3 := Tryz.isAgg3
  z3 := Tryz.sizeOf3
  v3 := Tryz.zeroValue3
  t4 := Tryz.underlying4
  a4 := Tryz.isAgg4
  z4 := Tryz.sizeOf4
  v4 := Tryz.zeroValue4
  t21 := Tryz.underlying21
  a21 := Tryz.isAgg21
  z21 := Tryz.sizeOf21
  v21 := Tryz.zeroValue21 }
/-- utf8.RuneLen: "RuneLen returns the number of bytes in the UTF-8 encoding of the rune. It returns -1 if the rune is not a valid value to encode in UTF-8.": IT RETURNS 'Lib.runeLen r'; the world is as it was. (LAID: no walk: one application.) -/
theorem Tryz.utf8_RuneLen (r : Int) (w : World) :
    Calls Tryz.prog 327 #[.int .i32 r] w fun e w' => e = .returned (.int .i64 (Lib.runeLen r)) ∧ w' = w := Any.utf8_RuneLen Tryz.lays118 r w
def Tryz.lays129_ren : Go.Shelf.Ren := ⟨fun | 129 => 127 | n => n, fun | 53 => 100 | 3 => 3 | 4 => 4 | 46 => 92 | 5 => 5 | 9 => 9 | n => n, fun | n => n⟩
theorem Tryz.lays129 : Go.Proofs.Lays.n129 Tryz.prog Tryz.lays129_ren := {
  mixed := by kernel_rfl
  f129 := Tryz.func127.trans (congrArg some (by kernel_rfl))
  t3 := Tryz.underlying3
  a3 := Tryz.isAgg3
  z3 := Tryz.sizeOf3
  v3 := Tryz.zeroValue3
  t4 := Tryz.underlying4
  a4 := Tryz.isAgg4
  z4 := Tryz.sizeOf4
  v4 := Tryz.zeroValue4
  t5 := Tryz.underlying5
  a5 := Tryz.isAgg5
  z5 := Tryz.sizeOf5
  v5 := Tryz.zeroValue5
  t9 := Tryz.underlying9
  a9 := Tryz.isAgg9
  z9 := Tryz.sizeOf9
  v9 := Tryz.zeroValue9
  t46 := Tryz.underlying92
  a46 := Tryz.isAgg92
  z46 := Tryz.sizeOf92
  v46 := Tryz.zeroValue92
  t53 := Tryz.underlying100
  a53 := Tryz.isAgg100
  z53 := Tryz.sizeOf100
  v53 := Tryz.zeroValue100 }
/-- bits.Len64: "Len64 returns the minimum number of bits required to represent x; the result is 0 for x == 0.": IT RETURNS 'Lib.bitLen x'; the world is as it was. ('h0', 'h1': x is a uint64.) (LAID: no walk: one application.) -/
theorem Tryz.bits_Len64 (x : Int) (w : World) (h0 : 0 ≤ x) (h1 : x ≤ 18446744073709551615) :
    Calls Tryz.prog 127 #[.int .u64 x] w fun e w' => e = .returned (.int .i64 (Lib.bitLen x.toNat)) ∧ w' = w := Any.bits_Len64 Tryz.lays129 x w h0 h1
def Tryz.lays317_ren : Go.Shelf.Ren := ⟨fun | 317 => 195 | n => n, fun | 3 => 3 | 46 => 92 | n => n, fun | n => n⟩
theorem Tryz.lays317 : Go.Proofs.Lays.n317 Tryz.prog Tryz.lays317_ren := {
  mixed := by kernel_rfl
  f317 := Tryz.func195.trans (congrArg some (by kernel_rfl))
  t3 := Tryz.underlying3
  a3 := Tryz.isAgg3
  z3 := Tryz.sizeOf3
  v3 := Tryz.zeroValue3
  t46 := Tryz.underlying92
  a46 := Tryz.isAgg92
  z46 := Tryz.sizeOf92
  v46 := Tryz.zeroValue92 }
open Go.Lib in
/-- internal/strconv.log10Pow2: "log10Pow2(x) returns ⌊log₁₀ 2**x⌋ = ⌊x * log₁₀ 2⌋.": '(x * 78913) >> 18', at an x up to 64 (a length in bits). The world is as it was. (LAID: no walk: one application.) -/
theorem Tryz.internal_strconv_log10Pow2 (x : Nat) (h : x ≤ 64) (w : World) :
    Calls Tryz.prog 195 #[.int .i64 x] w fun e w' => e = .returned (.int .i64 (Lib.l10 x)) ∧ w' = w := Any.internal_strconv_log10Pow2 Tryz.lays317 x h w
def Tryz.lays318_ren : Go.Shelf.Ren := ⟨fun | 318 => 196 | n => n, fun | 3 => 3 | 4 => 4 | n => n, fun | n => n⟩
theorem Tryz.lays318 : Go.Proofs.Lays.n318 Tryz.prog Tryz.lays318_ren := {
  mixed := by kernel_rfl
  f318 := Tryz.func196.trans (congrArg some (by kernel_rfl))
  t3 := Tryz.underlying3
  a3 := Tryz.isAgg3
  z3 := Tryz.sizeOf3
  v3 := Tryz.zeroValue3
  t4 := Tryz.underlying4
  a4 := Tryz.isAgg4
  z4 := Tryz.sizeOf4
  v4 := Tryz.zeroValue4 }
open Go.Lib in
/-- internal/strconv.bool2: "bool2 converts b to an integer: 1 for true, 0 for false." The world is as it was. (LAID: no walk: one application.) -/
theorem Tryz.internal_strconv_bool2_int (b : Bool) (w : World) :
    Calls Tryz.prog 196 #[.bool b] w fun e w' => e = .returned (.int .i64 (if b then 1 else 0)) ∧ w' = w := Any.internal_strconv_bool2_int Tryz.lays318 b w
def Tryz.lays283_ren : Go.Shelf.Ren := ⟨fun | 283 => 148 | n => n, fun | 3 => 3 | 9 => 9 | 4 => 4 | n => n, fun | n => n⟩
theorem Tryz.lays283 : Go.Proofs.Lays.n283 Tryz.prog Tryz.lays283_ren := {
  mixed := by kernel_rfl
  f283 := Tryz.func148.trans (congrArg some (by kernel_rfl))
  t3 := Tryz.underlying3
  a3 := Tryz.isAgg3
  z3 := Tryz.sizeOf3
  v3 := Tryz.zeroValue3
  t4 := Tryz.underlying4
  a4 := Tryz.isAgg4
  z4 := Tryz.sizeOf4
  v4 := Tryz.zeroValue4
  t9 := Tryz.underlying9
  a9 := Tryz.isAgg9
  z9 := Tryz.sizeOf9
  v9 := Tryz.zeroValue9 }
open Go.Lib in
/-- internal/strconv.small: "small returns the string for an i with 0 <= i < nSmalls.": i's decimal numeral. The world is as it was. (LAID: no walk: one application.) -/
theorem Tryz.internal_strconv_small (i : Nat) (h : i < 100) (w : World) :
    Calls Tryz.prog 148 #[.int .i64 i] w fun e w' => e = .returned (.string ⟨(Lib.decDigits i).toArray⟩) ∧ w' = w := Any.internal_strconv_small Tryz.lays283 i h w
def Tryz.laysM284_ren : Go.Shelf.Ren := ⟨fun | 284 => 149 | 129 => 127 | 317 => 195 | 318 => 196 | n => n, fun | 53 => 100 | 3 => 3 | 212 => 136 | 0 => 0 | 4 => 4 | 46 => 92 | 5 => 5 | 9 => 9 | n => n, fun | 17 => 8 | n => n⟩
theorem Tryz.laysM284 : Go.Proofs.LaysM.n284 Tryz.prog Tryz.laysM284_ren := {
  mixed := by kernel_rfl
  f129 := Tryz.func127.trans (congrArg some (by kernel_rfl))
  f284 := Tryz.func149.trans (congrArg some (by kernel_rfl))
  f317 := Tryz.func195.trans (congrArg some (by kernel_rfl))
  f318 := Tryz.func196.trans (congrArg some (by kernel_rfl))
  t0 := Tryz.underlying0
  a0 := Tryz.isAgg0
  z0 := Tryz.sizeOf0
  v0 := Tryz.zeroValue0
  t3 := Tryz.underlying3
  a3 := Tryz.isAgg3
  z3 := Tryz.sizeOf3
  v3 := Tryz.zeroValue3
  t4 := Tryz.underlying4
  a4 := Tryz.isAgg4
  z4 := Tryz.sizeOf4
  v4 := Tryz.zeroValue4
  t5 := Tryz.underlying5
  a5 := Tryz.isAgg5
  z5 := Tryz.sizeOf5
  v5 := Tryz.zeroValue5
  t9 := Tryz.underlying9
  a9 := Tryz.isAgg9
  z9 := Tryz.sizeOf9
  v9 := Tryz.zeroValue9
  t46 := Tryz.underlying92
  a46 := Tryz.isAgg92
  z46 := Tryz.sizeOf92
  v46 := Tryz.zeroValue92
  t53 := Tryz.underlying100
  a53 := Tryz.isAgg100
  z53 := Tryz.sizeOf100
  v53 := Tryz.zeroValue100
  t212 := Tryz.underlying136
  a212 := Tryz.isAgg136
  z212 := Tryz.sizeOf136
  v212 := Tryz.zeroValue136
  g17 := by kernel_rfl
  i0 := by kernel_rfl
  i3 := by kernel_rfl
  i4 := by kernel_rfl
  i5 := by kernel_rfl
  i9 := by kernel_rfl
  i46 := by kernel_rfl
  i53 := by kernel_rfl
  i212 := by kernel_rfl
  m17 := by kernel_rfl }
open Go.Lib in
/-- internal/strconv.numDigits, at a d that is not 0: THE NUMBER OF d's DECIMAL DIGITS. The world is as it was. (LAID: no walk: one application.) -/
theorem Tryz.internal_strconv_numDigits (u : Nat) (h1 : 1 ≤ u) (h2 : u < 18446744073709551616) (w : World) (htab : Lib.TabIs Tryz.prog w "internal/strconv.uint64pow10" .u64 Lib.pow10Tab) :
    Calls Tryz.prog 149 #[.int .u64 u] w fun e w' => e = .returned (.int .i64 (Lib.nDigits u)) ∧ w' = w := Any.internal_strconv_numDigits Tryz.laysM284 u h1 h2 w htab
def Tryz.lays285_ren : Go.Shelf.Ren := ⟨fun | 285 => 150 | n => n, fun | 37 => 22 | 53 => 100 | 3 => 3 | 4 => 4 | 51 => 137 | 9 => 9 | 5 => 5 | 0 => 0 | n => n, fun | n => n⟩
theorem Tryz.lays285 : Go.Proofs.Lays.n285 Tryz.prog Tryz.lays285_ren := {
  mixed := by kernel_rfl
  f285 := Tryz.func150.trans (congrArg some (by kernel_rfl))
  t0 := Tryz.underlying0
  a0 := Tryz.isAgg0
  z0 := Tryz.sizeOf0
  v0 := Tryz.zeroValue0
  t3 := Tryz.underlying3
  a3 := Tryz.isAgg3
  z3 := Tryz.sizeOf3
  v3 := Tryz.zeroValue3
  t4 := Tryz.underlying4
  a4 := Tryz.isAgg4
  z4 := Tryz.sizeOf4
  v4 := Tryz.zeroValue4
  t5 := Tryz.underlying5
  a5 := Tryz.isAgg5
  z5 := Tryz.sizeOf5
  v5 := Tryz.zeroValue5
  t9 := Tryz.underlying9
  a9 := Tryz.isAgg9
  z9 := Tryz.sizeOf9
  v9 := Tryz.zeroValue9
  t37 := Tryz.underlying22
  a37 := Tryz.isAgg22
  z37 := Tryz.sizeOf22
  v37 := Tryz.zeroValue22
  t51 := Tryz.underlying137
  a51 := Tryz.isAgg137
  z51 := Tryz.sizeOf137
  v51 := Tryz.zeroValue137
  t53 := Tryz.underlying100
  a53 := Tryz.isAgg100
  z53 := Tryz.sizeOf100
  v53 := Tryz.zeroValue100 }
open Go.RowKit Go.Sort Go.Lib in
/-- internal/strconv.formatBase10: "formatBase10 formats the decimal representation of u into a. The caller is responsible for ensuring that a is big enough to hold u. If a is too big, leading zeros will be filled in as needed.": THE ROW HOLDS u's DIGITS ('FmtInv .. 0 ..': every place t holds 'dg u (len - 1 - t)'); all else is as it was but for the count of draws. (LAID: no walk: one application.) -/
theorem Tryz.internal_strconv_formatBase10 (blk off cap : Nat) (u : Nat) (d : Array UInt8) (w : World) (hH : Holds (fun (b : UInt8) => Value.int .u8 (b.toNat : Int)) w blk off d) (hu : u < 10 ^ d.size) (hu64 : u < 18446744073709551616) (hsz : d.size < 4611686018427387904) :
    Calls Tryz.prog 150 #[.slice (some ⟨blk, off, none⟩) d.size cap, .int .u64 u] w fun e w' =>
      e = .returned (.tuple #[]) ∧ ∃ (n v' : Nat) (dk : Array UInt8), w' = (putRow (fun (b : UInt8) => Value.int .u8 (b.toNat : Int)) w blk off dk).drewN n ∧ FmtInv d.size u 0 v' dk := Any.internal_strconv_formatBase10 Tryz.lays285 blk off cap u d w hH hu hu64 hsz
def Tryz.laysM246_ren : Go.Shelf.Ren := ⟨fun | 246 => 130 | 283 => 148 | 284 => 149 | 285 => 150 | 286 => 151 | 129 => 127 | 317 => 195 | 318 => 196 | 319 => 197 | 320 => 198 | 337 => 231 | 338 => 232 | n => n, fun | 2 => 2 | 3 => 3 | 9 => 9 | 4 => 4 | 171 => 130 | 0 => 0 | 53 => 100 | 37 => 22 | 5 => 5 | 173 => 132 | 212 => 136 | 51 => 137 | 20 => 20 | 213 => 138 | 46 => 92 | 232 => 215 | 233 => 216 | n => n, fun | 17 => 8 | 18 => 13 | 19 => 14 | n => n⟩
theorem Tryz.laysM246 : Go.Proofs.LaysM.n246 Tryz.prog Tryz.laysM246_ren := {
  mixed := by kernel_rfl
  f129 := Tryz.func127.trans (congrArg some (by kernel_rfl))
  f246 := Tryz.func130.trans (congrArg some (by kernel_rfl))
  f283 := Tryz.func148.trans (congrArg some (by kernel_rfl))
  f284 := Tryz.func149.trans (congrArg some (by kernel_rfl))
  f285 := Tryz.func150.trans (congrArg some (by kernel_rfl))
  f286 := Tryz.func151.trans (congrArg some (by kernel_rfl))
  f317 := Tryz.func195.trans (congrArg some (by kernel_rfl))
  f318 := Tryz.func196.trans (congrArg some (by kernel_rfl))
  f319 := Tryz.func197.trans (congrArg some (by kernel_rfl))
  f320 := Tryz.func198.trans (congrArg some (by kernel_rfl))
  f337 := Tryz.func231.trans (congrArg some (by kernel_rfl))
  f338 := Tryz.func232.trans (congrArg some (by kernel_rfl))
  t0 := Tryz.underlying0
  a0 := Tryz.isAgg0
  z0 := Tryz.sizeOf0
  v0 := Tryz.zeroValue0
  t2 := Tryz.underlying2
  a2 := Tryz.isAgg2
  z2 := Tryz.sizeOf2
  v2 := Tryz.zeroValue2
  t3 := Tryz.underlying3
  a3 := Tryz.isAgg3
  z3 := Tryz.sizeOf3
  v3 := Tryz.zeroValue3
  t4 := Tryz.underlying4
  a4 := Tryz.isAgg4
  z4 := Tryz.sizeOf4
  v4 := Tryz.zeroValue4
  t5 := Tryz.underlying5
  a5 := Tryz.isAgg5
  z5 := Tryz.sizeOf5
  v5 := Tryz.zeroValue5
  t9 := Tryz.underlying9
  a9 := Tryz.isAgg9
  z9 := Tryz.sizeOf9
  v9 := Tryz.zeroValue9
  t20 := Tryz.underlying20
  a20 := Tryz.isAgg20
  z20 := Tryz.sizeOf20
  v20 := Tryz.zeroValue20
  t37 := Tryz.underlying22
  a37 := Tryz.isAgg22
  z37 := Tryz.sizeOf22
  v37 := Tryz.zeroValue22
  t46 := Tryz.underlying92
  a46 := Tryz.isAgg92
  z46 := Tryz.sizeOf92
  v46 := Tryz.zeroValue92
  t51 := Tryz.underlying137
  a51 := Tryz.isAgg137
  z51 := Tryz.sizeOf137
  v51 := Tryz.zeroValue137
  t53 := Tryz.underlying100
  a53 := Tryz.isAgg100
  z53 := Tryz.sizeOf100
  v53 := Tryz.zeroValue100
  t171 := Tryz.underlying130
  a171 := Tryz.isAgg130
  z171 := Tryz.sizeOf130
  v171 := Tryz.zeroValue130
  t173 := Tryz.underlying132
  a173 := Tryz.isAgg132
  z173 := Tryz.sizeOf132
  v173 := Tryz.zeroValue132
  t212 := Tryz.underlying136
  a212 := Tryz.isAgg136
  z212 := Tryz.sizeOf136
  v212 := Tryz.zeroValue136
  t213 := Tryz.underlying138
  a213 := Tryz.isAgg138
  z213 := Tryz.sizeOf138
  t232 := Tryz.underlying215
  a232 := Tryz.isAgg215
  z232 := Tryz.sizeOf215
  v232 := Tryz.zeroValue215
  t233 := Tryz.underlying216
  a233 := Tryz.isAgg216
  z233 := Tryz.sizeOf216
  v233 := Tryz.zeroValue216
  g17 := by kernel_rfl
  g18 := by kernel_rfl
  g19 := by kernel_rfl
  i0 := by kernel_rfl
  i2 := by kernel_rfl
  i3 := by kernel_rfl
  i4 := by kernel_rfl
  i5 := by kernel_rfl
  i9 := by kernel_rfl
  i20 := by kernel_rfl
  i37 := by kernel_rfl
  i46 := by kernel_rfl
  i51 := by kernel_rfl
  i53 := by kernel_rfl
  i171 := by kernel_rfl
  i173 := by kernel_rfl
  i212 := by kernel_rfl
  i232 := by kernel_rfl
  i233 := by kernel_rfl
  m17 := by kernel_rfl
  m18 := by kernel_rfl
  m19 := by kernel_rfl }
open Go.RowKit Go.Sort Go.Lib in
/-- internal/strconv.FormatInt: "FormatInt returns the string representation of i in the given base": AT BASE 10: i's decimal numeral, for every int64. The world behind the call: the world before it, new blocks behind the heap, draws. (LAID: no walk: one application.) -/
theorem Tryz.internal_strconv_FormatInt_10 (n : Int) (h0 : -9223372036854775808 ≤ n) (h1 : n ≤ 9223372036854775807) (w : World) (htab : Lib.TabIs Tryz.prog w "internal/strconv.uint64pow10" .u64 Lib.pow10Tab) :
    Calls Tryz.prog 130 #[.int .i64 n, .int .i64 10] w fun e w' => e = .returned (.string ⟨(Lib.itoa n).toArray⟩) ∧ ∃ k os, w' = grow (w.drewN k) os := Any.internal_strconv_FormatInt_10 Tryz.laysM246 n h0 h1 w htab
def Tryz.lays246_ren : Go.Shelf.Ren := ⟨fun | 246 => 130 | 283 => 148 | 284 => 149 | 285 => 150 | 286 => 151 | 129 => 127 | 317 => 195 | 318 => 196 | 319 => 197 | 320 => 198 | 337 => 231 | 338 => 232 | n => n, fun | 2 => 2 | 3 => 3 | 9 => 9 | 4 => 4 | 171 => 130 | 0 => 0 | 53 => 100 | 37 => 22 | 5 => 5 | 173 => 132 | 212 => 136 | 51 => 137 | 20 => 20 | 213 => 138 | 46 => 92 | 232 => 215 | 233 => 216 | n => n, fun | 17 => 8 | 18 => 13 | 19 => 14 | n => n⟩
theorem Tryz.lays246 : Go.Proofs.Lays.n246 Tryz.prog Tryz.lays246_ren := {
  mixed := by kernel_rfl
  f129 := Tryz.func127.trans (congrArg some (by kernel_rfl))
  f246 := Tryz.func130.trans (congrArg some (by kernel_rfl))
  f283 := Tryz.func148.trans (congrArg some (by kernel_rfl))
  f284 := Tryz.func149.trans (congrArg some (by kernel_rfl))
  f285 := Tryz.func150.trans (congrArg some (by kernel_rfl))
  f286 := Tryz.func151.trans (congrArg some (by kernel_rfl))
  f317 := Tryz.func195.trans (congrArg some (by kernel_rfl))
  f318 := Tryz.func196.trans (congrArg some (by kernel_rfl))
  f319 := Tryz.func197.trans (congrArg some (by kernel_rfl))
  f320 := Tryz.func198.trans (congrArg some (by kernel_rfl))
  f337 := Tryz.func231.trans (congrArg some (by kernel_rfl))
  f338 := Tryz.func232.trans (congrArg some (by kernel_rfl))
  t0 := Tryz.underlying0
  a0 := Tryz.isAgg0
  z0 := Tryz.sizeOf0
  v0 := Tryz.zeroValue0
  t2 := Tryz.underlying2
  a2 := Tryz.isAgg2
  z2 := Tryz.sizeOf2
  v2 := Tryz.zeroValue2
  t3 := Tryz.underlying3
  a3 := Tryz.isAgg3
  z3 := Tryz.sizeOf3
  v3 := Tryz.zeroValue3
  t4 := Tryz.underlying4
  a4 := Tryz.isAgg4
  z4 := Tryz.sizeOf4
  v4 := Tryz.zeroValue4
  t5 := Tryz.underlying5
  a5 := Tryz.isAgg5
  z5 := Tryz.sizeOf5
  v5 := Tryz.zeroValue5
  t9 := Tryz.underlying9
  a9 := Tryz.isAgg9
  z9 := Tryz.sizeOf9
  v9 := Tryz.zeroValue9
  t20 := Tryz.underlying20
  a20 := Tryz.isAgg20
  z20 := Tryz.sizeOf20
  v20 := Tryz.zeroValue20
  t37 := Tryz.underlying22
  a37 := Tryz.isAgg22
  z37 := Tryz.sizeOf22
  v37 := Tryz.zeroValue22
  t46 := Tryz.underlying92
  a46 := Tryz.isAgg92
  z46 := Tryz.sizeOf92
  v46 := Tryz.zeroValue92
  t51 := Tryz.underlying137
  a51 := Tryz.isAgg137
  z51 := Tryz.sizeOf137
  v51 := Tryz.zeroValue137
  t53 := Tryz.underlying100
  a53 := Tryz.isAgg100
  z53 := Tryz.sizeOf100
  v53 := Tryz.zeroValue100
  t171 := Tryz.underlying130
  a171 := Tryz.isAgg130
  z171 := Tryz.sizeOf130
  v171 := Tryz.zeroValue130
  t173 := Tryz.underlying132
  a173 := Tryz.isAgg132
  z173 := Tryz.sizeOf132
  v173 := Tryz.zeroValue132
  t212 := Tryz.underlying136
  a212 := Tryz.isAgg136
  z212 := Tryz.sizeOf136
  v212 := Tryz.zeroValue136
  t213 := Tryz.underlying138
  a213 := Tryz.isAgg138
  z213 := Tryz.sizeOf138
  t232 := Tryz.underlying215
  a232 := Tryz.isAgg215
  z232 := Tryz.sizeOf215
  v232 := Tryz.zeroValue215
  t233 := Tryz.underlying216
  a233 := Tryz.isAgg216
  z233 := Tryz.sizeOf216
  v233 := Tryz.zeroValue216
  g17 := by kernel_rfl
  g18 := by kernel_rfl
  g19 := by kernel_rfl }
open Go.RowKit Go.Sort Go.Lib in
/-- THE ROAD WITHOUT THE TABLE: 0 <= i < 100: two constants are read, nothing is laid: no premise on the world, and the world is as it was. (LAID: no walk: one application.) -/
theorem Tryz.internal_strconv_FormatInt_10_small (i : Nat) (hi : i < 100) (w : World) :
    Calls Tryz.prog 130 #[.int .i64 i, .int .i64 10] w fun e w' => e = .returned (.string ⟨(Lib.decDigits i).toArray⟩) ∧ w' = w := Any.internal_strconv_FormatInt_10_small Tryz.lays246 i hi w
def Tryz.laysM243_ren : Go.Shelf.Ren := ⟨fun | 243 => 82 | 246 => 130 | 283 => 148 | 284 => 149 | 285 => 150 | 286 => 151 | 129 => 127 | 317 => 195 | 318 => 196 | 319 => 197 | 320 => 198 | 337 => 231 | 338 => 232 | n => n, fun | 3 => 3 | 9 => 9 | 2 => 2 | 4 => 4 | 171 => 130 | 0 => 0 | 53 => 100 | 37 => 22 | 5 => 5 | 173 => 132 | 212 => 136 | 51 => 137 | 20 => 20 | 213 => 138 | 46 => 92 | 232 => 215 | 233 => 216 | n => n, fun | 17 => 8 | 18 => 13 | 19 => 14 | n => n⟩
theorem Tryz.laysM243 : Go.Proofs.LaysM.n243 Tryz.prog Tryz.laysM243_ren := {
  mixed := by kernel_rfl
  f129 := Tryz.func127.trans (congrArg some (by kernel_rfl))
  f243 := Tryz.func82.trans (congrArg some (by kernel_rfl))
  f246 := Tryz.func130.trans (congrArg some (by kernel_rfl))
  f283 := Tryz.func148.trans (congrArg some (by kernel_rfl))
  f284 := Tryz.func149.trans (congrArg some (by kernel_rfl))
  f285 := Tryz.func150.trans (congrArg some (by kernel_rfl))
  f286 := Tryz.func151.trans (congrArg some (by kernel_rfl))
  f317 := Tryz.func195.trans (congrArg some (by kernel_rfl))
  f318 := Tryz.func196.trans (congrArg some (by kernel_rfl))
  f319 := Tryz.func197.trans (congrArg some (by kernel_rfl))
  f320 := Tryz.func198.trans (congrArg some (by kernel_rfl))
  f337 := Tryz.func231.trans (congrArg some (by kernel_rfl))
  f338 := Tryz.func232.trans (congrArg some (by kernel_rfl))
  t0 := Tryz.underlying0
  a0 := Tryz.isAgg0
  z0 := Tryz.sizeOf0
  v0 := Tryz.zeroValue0
  t2 := Tryz.underlying2
  a2 := Tryz.isAgg2
  z2 := Tryz.sizeOf2
  v2 := Tryz.zeroValue2
  t3 := Tryz.underlying3
  a3 := Tryz.isAgg3
  z3 := Tryz.sizeOf3
  v3 := Tryz.zeroValue3
  t4 := Tryz.underlying4
  a4 := Tryz.isAgg4
  z4 := Tryz.sizeOf4
  v4 := Tryz.zeroValue4
  t5 := Tryz.underlying5
  a5 := Tryz.isAgg5
  z5 := Tryz.sizeOf5
  v5 := Tryz.zeroValue5
  t9 := Tryz.underlying9
  a9 := Tryz.isAgg9
  z9 := Tryz.sizeOf9
  v9 := Tryz.zeroValue9
  t20 := Tryz.underlying20
  a20 := Tryz.isAgg20
  z20 := Tryz.sizeOf20
  v20 := Tryz.zeroValue20
  t37 := Tryz.underlying22
  a37 := Tryz.isAgg22
  z37 := Tryz.sizeOf22
  v37 := Tryz.zeroValue22
  t46 := Tryz.underlying92
  a46 := Tryz.isAgg92
  z46 := Tryz.sizeOf92
  v46 := Tryz.zeroValue92
  t51 := Tryz.underlying137
  a51 := Tryz.isAgg137
  z51 := Tryz.sizeOf137
  v51 := Tryz.zeroValue137
  t53 := Tryz.underlying100
  a53 := Tryz.isAgg100
  z53 := Tryz.sizeOf100
  v53 := Tryz.zeroValue100
  t171 := Tryz.underlying130
  a171 := Tryz.isAgg130
  z171 := Tryz.sizeOf130
  v171 := Tryz.zeroValue130
  t173 := Tryz.underlying132
  a173 := Tryz.isAgg132
  z173 := Tryz.sizeOf132
  v173 := Tryz.zeroValue132
  t212 := Tryz.underlying136
  a212 := Tryz.isAgg136
  z212 := Tryz.sizeOf136
  v212 := Tryz.zeroValue136
  t213 := Tryz.underlying138
  a213 := Tryz.isAgg138
  z213 := Tryz.sizeOf138
  t232 := Tryz.underlying215
  a232 := Tryz.isAgg215
  z232 := Tryz.sizeOf215
  v232 := Tryz.zeroValue215
  t233 := Tryz.underlying216
  a233 := Tryz.isAgg216
  z233 := Tryz.sizeOf216
  v233 := Tryz.zeroValue216
  g17 := by kernel_rfl
  g18 := by kernel_rfl
  g19 := by kernel_rfl
  i0 := by kernel_rfl
  i2 := by kernel_rfl
  i3 := by kernel_rfl
  i4 := by kernel_rfl
  i5 := by kernel_rfl
  i9 := by kernel_rfl
  i20 := by kernel_rfl
  i37 := by kernel_rfl
  i46 := by kernel_rfl
  i51 := by kernel_rfl
  i53 := by kernel_rfl
  i171 := by kernel_rfl
  i173 := by kernel_rfl
  i212 := by kernel_rfl
  i232 := by kernel_rfl
  i233 := by kernel_rfl
  m17 := by kernel_rfl
  m18 := by kernel_rfl
  m19 := by kernel_rfl }
open Go.RowKit Go.Sort Go.Lib in
/-- internal/strconv.Itoa: "Itoa is equivalent to FormatInt(int64(i), 10).": i's decimal numeral, for every int. (LAID: no walk: one application.) -/
theorem Tryz.internal_strconv_Itoa (n : Int) (h0 : -9223372036854775808 ≤ n) (h1 : n ≤ 9223372036854775807) (w : World) (htab : Lib.TabIs Tryz.prog w "internal/strconv.uint64pow10" .u64 Lib.pow10Tab) :
    Calls Tryz.prog 82 #[.int .i64 n] w fun e w' => e = .returned (.string ⟨(Lib.itoa n).toArray⟩) ∧ ∃ k os, w' = grow (w.drewN k) os := Any.internal_strconv_Itoa Tryz.laysM243 n h0 h1 w htab
def Tryz.lays243_ren : Go.Shelf.Ren := ⟨fun | 243 => 82 | 246 => 130 | 283 => 148 | 284 => 149 | 285 => 150 | 286 => 151 | 129 => 127 | 317 => 195 | 318 => 196 | 319 => 197 | 320 => 198 | 337 => 231 | 338 => 232 | n => n, fun | 3 => 3 | 9 => 9 | 2 => 2 | 4 => 4 | 171 => 130 | 0 => 0 | 53 => 100 | 37 => 22 | 5 => 5 | 173 => 132 | 212 => 136 | 51 => 137 | 20 => 20 | 213 => 138 | 46 => 92 | 232 => 215 | 233 => 216 | n => n, fun | 17 => 8 | 18 => 13 | 19 => 14 | n => n⟩
theorem Tryz.lays243 : Go.Proofs.Lays.n243 Tryz.prog Tryz.lays243_ren := {
  mixed := by kernel_rfl
  f129 := Tryz.func127.trans (congrArg some (by kernel_rfl))
  f243 := Tryz.func82.trans (congrArg some (by kernel_rfl))
  f246 := Tryz.func130.trans (congrArg some (by kernel_rfl))
  f283 := Tryz.func148.trans (congrArg some (by kernel_rfl))
  f284 := Tryz.func149.trans (congrArg some (by kernel_rfl))
  f285 := Tryz.func150.trans (congrArg some (by kernel_rfl))
  f286 := Tryz.func151.trans (congrArg some (by kernel_rfl))
  f317 := Tryz.func195.trans (congrArg some (by kernel_rfl))
  f318 := Tryz.func196.trans (congrArg some (by kernel_rfl))
  f319 := Tryz.func197.trans (congrArg some (by kernel_rfl))
  f320 := Tryz.func198.trans (congrArg some (by kernel_rfl))
  f337 := Tryz.func231.trans (congrArg some (by kernel_rfl))
  f338 := Tryz.func232.trans (congrArg some (by kernel_rfl))
  t0 := Tryz.underlying0
  a0 := Tryz.isAgg0
  z0 := Tryz.sizeOf0
  v0 := Tryz.zeroValue0
  t2 := Tryz.underlying2
  a2 := Tryz.isAgg2
  z2 := Tryz.sizeOf2
  v2 := Tryz.zeroValue2
  t3 := Tryz.underlying3
  a3 := Tryz.isAgg3
  z3 := Tryz.sizeOf3
  v3 := Tryz.zeroValue3
  t4 := Tryz.underlying4
  a4 := Tryz.isAgg4
  z4 := Tryz.sizeOf4
  v4 := Tryz.zeroValue4
  t5 := Tryz.underlying5
  a5 := Tryz.isAgg5
  z5 := Tryz.sizeOf5
  v5 := Tryz.zeroValue5
  t9 := Tryz.underlying9
  a9 := Tryz.isAgg9
  z9 := Tryz.sizeOf9
  v9 := Tryz.zeroValue9
  t20 := Tryz.underlying20
  a20 := Tryz.isAgg20
  z20 := Tryz.sizeOf20
  v20 := Tryz.zeroValue20
  t37 := Tryz.underlying22
  a37 := Tryz.isAgg22
  z37 := Tryz.sizeOf22
  v37 := Tryz.zeroValue22
  t46 := Tryz.underlying92
  a46 := Tryz.isAgg92
  z46 := Tryz.sizeOf92
  v46 := Tryz.zeroValue92
  t51 := Tryz.underlying137
  a51 := Tryz.isAgg137
  z51 := Tryz.sizeOf137
  v51 := Tryz.zeroValue137
  t53 := Tryz.underlying100
  a53 := Tryz.isAgg100
  z53 := Tryz.sizeOf100
  v53 := Tryz.zeroValue100
  t171 := Tryz.underlying130
  a171 := Tryz.isAgg130
  z171 := Tryz.sizeOf130
  v171 := Tryz.zeroValue130
  t173 := Tryz.underlying132
  a173 := Tryz.isAgg132
  z173 := Tryz.sizeOf132
  v173 := Tryz.zeroValue132
  t212 := Tryz.underlying136
  a212 := Tryz.isAgg136
  z212 := Tryz.sizeOf136
  v212 := Tryz.zeroValue136
  t213 := Tryz.underlying138
  a213 := Tryz.isAgg138
  z213 := Tryz.sizeOf138
  t232 := Tryz.underlying215
  a232 := Tryz.isAgg215
  z232 := Tryz.sizeOf215
  v232 := Tryz.zeroValue215
  t233 := Tryz.underlying216
  a233 := Tryz.isAgg216
  z233 := Tryz.sizeOf216
  v233 := Tryz.zeroValue216
  g17 := by kernel_rfl
  g18 := by kernel_rfl
  g19 := by kernel_rfl }
open Go.RowKit Go.Sort Go.Lib in
/-- THE ROAD WITHOUT THE TABLE: 0 <= i < 100. (LAID: no walk: one application.) -/
theorem Tryz.internal_strconv_Itoa_small (i : Nat) (hi : i < 100) (w : World) :
    Calls Tryz.prog 82 #[.int .i64 i] w fun e w' => e = .returned (.string ⟨(Lib.decDigits i).toArray⟩) ∧ w' = w := Any.internal_strconv_Itoa_small Tryz.lays243 i hi w
def Tryz.laysM171_ren : Go.Shelf.Ren := ⟨fun | 171 => 65 | 243 => 82 | 246 => 130 | 283 => 148 | 284 => 149 | 285 => 150 | 286 => 151 | 129 => 127 | 317 => 195 | 318 => 196 | 319 => 197 | 320 => 198 | 337 => 231 | 338 => 232 | n => n, fun | 3 => 3 | 9 => 9 | 2 => 2 | 4 => 4 | 171 => 130 | 0 => 0 | 53 => 100 | 37 => 22 | 5 => 5 | 173 => 132 | 212 => 136 | 51 => 137 | 20 => 20 | 213 => 138 | 46 => 92 | 232 => 215 | 233 => 216 | n => n, fun | 17 => 8 | 18 => 13 | 19 => 14 | n => n⟩
theorem Tryz.laysM171 : Go.Proofs.LaysM.n171 Tryz.prog Tryz.laysM171_ren := {
  mixed := by kernel_rfl
  f129 := Tryz.func127.trans (congrArg some (by kernel_rfl))
  f171 := Tryz.func65.trans (congrArg some (by kernel_rfl))
  f243 := Tryz.func82.trans (congrArg some (by kernel_rfl))
  f246 := Tryz.func130.trans (congrArg some (by kernel_rfl))
  f283 := Tryz.func148.trans (congrArg some (by kernel_rfl))
  f284 := Tryz.func149.trans (congrArg some (by kernel_rfl))
  f285 := Tryz.func150.trans (congrArg some (by kernel_rfl))
  f286 := Tryz.func151.trans (congrArg some (by kernel_rfl))
  f317 := Tryz.func195.trans (congrArg some (by kernel_rfl))
  f318 := Tryz.func196.trans (congrArg some (by kernel_rfl))
  f319 := Tryz.func197.trans (congrArg some (by kernel_rfl))
  f320 := Tryz.func198.trans (congrArg some (by kernel_rfl))
  f337 := Tryz.func231.trans (congrArg some (by kernel_rfl))
  f338 := Tryz.func232.trans (congrArg some (by kernel_rfl))
  t0 := Tryz.underlying0
  a0 := Tryz.isAgg0
  z0 := Tryz.sizeOf0
  v0 := Tryz.zeroValue0
  t2 := Tryz.underlying2
  a2 := Tryz.isAgg2
  z2 := Tryz.sizeOf2
  v2 := Tryz.zeroValue2
  t3 := Tryz.underlying3
  a3 := Tryz.isAgg3
  z3 := Tryz.sizeOf3
  v3 := Tryz.zeroValue3
  t4 := Tryz.underlying4
  a4 := Tryz.isAgg4
  z4 := Tryz.sizeOf4
  v4 := Tryz.zeroValue4
  t5 := Tryz.underlying5
  a5 := Tryz.isAgg5
  z5 := Tryz.sizeOf5
  v5 := Tryz.zeroValue5
  t9 := Tryz.underlying9
  a9 := Tryz.isAgg9
  z9 := Tryz.sizeOf9
  v9 := Tryz.zeroValue9
  t20 := Tryz.underlying20
  a20 := Tryz.isAgg20
  z20 := Tryz.sizeOf20
  v20 := Tryz.zeroValue20
  t37 := Tryz.underlying22
  a37 := Tryz.isAgg22
  z37 := Tryz.sizeOf22
  v37 := Tryz.zeroValue22
  t46 := Tryz.underlying92
  a46 := Tryz.isAgg92
  z46 := Tryz.sizeOf92
  v46 := Tryz.zeroValue92
  t51 := Tryz.underlying137
  a51 := Tryz.isAgg137
  z51 := Tryz.sizeOf137
  v51 := Tryz.zeroValue137
  t53 := Tryz.underlying100
  a53 := Tryz.isAgg100
  z53 := Tryz.sizeOf100
  v53 := Tryz.zeroValue100
  t171 := Tryz.underlying130
  a171 := Tryz.isAgg130
  z171 := Tryz.sizeOf130
  v171 := Tryz.zeroValue130
  t173 := Tryz.underlying132
  a173 := Tryz.isAgg132
  z173 := Tryz.sizeOf132
  v173 := Tryz.zeroValue132
  t212 := Tryz.underlying136
  a212 := Tryz.isAgg136
  z212 := Tryz.sizeOf136
  v212 := Tryz.zeroValue136
  t213 := Tryz.underlying138
  a213 := Tryz.isAgg138
  z213 := Tryz.sizeOf138
  t232 := Tryz.underlying215
  a232 := Tryz.isAgg215
  z232 := Tryz.sizeOf215
  v232 := Tryz.zeroValue215
  t233 := Tryz.underlying216
  a233 := Tryz.isAgg216
  z233 := Tryz.sizeOf216
  v233 := Tryz.zeroValue216
  g17 := by kernel_rfl
  g18 := by kernel_rfl
  g19 := by kernel_rfl
  i0 := by kernel_rfl
  i2 := by kernel_rfl
  i3 := by kernel_rfl
  i4 := by kernel_rfl
  i5 := by kernel_rfl
  i9 := by kernel_rfl
  i20 := by kernel_rfl
  i37 := by kernel_rfl
  i46 := by kernel_rfl
  i51 := by kernel_rfl
  i53 := by kernel_rfl
  i171 := by kernel_rfl
  i173 := by kernel_rfl
  i212 := by kernel_rfl
  i232 := by kernel_rfl
  i233 := by kernel_rfl
  m17 := by kernel_rfl
  m18 := by kernel_rfl
  m19 := by kernel_rfl }
open Go.RowKit Go.Sort Go.Lib in
/-- strconv.Itoa: "Itoa is equivalent to FormatInt(int64(i), 10).": i's DECIMAL NUMERAL ('Lib.itoa': a '-' where i is negative, then the digits), FOR EVERY int. The world behind the call: the world before it, new blocks behind the heap (the library's 'var a [24]byte'), draws. (LAID: no walk: one application.) -/
theorem Tryz.strconv_Itoa (n : Int) (h0 : -9223372036854775808 ≤ n) (h1 : n ≤ 9223372036854775807) (w : World) (htab : Lib.TabIs Tryz.prog w "internal/strconv.uint64pow10" .u64 Lib.pow10Tab) :
    Calls Tryz.prog 65 #[.int .i64 n] w fun e w' => e = .returned (.string ⟨(Lib.itoa n).toArray⟩) ∧ ∃ k os, w' = grow (w.drewN k) os := Any.strconv_Itoa Tryz.laysM171 n h0 h1 w htab
def Tryz.lays171_ren : Go.Shelf.Ren := ⟨fun | 171 => 65 | 243 => 82 | 246 => 130 | 283 => 148 | 284 => 149 | 285 => 150 | 286 => 151 | 129 => 127 | 317 => 195 | 318 => 196 | 319 => 197 | 320 => 198 | 337 => 231 | 338 => 232 | n => n, fun | 3 => 3 | 9 => 9 | 2 => 2 | 4 => 4 | 171 => 130 | 0 => 0 | 53 => 100 | 37 => 22 | 5 => 5 | 173 => 132 | 212 => 136 | 51 => 137 | 20 => 20 | 213 => 138 | 46 => 92 | 232 => 215 | 233 => 216 | n => n, fun | 17 => 8 | 18 => 13 | 19 => 14 | n => n⟩
theorem Tryz.lays171 : Go.Proofs.Lays.n171 Tryz.prog Tryz.lays171_ren := {
  mixed := by kernel_rfl
  f129 := Tryz.func127.trans (congrArg some (by kernel_rfl))
  f171 := Tryz.func65.trans (congrArg some (by kernel_rfl))
  f243 := Tryz.func82.trans (congrArg some (by kernel_rfl))
  f246 := Tryz.func130.trans (congrArg some (by kernel_rfl))
  f283 := Tryz.func148.trans (congrArg some (by kernel_rfl))
  f284 := Tryz.func149.trans (congrArg some (by kernel_rfl))
  f285 := Tryz.func150.trans (congrArg some (by kernel_rfl))
  f286 := Tryz.func151.trans (congrArg some (by kernel_rfl))
  f317 := Tryz.func195.trans (congrArg some (by kernel_rfl))
  f318 := Tryz.func196.trans (congrArg some (by kernel_rfl))
  f319 := Tryz.func197.trans (congrArg some (by kernel_rfl))
  f320 := Tryz.func198.trans (congrArg some (by kernel_rfl))
  f337 := Tryz.func231.trans (congrArg some (by kernel_rfl))
  f338 := Tryz.func232.trans (congrArg some (by kernel_rfl))
  t0 := Tryz.underlying0
  a0 := Tryz.isAgg0
  z0 := Tryz.sizeOf0
  v0 := Tryz.zeroValue0
  t2 := Tryz.underlying2
  a2 := Tryz.isAgg2
  z2 := Tryz.sizeOf2
  v2 := Tryz.zeroValue2
  t3 := Tryz.underlying3
  a3 := Tryz.isAgg3
  z3 := Tryz.sizeOf3
  v3 := Tryz.zeroValue3
  t4 := Tryz.underlying4
  a4 := Tryz.isAgg4
  z4 := Tryz.sizeOf4
  v4 := Tryz.zeroValue4
  t5 := Tryz.underlying5
  a5 := Tryz.isAgg5
  z5 := Tryz.sizeOf5
  v5 := Tryz.zeroValue5
  t9 := Tryz.underlying9
  a9 := Tryz.isAgg9
  z9 := Tryz.sizeOf9
  v9 := Tryz.zeroValue9
  t20 := Tryz.underlying20
  a20 := Tryz.isAgg20
  z20 := Tryz.sizeOf20
  v20 := Tryz.zeroValue20
  t37 := Tryz.underlying22
  a37 := Tryz.isAgg22
  z37 := Tryz.sizeOf22
  v37 := Tryz.zeroValue22
  t46 := Tryz.underlying92
  a46 := Tryz.isAgg92
  z46 := Tryz.sizeOf92
  v46 := Tryz.zeroValue92
  t51 := Tryz.underlying137
  a51 := Tryz.isAgg137
  z51 := Tryz.sizeOf137
  v51 := Tryz.zeroValue137
  t53 := Tryz.underlying100
  a53 := Tryz.isAgg100
  z53 := Tryz.sizeOf100
  v53 := Tryz.zeroValue100
  t171 := Tryz.underlying130
  a171 := Tryz.isAgg130
  z171 := Tryz.sizeOf130
  v171 := Tryz.zeroValue130
  t173 := Tryz.underlying132
  a173 := Tryz.isAgg132
  z173 := Tryz.sizeOf132
  v173 := Tryz.zeroValue132
  t212 := Tryz.underlying136
  a212 := Tryz.isAgg136
  z212 := Tryz.sizeOf136
  v212 := Tryz.zeroValue136
  t213 := Tryz.underlying138
  a213 := Tryz.isAgg138
  z213 := Tryz.sizeOf138
  t232 := Tryz.underlying215
  a232 := Tryz.isAgg215
  z232 := Tryz.sizeOf215
  v232 := Tryz.zeroValue215
  t233 := Tryz.underlying216
  a233 := Tryz.isAgg216
  z233 := Tryz.sizeOf216
  v233 := Tryz.zeroValue216
  g17 := by kernel_rfl
  g18 := by kernel_rfl
  g19 := by kernel_rfl }
open Go.RowKit Go.Sort Go.Lib in
/-- THE ROAD WITHOUT THE TABLE: 0 <= i < 100: NO PREMISE ON THE WORLD, AND THE WORLD IS AS IT WAS: a row that keeps its argument in that range need list no table ('laid = []'). (LAID: no walk: one application.) -/
theorem Tryz.strconv_Itoa_small (i : Nat) (hi : i < 100) (w : World) :
    Calls Tryz.prog 65 #[.int .i64 i] w fun e w' => e = .returned (.string ⟨(Lib.decDigits i).toArray⟩) ∧ w' = w := Any.strconv_Itoa_small Tryz.lays171 i hi w
def Tryz.laysBin46_ren : Go.Shelf.Ren := ⟨fun | 46 => 80 | n => n, fun | 22 => 22 | 33 => 100 | 3 => 3 | 4 => 4 | 5 => 5 | 0 => 0 | 45 => 92 | n => n, fun | n => n⟩
theorem Tryz.laysBin46 : Go.Proofs.LaysBin.n46 Tryz.prog Tryz.laysBin46_ren := {
  mixed := by kernel_rfl
  f46 := Tryz.func80.trans (congrArg some (by kernel_rfl))
  t0 := Tryz.underlying0
  a0 := Tryz.isAgg0
  z0 := Tryz.sizeOf0
  v0 := Tryz.zeroValue0
  i0 := by kernel_rfl
  t3 := Tryz.underlying3
  a3 := Tryz.isAgg3
  z3 := Tryz.sizeOf3
  v3 := Tryz.zeroValue3
  i3 := by kernel_rfl
  t4 := Tryz.underlying4
  a4 := Tryz.isAgg4
  z4 := Tryz.sizeOf4
  v4 := Tryz.zeroValue4
  i4 := by kernel_rfl
  t5 := Tryz.underlying5
  a5 := Tryz.isAgg5
  z5 := Tryz.sizeOf5
  v5 := Tryz.zeroValue5
  i5 := by kernel_rfl
  t22 := Tryz.underlying22
  a22 := Tryz.isAgg22
  z22 := Tryz.sizeOf22
  v22 := Tryz.zeroValue22
  i22 := by kernel_rfl
  t33 := Tryz.underlying100
  a33 := Tryz.isAgg100
  z33 := Tryz.sizeOf100
  v33 := Tryz.zeroValue100
  i33 := by kernel_rfl
  t45 := Tryz.underlying92
  a45 := Tryz.isAgg92
  z45 := Tryz.sizeOf92
  v45 := Tryz.zeroValue92
  i45 := by kernel_rfl }
open Go.RowKit in
/-- binary.PutUvarint: "PutUvarint encodes a uint64 into buf and returns the number of bytes written. If the buffer is too small, PutUvarint will panic.": WHERE buf HAS ROOM: x's VARINT ('Lib.uvarint x') IS LAID IN buf's FIRST CELLS ('World.setCells'); its length comes back; nothing else turns. (LAID: no walk: one application.) -/
theorem Tryz.binary_PutUvarint (g o n c x : Nat) (hx : x < 18446744073709551616) (w : World) (hn : (Lib.uvarint x).length ≤ n) (hcell : ∀ j, j < (Lib.uvarint x).length → (w.cell? ⟨g, o + j, none⟩).isSome = true ∧ w.frozen? ⟨g, o + j, none⟩ = false) :
    Calls Tryz.prog 80 #[.slice (some ⟨g, o, none⟩) n c, .int .u64 x] w fun e w' => e = .returned (.int .i64 (Lib.uvarint x).length) ∧ w' = w.setCells g o (Lib.byteCells (Lib.uvarint x)) := Any.binary_PutUvarint Tryz.laysBin46 g o n c x hx w hn hcell
def Tryz.lays264_ren : Go.Shelf.Ren := ⟨fun | 264 => 354 | n => n, fun | 53 => 100 | 46 => 92 | n => n, fun | n => n⟩
theorem Tryz.lays264 : Go.Proofs.Lays.n264 Tryz.prog Tryz.lays264_ren := {
  mixed := by kernel_rfl
  f264 := Tryz.func354.trans (congrArg some (by kernel_rfl))
  t46 := Tryz.underlying92
  a46 := Tryz.isAgg92
  z46 := Tryz.sizeOf92
  v46 := Tryz.zeroValue92
  t53 := Tryz.underlying100
  a53 := Tryz.isAgg100
  z53 := Tryz.sizeOf100
  v53 := Tryz.zeroValue100 }
open Go.RowKit Go.Lib in
theorem Tryz.bits_Mul64 (x y : Nat) (hx : x < 18446744073709551616) (hy : y < 18446744073709551616) (w : World) :
    Calls Tryz.prog 354 #[.int .u64 x, .int .u64 y] w fun e w' => e = .returned (.tuple #[.int .u64 ((x * y / 18446744073709551616 : Nat) : Int), .int .u64 ((x * y % 18446744073709551616 : Nat) : Int)]) ∧ w' = w := Any.bits_Mul64 Tryz.lays264 x y hx hy w
def Tryz.lays212_ren : Go.Shelf.Ren := ⟨fun | 212 => 341 | 263 => 353 | 264 => 354 | n => n, fun | 46 => 92 | 51 => 137 | 146 => 300 | 53 => 100 | 148 => 302 | n => n, fun | n => n⟩
theorem Tryz.lays212 : Go.Proofs.Lays.n212 Tryz.prog Tryz.lays212_ren := {
  mixed := by kernel_rfl
  f212 := Tryz.func341.trans (congrArg some (by kernel_rfl))
  f263 := Tryz.func353.trans (congrArg some (by kernel_rfl))
  f264 := Tryz.func354.trans (congrArg some (by kernel_rfl))
  t46 := Tryz.underlying92
  a46 := Tryz.isAgg92
  z46 := Tryz.sizeOf92
  v46 := Tryz.zeroValue92
  t51 := Tryz.underlying137
  a51 := Tryz.isAgg137
  z51 := Tryz.sizeOf137
  v51 := Tryz.zeroValue137
  t53 := Tryz.underlying100
  a53 := Tryz.isAgg100
  z53 := Tryz.sizeOf100
  v53 := Tryz.zeroValue100
  t146 := Tryz.underlying300
  a146 := Tryz.isAgg300
  z146 := Tryz.sizeOf300
  v146 := Tryz.zeroValue300
  t148 := Tryz.underlying302
  a148 := Tryz.isAgg302
  z148 := Tryz.sizeOf302
  v148 := Tryz.zeroValue302 }
open Go.RowKit Go.Lib in
/-- math/bits.Mul: "Mul returns the full-width product of x and y": on a machine of 64 bits: Mul64's. (LAID: no walk: one application.) -/
theorem Tryz.bits_Mul (x y : Nat) (hx : x < 18446744073709551616) (hy : y < 18446744073709551616) (w : World) :
    Calls Tryz.prog 341 #[.int .u64 x, .int .u64 y] w fun e w' => e = .returned (.tuple #[.int .u64 ((x * y / 18446744073709551616 : Nat) : Int), .int .u64 ((x * y % 18446744073709551616 : Nat) : Int)]) ∧ w' = w := Any.bits_Mul Tryz.lays212 x y hx hy w
def Tryz.lays260_ren : Go.Shelf.Ren := ⟨fun | 260 => 304 | n => n, fun | 9 => 9 | 21 => 21 | 3 => 3 | 4 => 4 | 5 => 5 | 119 => 225 | 0 => 0 | 46 => 92 | 139 => 280 | 138 => 279 | n => n, fun | 3 => 18 | 4 => 19 | n => n⟩
theorem Tryz.lays260 : Go.Proofs.Lays.n260 Tryz.prog Tryz.lays260_ren := {
  mixed := by kernel_rfl
  f260 := Tryz.func304.trans (congrArg some (by kernel_rfl))
  t0 := Tryz.underlying0
  a0 := Tryz.isAgg0
  z0 := Tryz.sizeOf0
  v0 := Tryz.zeroValue0
  t3 := Tryz.underlying3
  a3 := Tryz.isAgg3
  z3 := Tryz.sizeOf3
  v3 := Tryz.zeroValue3
  t4 := Tryz.underlying4
  a4 := Tryz.isAgg4
  z4 := Tryz.sizeOf4
  v4 := Tryz.zeroValue4
  t5 := Tryz.underlying5
  a5 := Tryz.isAgg5
  z5 := Tryz.sizeOf5
  v5 := Tryz.zeroValue5
  t9 := Tryz.underlying9
  a9 := Tryz.isAgg9
  z9 := Tryz.sizeOf9
  v9 := Tryz.zeroValue9
  t21 := Tryz.underlying21
  a21 := Tryz.isAgg21
  z21 := Tryz.sizeOf21
  v21 := Tryz.zeroValue21
  t46 := Tryz.underlying92
  a46 := Tryz.isAgg92
  z46 := Tryz.sizeOf92
  v46 := Tryz.zeroValue92
  t119 := Tryz.underlying225
  a119 := Tryz.isAgg225
  z119 := Tryz.sizeOf225
  t138 := Tryz.underlying279
  a138 := Tryz.isAgg279
  z138 := Tryz.sizeOf279
  v138 := Tryz.zeroValue279
  t139 := Tryz.underlying280
  a139 := Tryz.isAgg280
  z139 := Tryz.sizeOf280
  v139 := Tryz.zeroValue280
  g3 := by kernel_rfl
  g4 := by kernel_rfl }
open Go.RowKit Go.Lib in
theorem Tryz.utf8_decodeRuneInStringSlow (s : ByteArray) (w : World) (hT : Lib.Utf8Tabs 18 19 w) :
    Calls Tryz.prog 304 #[.string s] w fun e w' => e = .returned (.tuple #[.int .i32 (Lib.decodeGo s).1, .int .i64 (Lib.decodeGo s).2]) ∧ Below w.heap.size w w' := Any.utf8_decodeRuneInStringSlow Tryz.lays260 s w hT
def Tryz.lays187_ren : Go.Shelf.Ren := ⟨fun | 187 => 204 | 255 => 237 | n => n, fun | 37 => 22 | 5 => 5 | 3 => 3 | n => n, fun | n => n⟩
theorem Tryz.lays187 : Go.Proofs.Lays.n187 Tryz.prog Tryz.lays187_ren := {
  mixed := by kernel_rfl
  f187 := Tryz.func204.trans (congrArg some (by kernel_rfl))
  f255 := Tryz.func237.trans (congrArg some (by kernel_rfl))
  t3 := Tryz.underlying3
  a3 := Tryz.isAgg3
  z3 := Tryz.sizeOf3
  v3 := Tryz.zeroValue3
  t5 := Tryz.underlying5
  a5 := Tryz.isAgg5
  z5 := Tryz.sizeOf5
  v5 := Tryz.zeroValue5
  t37 := Tryz.underlying22
  a37 := Tryz.isAgg22
  z37 := Tryz.sizeOf22
  v37 := Tryz.zeroValue22 }
open Go.RowKit Go.Lib in
/-- bytes.IndexByte, b at whatever address: "IndexByte returns the index of the first instance of c in b, or -1 if c is not present in b." (LAID: no walk: one application.) -/
theorem Tryz.bytes_IndexByte_at (a : Addr) (n c : Nat) (xs : List Int) (cv : Int) (w : World) (hx : xs.length = n) (hc : ∀ i, i < n → w.cell? (a.add i) = some (.int .u8 (xs.getD i 0))) :
    Calls Tryz.prog 204 #[.slice (some a) n c, .int .u8 cv] w fun e w' => e = .returned (.int .i64 (Lib.indexByte (Lib.bytesOf xs) cv.toNat.toUInt8)) ∧ w' = w := Any.bytes_IndexByte_at Tryz.lays187 a n c xs cv w hx hc
open Go.Proofs Go.RowKit Go.Lib in
/-- bytes.IndexByte, the slice's bytes told by a ByteArray. (LAID: no walk: one application.) -/
theorem Tryz.bytes_IndexByte_bytes (b o cap : Nat) (t : ByteArray) (cv : Int) (w : World) (hc : Lib.Bytes w b o t) :
    Calls Tryz.prog 204 #[.slice (some ⟨b, o, none⟩) t.size cap, .int .u8 cv] w fun e w' => e = .returned (.int .i64 (Lib.indexByte t.data.toList cv.toNat.toUInt8)) ∧ w' = w := Any.bytes_IndexByte_bytes Tryz.lays187 b o cap t cv w hc
def Tryz.lays115_ren : Go.Shelf.Ren := ⟨fun | 115 => 128 | n => n, fun | 37 => 22 | 4 => 4 | 9 => 9 | 5 => 5 | n => n, fun | n => n⟩
theorem Tryz.lays115 : Go.Proofs.Lays.n115 Tryz.prog Tryz.lays115_ren := {
  mixed := by kernel_rfl
  f115 := Tryz.func128.trans (congrArg some (by kernel_rfl))
  t4 := Tryz.underlying4
  a4 := Tryz.isAgg4
  z4 := Tryz.sizeOf4
  v4 := Tryz.zeroValue4
  t9 := Tryz.underlying9
  a9 := Tryz.isAgg9
  z9 := Tryz.sizeOf9
  v9 := Tryz.zeroValue9
  t37 := Tryz.underlying22
  a37 := Tryz.isAgg22
  z37 := Tryz.sizeOf22
  v37 := Tryz.zeroValue22 }
open Go.Proofs Go.RowKit Go.Lib in
/-- bytes.Equal, each argument with what 'string(..)' of it gives. (LAID: no walk: one application.) -/
theorem Tryz.bytes_Equal_strs (v1 v2 : Value) (t1 t2 : ByteArray) (w : World) (h1 : (convert 22 9 v1).run Tryz.prog w = .ok (.string t1) w) (h2 : (convert 22 9 v2).run Tryz.prog w = .ok (.string t2) w) :
    Calls Tryz.prog 128 #[v1, v2] w fun e w' => e = .returned (.bool (t1.toList == t2.toList)) ∧ w' = w := Any.bytes_Equal_strs Tryz.lays115 v1 v2 t1 t2 w h1 h2
def Tryz.laysnb115_ren : Go.Shelf.Ren := ⟨fun | 115 => 128 | n => n, fun | 37 => 22 | 4 => 4 | 9 => 9 | 5 => 5 | n => n, fun | n => n⟩
theorem Tryz.laysnb115 : Go.Proofs.Lays.nb115 Tryz.prog Tryz.laysnb115_ren := {
  mixed := by kernel_rfl
  f115 := Tryz.func128.trans (congrArg some (by kernel_rfl))
  t4 := Tryz.underlying4
  a4 := Tryz.isAgg4
  z4 := Tryz.sizeOf4
  v4 := Tryz.zeroValue4
  t9 := Tryz.underlying9
  a9 := Tryz.isAgg9
  z9 := Tryz.sizeOf9
  v9 := Tryz.zeroValue9
  t37 := Tryz.underlying22
  a37 := Tryz.isAgg22
  z37 := Tryz.sizeOf22
  v37 := Tryz.zeroValue22
  t5 := Tryz.underlying5
  a5 := Tryz.isAgg5
  z5 := Tryz.sizeOf5
  v5 := Tryz.zeroValue5 }
/-- bytes.Equal: WHOLE. (LAID: no walk: one application.) -/
theorem Tryz.bytes_Equal_all (p1 p2 : Option Addr) (n c m d : Nat) (xs ys : List Int) (w : World) (hx : xs.length = n) (hy : ys.length = m) (h1 : Lib.BytesIn w p1 n xs) (h2 : Lib.BytesIn w p2 m ys) :
    Calls Tryz.prog 128 #[.slice p1 n c, .slice p2 m d] w fun e w' => e = .returned (.bool (Lib.bytesOf xs == Lib.bytesOf ys)) ∧ w' = w := Any.bytes_Equal_all Tryz.laysnb115 p1 p2 n c m d xs ys w hx hy h1 h2
/-- bytes.Equal: "Equal reports whether a and b are the same length and contain the same bytes. A nil argument is equivalent to an empty slice.": IT RETURNS 'the bytes of the one == the bytes of the other'; the world is as it was. THE TWO ARGUMENTS COME AS WHATEVER VALUES, each with the one fact that the walk wants of it: what 'string(..)' of it gives: for a slice whose cells you know: 'run_convert_bytes_arg' (Derived/Laws/BytesArg.lean) hands that fact; for a nil one: 'run_convert_bytes_nil' (with xs := []). (LAID: no walk: one application.) -/
theorem Tryz.bytes_Equal (v1 v2 : Value) (xs ys : List Int) (w : World) (h1 : (convert 22 9 v1).run Tryz.prog w = .ok (.string (strOfNums xs)) w) (h2 : (convert 22 9 v2).run Tryz.prog w = .ok (.string (strOfNums ys)) w) :
    Calls Tryz.prog 128 #[v1, v2] w fun e w' => e = .returned (.bool (Lib.bytesOf xs == Lib.bytesOf ys)) ∧ w' = w := Any.bytes_Equal Tryz.lays115 v1 v2 xs ys w h1 h2
/-- bytes.IndexByte: "IndexByte returns the index of the first instance of c in b, or -1 if c is not present in b.": IT RETURNS 'Lib.indexByte (the bytes of b) c'; the world is as it was. 'xs': the numbers that the slice's cells hold. (LAID: no walk: one application.) -/
theorem Tryz.bytes_IndexByte (b o n c : Nat) (xs : List Int) (cv : Int) (w : World) (hx : xs.length = n) (hc : ∀ i, i < n → w.cell? ⟨b, o + i, none⟩ = some (.int .u8 (xs.getD i 0))) :
    Calls Tryz.prog 204 #[.slice (some ⟨b, o, none⟩) n c, .int .u8 cv] w fun e w' => e = .returned (.int .i64 (Lib.indexByte (Lib.bytesOf xs) cv.toNat.toUInt8)) ∧ w' = w := Any.bytes_IndexByte Tryz.lays187 b o n c xs cv w hx hc
/-- bytes.IndexByte AT nil: -1. (LAID: no walk: one application.) -/
theorem Tryz.bytes_IndexByte_nil (cv : Int) (w : World) :
    Calls Tryz.prog 204 #[.slice none 0 0, .int .u8 cv] w fun e w' => e = .returned (.int .i64 (-1)) ∧ w' = w := Any.bytes_IndexByte_nil Tryz.lays187 cv w
end Go.Proofs
