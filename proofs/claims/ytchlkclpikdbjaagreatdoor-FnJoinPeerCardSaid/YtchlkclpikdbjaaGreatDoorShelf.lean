/-
  DERIVED: THE SHELF's CONTRACTS AT THIS DUMP, IN PLAIN WORDS (tools/lay-plain.mjs out of 'TryzShelf.lean', which tools/lay-shelf.mjs wrote): THE SAME DECLARATIONS UNDER THE SAME NAMES: 'import', 'namespace', 'open', 'def', 'theorem' AND NOTHING ELSE: no command of the shelf's: FOR A HAND-IN. Each laying: the table of numbers ('.._ren') and one theorem, a field a fact of the dump's own or the kernel's comparison; each contract: ONE APPLICATION.
-/
import Derived.Shelf.Strings.Builder1
import Derived.Shelf.Strings.Builder2
import Derived.Shelf.Strings.OnBuilder
import Derived.Shelf.Small.Utf8
import Derived.Shelf.Strings.BuilderF
import Derived.Shelf.Strings.BuilderK
import Derived.Shelf.Utf8.RuneCount
import Derived.Shelf.Strings.Builder2Cap
import Derived.Shelf.Strconv.Itoa0
import Derived.Shelf.Strconv.Itoa1
import Derived.Shelf.LaysM
import Derived.Shelf.Strconv.Itoa2
import Derived.Shelf.Strconv.Itoa3
import Derived.Shelf.Bytes.Len
import Derived.Shelf.Bytes.TryGrow
import Derived.Shelf.Bytes.GrowSliceCatch
import Derived.Shelf.Bytes.GrowSlice
import Derived.Shelf.Bytes.GrowRow0
import Derived.Shelf.Bytes.GrowRow
import Derived.Shelf.Bytes.GrowNil
import Derived.Shelf.Bytes.Grow
import Derived.Shelf.Bytes.Reset
import Derived.Shelf.Bytes.Write
import Derived.Shelf.Bytes.Bytes
import Derived.Shelf.Strconv.Clone
import Derived.Ground.MnProg
import Derived.Shelf.Bin.BEUint16
import Derived.Shelf.Bin.BEPutUint16
import Derived.Shelf.Bin.PutUvarint
import Derived.Shelf.Strconv.Lower
import Derived.Shelf.Strconv.ParseUint10
import Derived.Shelf.Strconv.RangeError
import Derived.Shelf.LaysC
import Derived.Shelf.Strconv.ToErrorRange
import Derived.Shelf.Strconv.ParseUintEmpty
import Derived.Shelf.Strconv.ParseUint10b64
import Derived.Shelf.Strconv.ParseUint10b32
import Derived.Shelf.Strconv.ParseUint10b16
import Derived.Shelf.Strconv.ParseUint10b8
import Derived.Shelf.Strconv.ParseUint10At
import Derived.Ground.MpProg
import Derived.Shelf.Pu.ParseUintPublic10
import Derived.Shelf.Bytes.GrowRow0Kept
import Derived.Shelf.Bytes.GrowRowKept
import Derived.Shelf.Bytes.GrowNilKept
import Derived.Shelf.Bytes.GrowKept
import Derived.Shelf.Bytes.ResetKept
import Derived.Shelf.Bytes.WriteKept
import Derived.Shelf.Bytes.BufferK
import Derived.Shelf.Strings.Prefix
import Derived.Shelf.Strings.RuneCount
import Derived.Shelf.Bits.Mul64
import Derived.Shelf.Strings.Repeat
import Derived.Shelf.Unicode.DecodeSlow
import Derived.Shelf.Unicode.DecodeAny
import Derived.Shelf.Strings.BuilderCap
import Derived.Shelf.Bytes.SlIndexAt
import Derived.Shelf.Bytes.SlSearch0
import Derived.Shelf.Bytes.SlEqualAll
import Derived.Ground.PaProg
import Derived.Shelf.Hex.Lens
import Derived.Shelf.Bytes.Small
import Derived.Shelf.Hex.Encode
import Derived.Shelf.Hex.Decode
import Derived.Shelf.Bytes.IndexByte
import Derived.Shelf.Hex.DecodeOwns
import Derived.Shelf.Hex.More
import Derived.Test.YtchlkclpikdbjaaGreatDoorProg
namespace Go.Proofs
open Go.Shelf
def Tryz.lays129_ren : Go.Shelf.Ren := ⟨fun | 129 => 152 | n => n, fun | 53 => 23 | 3 => 3 | 4 => 4 | 46 => 62 | 5 => 5 | 9 => 9 | n => n, fun | n => n⟩
theorem Tryz.lays129 : Go.Proofs.Lays.n129 Tryz.prog Tryz.lays129_ren := {
  mixed := by kernel_rfl
  f129 := Tryz.func152.trans (congrArg some (by kernel_rfl))
  t3 := Tryz.underlying3
  a3 := Tryz.isAgg3
  z3 := Tryz.sizeOf3
  v3 := Tryz.zeroValue3
  t4 := Tryz.underlying4
  a4 := Tryz.isAgg4
  z4 := Tryz.sizeOf4
  v4 := Tryz.zeroValue4
  t5 := Tryz.underlying5
  a5 := Tryz.isAgg5
  z5 := Tryz.sizeOf5
  v5 := Tryz.zeroValue5
  t9 := Tryz.underlying9
  a9 := Tryz.isAgg9
  z9 := Tryz.sizeOf9
  v9 := Tryz.zeroValue9
  t46 := Tryz.underlying62
  a46 := Tryz.isAgg62
  z46 := Tryz.sizeOf62
  v46 := Tryz.zeroValue62
  t53 := Tryz.underlying23
  a53 := Tryz.isAgg23
  z53 := Tryz.sizeOf23
  v53 := Tryz.zeroValue23 }
theorem Tryz.bits_Len64 (x : Int) (w : World) (h0 : 0 ≤ x) (h1 : x ≤ 18446744073709551615) :
    Calls Tryz.prog 152 #[.int .u64 x] w fun e w' => e = .returned (.int .i64 (Lib.bitLen x.toNat)) ∧ w' = w := Any.bits_Len64 Tryz.lays129 x w h0 h1
def Tryz.lays283_ren : Go.Shelf.Ren := ⟨fun | 283 => 265 | n => n, fun | 3 => 3 | 9 => 9 | 4 => 4 | n => n, fun | n => n⟩
theorem Tryz.lays283 : Go.Proofs.Lays.n283 Tryz.prog Tryz.lays283_ren := {
  mixed := by kernel_rfl
  f283 := Tryz.func265.trans (congrArg some (by kernel_rfl))
  t3 := Tryz.underlying3
  a3 := Tryz.isAgg3
  z3 := Tryz.sizeOf3
  v3 := Tryz.zeroValue3
  t4 := Tryz.underlying4
  a4 := Tryz.isAgg4
  z4 := Tryz.sizeOf4
  v4 := Tryz.zeroValue4
  t9 := Tryz.underlying9
  a9 := Tryz.isAgg9
  z9 := Tryz.sizeOf9
  v9 := Tryz.zeroValue9 }
open Go.Lib in
theorem Tryz.internal_strconv_small (i : Nat) (h : i < 100) (w : World) :
    Calls Tryz.prog 265 #[.int .i64 i] w fun e w' => e = .returned (.string ⟨(Lib.decDigits i).toArray⟩) ∧ w' = w := Any.internal_strconv_small Tryz.lays283 i h w
def Tryz.lays171_ren : Go.Shelf.Ren := ⟨fun | 171 => 166 | 243 => 205 | 246 => 269 | 283 => 265 | 284 => 266 | 285 => 267 | 286 => 268 | 129 => 152 | 317 => 311 | 318 => 312 | 319 => 313 | 320 => 314 | 337 => 324 | 338 => 325 | n => n, fun | 3 => 3 | 9 => 9 | 2 => 2 | 4 => 4 | 171 => 203 | 0 => 0 | 53 => 23 | 37 => 22 | 5 => 5 | 173 => 204 | 212 => 256 | 51 => 213 | 20 => 20 | 213 => 257 | 46 => 62 | 232 => 207 | 233 => 214 | n => n, fun | 17 => 14 | 18 => 23 | 19 => 24 | n => n⟩
theorem Tryz.lays171 : Go.Proofs.Lays.n171 Tryz.prog Tryz.lays171_ren := {
  mixed := by kernel_rfl
  f129 := Tryz.func152.trans (congrArg some (by kernel_rfl))
  f171 := Tryz.func166.trans (congrArg some (by kernel_rfl))
  f243 := Tryz.func205.trans (congrArg some (by kernel_rfl))
  f246 := Tryz.func269.trans (congrArg some (by kernel_rfl))
  f283 := Tryz.func265.trans (congrArg some (by kernel_rfl))
  f284 := Tryz.func266.trans (congrArg some (by kernel_rfl))
  f285 := Tryz.func267.trans (congrArg some (by kernel_rfl))
  f286 := Tryz.func268.trans (congrArg some (by kernel_rfl))
  f317 := Tryz.func311.trans (congrArg some (by kernel_rfl))
  f318 := Tryz.func312.trans (congrArg some (by kernel_rfl))
  f319 := Tryz.func313.trans (congrArg some (by kernel_rfl))
  f320 := Tryz.func314.trans (congrArg some (by kernel_rfl))
  f337 := Tryz.func324.trans (congrArg some (by kernel_rfl))
  f338 := Tryz.func325.trans (congrArg some (by kernel_rfl))
  t0 := Tryz.underlying0
  a0 := Tryz.isAgg0
  z0 := Tryz.sizeOf0
  v0 := Tryz.zeroValue0
  t2 := Tryz.underlying2
  a2 := Tryz.isAgg2
  z2 := Tryz.sizeOf2
  v2 := Tryz.zeroValue2
  t3 := Tryz.underlying3
  a3 := Tryz.isAgg3
  z3 := Tryz.sizeOf3
  v3 := Tryz.zeroValue3
  t4 := Tryz.underlying4
  a4 := Tryz.isAgg4
  z4 := Tryz.sizeOf4
  v4 := Tryz.zeroValue4
  t5 := Tryz.underlying5
  a5 := Tryz.isAgg5
  z5 := Tryz.sizeOf5
  v5 := Tryz.zeroValue5
  t9 := Tryz.underlying9
  a9 := Tryz.isAgg9
  z9 := Tryz.sizeOf9
  v9 := Tryz.zeroValue9
  t20 := Tryz.underlying20
  a20 := Tryz.isAgg20
  z20 := Tryz.sizeOf20
  v20 := Tryz.zeroValue20
  t37 := Tryz.underlying22
  a37 := Tryz.isAgg22
  z37 := Tryz.sizeOf22
  v37 := Tryz.zeroValue22
  t46 := Tryz.underlying62
  a46 := Tryz.isAgg62
  z46 := Tryz.sizeOf62
  v46 := Tryz.zeroValue62
  t51 := Tryz.underlying213
  a51 := Tryz.isAgg213
  z51 := Tryz.sizeOf213
  v51 := Tryz.zeroValue213
  t53 := Tryz.underlying23
  a53 := Tryz.isAgg23
  z53 := Tryz.sizeOf23
  v53 := Tryz.zeroValue23
  t171 := Tryz.underlying203
  a171 := Tryz.isAgg203
  z171 := Tryz.sizeOf203
  v171 := Tryz.zeroValue203
  t173 := Tryz.underlying204
  a173 := Tryz.isAgg204
  z173 := Tryz.sizeOf204
  v173 := Tryz.zeroValue204
  t212 := Tryz.underlying256
  a212 := Tryz.isAgg256
  z212 := Tryz.sizeOf256
  v212 := Tryz.zeroValue256
  t213 := Tryz.underlying257
  a213 := Tryz.isAgg257
  z213 := Tryz.sizeOf257
  t232 := Tryz.underlying207
  a232 := Tryz.isAgg207
  z232 := Tryz.sizeOf207
  v232 := Tryz.zeroValue207
  t233 := Tryz.underlying214
  a233 := Tryz.isAgg214
  z233 := Tryz.sizeOf214
  v233 := Tryz.zeroValue214
  g17 := by kernel_rfl
  g18 := by kernel_rfl
  g19 := by kernel_rfl }
open Go.RowKit Go.Sort Go.Lib in
theorem Tryz.strconv_Itoa_small (i : Nat) (hi : i < 100) (w : World) :
    Calls Tryz.prog 166 #[.int .i64 i] w fun e w' => e = .returned (.string ⟨(Lib.decDigits i).toArray⟩) ∧ w' = w := Any.strconv_Itoa_small Tryz.lays171 i hi w
def Tryz.laysM180_ren : Go.Shelf.Ren := ⟨fun | 180 => 72 | 251 => 96 | 252 => 97 | 181 => 147 | 184 => 148 | 290 => 149 | 324 => 190 | n => n, fun | 130 => 90 | 37 => 22 | 3 => 3 | 75 => 50 | 0 => 0 | 93 => 77 | 91 => 75 | 131 => 91 | 4 => 4 | 20 => 20 | 5 => 5 | 80 => 98 | 9 => 9 | n => n, fun | 14 => 0 | n => n⟩
theorem Tryz.laysM180 : Go.Proofs.LaysM.n180 Tryz.prog Tryz.laysM180_ren := {
  mixed := by kernel_rfl
  f180 := Tryz.func72.trans (congrArg some (by kernel_rfl))
  f181 := Tryz.func147.trans (congrArg some (by kernel_rfl))
  f184 := Tryz.func148.trans (congrArg some (by kernel_rfl))
  f251 := Tryz.func96.trans (congrArg some (by kernel_rfl))
  f252 := Tryz.func97.trans (congrArg some (by kernel_rfl))
  f290 := Tryz.func149.trans (congrArg some (by kernel_rfl))
  f324 := Tryz.func190.trans (congrArg some (by kernel_rfl))
  t0 := Tryz.underlying0
  a0 := Tryz.isAgg0
  z0 := Tryz.sizeOf0
  v0 := Tryz.zeroValue0
  t3 := Tryz.underlying3
  a3 := Tryz.isAgg3
  z3 := Tryz.sizeOf3
  v3 := Tryz.zeroValue3
  t4 := Tryz.underlying4
  a4 := Tryz.isAgg4
  z4 := Tryz.sizeOf4
  v4 := Tryz.zeroValue4
  t20 := Tryz.underlying20
  a20 := Tryz.isAgg20
  z20 := Tryz.sizeOf20
  v20 := Tryz.zeroValue20
  t37 := Tryz.underlying22
  a37 := Tryz.isAgg22
  z37 := Tryz.sizeOf22
  v37 := Tryz.zeroValue22
  t75 := Tryz.underlying50
  a75 := Tryz.isAgg50
  z75 := Tryz.sizeOf50
  v75 := Tryz.zeroValue50
  t91 := Tryz.underlying75
  a91 := Tryz.isAgg75
  z91 := Tryz.sizeOf75
  v91 := Tryz.zeroValue75
  t93 := Tryz.underlying77
  a93 := Tryz.isAgg77
  z93 := Tryz.sizeOf77
  v93 := Tryz.zeroValue77
  t130 := Tryz.underlying90
  a130 := Tryz.isAgg90
  z130 := Tryz.sizeOf90
  v130 := Tryz.zeroValue90
  t131 := Tryz.underlying91
  a131 := Tryz.isAgg91
  z131 := Tryz.sizeOf91
  v131 := Tryz.zeroValue91
  g14 := by kernel_rfl
  t5 := Tryz.underlying5
  a5 := Tryz.isAgg5
  z5 := Tryz.sizeOf5
  v5 := Tryz.zeroValue5
  t9 := Tryz.underlying9
  a9 := Tryz.isAgg9
  z9 := Tryz.sizeOf9
  v9 := Tryz.zeroValue9
  t80 := Tryz.underlying98
  a80 := Tryz.isAgg98
  z80 := Tryz.sizeOf98
  v80 := Tryz.zeroValue98
  i0 := by kernel_rfl
  i3 := by kernel_rfl
  i4 := by kernel_rfl
  i5 := by kernel_rfl
  i9 := by kernel_rfl
  i20 := by kernel_rfl
  i37 := by kernel_rfl
  i75 := by kernel_rfl
  i80 := by kernel_rfl
  i91 := by kernel_rfl
  i93 := by kernel_rfl
  i130 := by kernel_rfl
  i131 := by kernel_rfl
  m14 := by kernel_rfl }
def Tryz.laysM183_ren : Go.Shelf.Ren := ⟨fun | 183 => 75 | n => n, fun | 130 => 90 | 37 => 22 | 0 => 0 | 93 => 77 | 3 => 3 | 5 => 5 | 91 => 75 | n => n, fun | n => n⟩
theorem Tryz.laysM183 : Go.Proofs.LaysM.n183 Tryz.prog Tryz.laysM183_ren := {
  mixed := by kernel_rfl
  f183 := Tryz.func75.trans (congrArg some (by kernel_rfl))
  t0 := Tryz.underlying0
  a0 := Tryz.isAgg0
  z0 := Tryz.sizeOf0
  v0 := Tryz.zeroValue0
  t3 := Tryz.underlying3
  a3 := Tryz.isAgg3
  z3 := Tryz.sizeOf3
  v3 := Tryz.zeroValue3
  t37 := Tryz.underlying22
  a37 := Tryz.isAgg22
  z37 := Tryz.sizeOf22
  v37 := Tryz.zeroValue22
  t93 := Tryz.underlying77
  a93 := Tryz.isAgg77
  z93 := Tryz.sizeOf77
  v93 := Tryz.zeroValue77
  t130 := Tryz.underlying90
  a130 := Tryz.isAgg90
  z130 := Tryz.sizeOf90
  v130 := Tryz.zeroValue90
  t5 := Tryz.underlying5
  a5 := Tryz.isAgg5
  z5 := Tryz.sizeOf5
  v5 := Tryz.zeroValue5
  t91 := Tryz.underlying75
  a91 := Tryz.isAgg75
  z91 := Tryz.sizeOf75
  v91 := Tryz.zeroValue75
  i0 := by kernel_rfl
  i3 := by kernel_rfl
  i5 := by kernel_rfl
  i37 := by kernel_rfl
  i91 := by kernel_rfl
  i93 := by kernel_rfl
  i130 := by kernel_rfl }
open Go.RowKit in
theorem Tryz.Buffer_Bytes (B b : Nat) (bs : List Value) (w : World) (h : Lib.IsBuffer 77 5 B b bs w) :
    Calls Tryz.prog 75 #[.pointer (some ⟨b, 0, none⟩)] w fun e w' => ∃ v, e = .returned v ∧ w'.ownsRow B 5 1 v bs.length bs ∧ ∃ n, w' = w.drewN n := Any.Buffer_Bytes Tryz.laysM183 B b bs w h
def Tryz.laysBin36_ren : Go.Shelf.Ren := ⟨fun | 36 => 161 | n => n, fun | 37 => 121 | 22 => 22 | 23 => 123 | 0 => 0 | 5 => 5 | 45 => 62 | n => n, fun | n => n⟩
theorem Tryz.laysBin36 : Go.Proofs.LaysBin.n36 Tryz.prog Tryz.laysBin36_ren := {
  mixed := by kernel_rfl
  f36 := Tryz.func161.trans (congrArg some (by kernel_rfl))
  t0 := Tryz.underlying0
  a0 := Tryz.isAgg0
  z0 := Tryz.sizeOf0
  v0 := Tryz.zeroValue0
  i0 := by kernel_rfl
  t5 := Tryz.underlying5
  a5 := Tryz.isAgg5
  z5 := Tryz.sizeOf5
  v5 := Tryz.zeroValue5
  i5 := by kernel_rfl
  t22 := Tryz.underlying22
  a22 := Tryz.isAgg22
  z22 := Tryz.sizeOf22
  v22 := Tryz.zeroValue22
  i22 := by kernel_rfl
  t23 := Tryz.underlying123
  a23 := Tryz.isAgg123
  z23 := Tryz.sizeOf123
  v23 := Tryz.zeroValue123
  i23 := by kernel_rfl
  t37 := Tryz.underlying121
  a37 := Tryz.isAgg121
  z37 := Tryz.sizeOf121
  v37 := Tryz.zeroValue121
  i37 := by kernel_rfl
  t45 := Tryz.underlying62
  a45 := Tryz.isAgg62
  z45 := Tryz.sizeOf62
  v45 := Tryz.zeroValue62
  i45 := by kernel_rfl }
open Go.RowKit in
theorem Tryz.binary_BE_Uint16 (g o n c : Nat) (b0 b1 : UInt8) (w : World) (hn : 2 ≤ n) (c0 : w.cell? ⟨g, o, none⟩ = some (.int .u8 b0.toNat)) (c1 : w.cell? ⟨g, o + 1, none⟩ = some (.int .u8 b1.toNat)) :
    Calls Tryz.prog 161 #[.agg #[], .slice (some ⟨g, o, none⟩) n c] w fun e w' => e = .returned (.int .u16 (Lib.beNat [b0, b1])) ∧ Below w.heap.size w w' := Any.binary_BE_Uint16 Tryz.laysBin36 g o n c b0 b1 w hn c0 c1
def Tryz.laysBin37_ren : Go.Shelf.Ren := ⟨fun | 37 => 160 | n => n, fun | 37 => 121 | 22 => 22 | 23 => 123 | 0 => 0 | 5 => 5 | 45 => 62 | n => n, fun | n => n⟩
theorem Tryz.laysBin37 : Go.Proofs.LaysBin.n37 Tryz.prog Tryz.laysBin37_ren := {
  mixed := by kernel_rfl
  f37 := Tryz.func160.trans (congrArg some (by kernel_rfl))
  t0 := Tryz.underlying0
  a0 := Tryz.isAgg0
  z0 := Tryz.sizeOf0
  v0 := Tryz.zeroValue0
  i0 := by kernel_rfl
  t5 := Tryz.underlying5
  a5 := Tryz.isAgg5
  z5 := Tryz.sizeOf5
  v5 := Tryz.zeroValue5
  i5 := by kernel_rfl
  t22 := Tryz.underlying22
  a22 := Tryz.isAgg22
  z22 := Tryz.sizeOf22
  v22 := Tryz.zeroValue22
  i22 := by kernel_rfl
  t23 := Tryz.underlying123
  a23 := Tryz.isAgg123
  z23 := Tryz.sizeOf123
  v23 := Tryz.zeroValue123
  i23 := by kernel_rfl
  t37 := Tryz.underlying121
  a37 := Tryz.isAgg121
  z37 := Tryz.sizeOf121
  v37 := Tryz.zeroValue121
  i37 := by kernel_rfl
  t45 := Tryz.underlying62
  a45 := Tryz.isAgg62
  z45 := Tryz.sizeOf62
  v45 := Tryz.zeroValue62
  i45 := by kernel_rfl }
open Go.RowKit in
theorem Tryz.binary_BE_PutUint16 (g o n c v : Nat) (hv : v < 65536) (x0 x1 : Value) (w : World) (hn : 2 ≤ n) (c0 : w.cell? ⟨g, o, none⟩ = some x0) (c1 : w.cell? ⟨g, o + 1, none⟩ = some x1) (f0 : w.frozen? ⟨g, o, none⟩ = false) (f1 : w.frozen? ⟨g, o + 1, none⟩ = false) :
    Calls Tryz.prog 160 #[.agg #[], .slice (some ⟨g, o, none⟩) n c, .int .u16 v] w fun e w' => e = .returned (.tuple #[]) ∧ w' = (w.alloc (.cells #[] 121)).setCells g o (Lib.byteCells (Lib.beBytes 2 v)) := Any.binary_BE_PutUint16 Tryz.laysBin37 g o n c v hv x0 x1 w hn c0 c1 f0 f1
def Tryz.laysBin46_ren : Go.Shelf.Ren := ⟨fun | 46 => 102 | n => n, fun | 22 => 22 | 33 => 23 | 3 => 3 | 4 => 4 | 5 => 5 | 0 => 0 | 45 => 62 | n => n, fun | n => n⟩
theorem Tryz.laysBin46 : Go.Proofs.LaysBin.n46 Tryz.prog Tryz.laysBin46_ren := {
  mixed := by kernel_rfl
  f46 := Tryz.func102.trans (congrArg some (by kernel_rfl))
  t0 := Tryz.underlying0
  a0 := Tryz.isAgg0
  z0 := Tryz.sizeOf0
  v0 := Tryz.zeroValue0
  i0 := by kernel_rfl
  t3 := Tryz.underlying3
  a3 := Tryz.isAgg3
  z3 := Tryz.sizeOf3
  v3 := Tryz.zeroValue3
  i3 := by kernel_rfl
  t4 := Tryz.underlying4
  a4 := Tryz.isAgg4
  z4 := Tryz.sizeOf4
  v4 := Tryz.zeroValue4
  i4 := by kernel_rfl
  t5 := Tryz.underlying5
  a5 := Tryz.isAgg5
  z5 := Tryz.sizeOf5
  v5 := Tryz.zeroValue5
  i5 := by kernel_rfl
  t22 := Tryz.underlying22
  a22 := Tryz.isAgg22
  z22 := Tryz.sizeOf22
  v22 := Tryz.zeroValue22
  i22 := by kernel_rfl
  t33 := Tryz.underlying23
  a33 := Tryz.isAgg23
  z33 := Tryz.sizeOf23
  v33 := Tryz.zeroValue23
  i33 := by kernel_rfl
  t45 := Tryz.underlying62
  a45 := Tryz.isAgg62
  z45 := Tryz.sizeOf62
  v45 := Tryz.zeroValue62
  i45 := by kernel_rfl }
open Go.RowKit in
theorem Tryz.binary_PutUvarint (g o n c x : Nat) (hx : x < 18446744073709551616) (w : World) (hn : (Lib.uvarint x).length ≤ n) (hcell : ∀ j, j < (Lib.uvarint x).length → (w.cell? ⟨g, o + j, none⟩).isSome = true ∧ w.frozen? ⟨g, o + j, none⟩ = false) :
    Calls Tryz.prog 102 #[.slice (some ⟨g, o, none⟩) n c, .int .u64 x] w fun e w' => e = .returned (.int .i64 (Lib.uvarint x).length) ∧ w' = w.setCells g o (Lib.byteCells (Lib.uvarint x)) := Any.binary_PutUvarint Tryz.laysBin46 g o n c x hx w hn hcell
def Tryz.laysPu14_ren : Go.Shelf.Ren := ⟨fun | 14 => 159 | 16 => 200 | 17 => 201 | 19 => 259 | 20 => 260 | 21 => 261 | 22 => 262 | 23 => 263 | 24 => 264 | 25 => 310 | 27 => 166 | 26 => 28 | 28 => 205 | 29 => 269 | 30 => 265 | 31 => 266 | 32 => 267 | 33 => 268 | 35 => 152 | 34 => 311 | 36 => 312 | 37 => 313 | 38 => 314 | 39 => 324 | 40 => 325 | n => n, fun | 9 => 9 | 3 => 3 | 22 => 23 | 24 => 50 | 25 => 118 | 4 => 4 | 34 => 197 | 5 => 5 | 36 => 62 | 37 => 22 | 0 => 0 | 39 => 200 | 21 => 21 | 44 => 254 | 47 => 107 | 50 => 72 | 48 => 70 | 2 => 2 | 52 => 203 | 55 => 204 | 59 => 256 | 60 => 213 | 20 => 20 | 61 => 257 | 65 => 207 | 66 => 214 | 67 => 98 | n => n, fun | 0 => 12 | 1 => 13 | 2 => 14 | 3 => 23 | 4 => 24 | n => n⟩
theorem Tryz.laysPu14 : Go.Proofs.LaysPu.n14 Tryz.prog Tryz.laysPu14_ren := {
  mixed := by kernel_rfl
  f14 := Tryz.func159.trans (congrArg some (by kernel_rfl))
  f16 := Tryz.func200.trans (congrArg some (by kernel_rfl))
  f17 := Tryz.func201.trans (congrArg some (by kernel_rfl))
  f19 := Tryz.func259.trans (congrArg some (by kernel_rfl))
  f20 := Tryz.func260.trans (congrArg some (by kernel_rfl))
  f21 := Tryz.func261.trans (congrArg some (by kernel_rfl))
  f22 := Tryz.func262.trans (congrArg some (by kernel_rfl))
  f23 := Tryz.func263.trans (congrArg some (by kernel_rfl))
  f24 := Tryz.func264.trans (congrArg some (by kernel_rfl))
  f25 := Tryz.func310.trans (congrArg some (by kernel_rfl))
  f26 := Tryz.func28.trans (congrArg some (by kernel_rfl))
  f27 := Tryz.func166.trans (congrArg some (by kernel_rfl))
  f28 := Tryz.func205.trans (congrArg some (by kernel_rfl))
  f29 := Tryz.func269.trans (congrArg some (by kernel_rfl))
  f30 := Tryz.func265.trans (congrArg some (by kernel_rfl))
  f31 := Tryz.func266.trans (congrArg some (by kernel_rfl))
  f32 := Tryz.func267.trans (congrArg some (by kernel_rfl))
  f33 := Tryz.func268.trans (congrArg some (by kernel_rfl))
  f34 := Tryz.func311.trans (congrArg some (by kernel_rfl))
  f35 := Tryz.func152.trans (congrArg some (by kernel_rfl))
  f36 := Tryz.func312.trans (congrArg some (by kernel_rfl))
  f37 := Tryz.func313.trans (congrArg some (by kernel_rfl))
  f38 := Tryz.func314.trans (congrArg some (by kernel_rfl))
  f39 := Tryz.func324.trans (congrArg some (by kernel_rfl))
  f40 := Tryz.func325.trans (congrArg some (by kernel_rfl))
  t0 := Tryz.underlying0
  a0 := Tryz.isAgg0
  z0 := Tryz.sizeOf0
  v0 := Tryz.zeroValue0
  i0 := by kernel_rfl
  t2 := Tryz.underlying2
  a2 := Tryz.isAgg2
  z2 := Tryz.sizeOf2
  v2 := Tryz.zeroValue2
  i2 := by kernel_rfl
  t3 := Tryz.underlying3
  a3 := Tryz.isAgg3
  z3 := Tryz.sizeOf3
  v3 := Tryz.zeroValue3
  i3 := by kernel_rfl
  t4 := Tryz.underlying4
  a4 := Tryz.isAgg4
  z4 := Tryz.sizeOf4
  v4 := Tryz.zeroValue4
  i4 := by kernel_rfl
  t5 := Tryz.underlying5
  a5 := Tryz.isAgg5
  z5 := Tryz.sizeOf5
  v5 := Tryz.zeroValue5
  i5 := by kernel_rfl
  t9 := Tryz.underlying9
  a9 := Tryz.isAgg9
  z9 := Tryz.sizeOf9
  v9 := Tryz.zeroValue9
  i9 := by kernel_rfl
  t20 := Tryz.underlying20
  a20 := Tryz.isAgg20
  z20 := Tryz.sizeOf20
  v20 := Tryz.zeroValue20
  i20 := by kernel_rfl
  t21 := Tryz.underlying21
  a21 := Tryz.isAgg21
  z21 := Tryz.sizeOf21
  v21 := Tryz.zeroValue21
  i21 := by kernel_rfl
  t22 := Tryz.underlying23
  a22 := Tryz.isAgg23
  z22 := Tryz.sizeOf23
  v22 := Tryz.zeroValue23
  i22 := by kernel_rfl
  t24 := Tryz.underlying50
  a24 := Tryz.isAgg50
  z24 := Tryz.sizeOf50
  v24 := Tryz.zeroValue50
  i24 := by kernel_rfl
  t25 := Tryz.underlying118
  a25 := Tryz.isAgg118
  z25 := Tryz.sizeOf118
  v25 := Tryz.zeroValue118
  i25 := by kernel_rfl
  t34 := Tryz.underlying197
  a34 := Tryz.isAgg197
  z34 := Tryz.sizeOf197
  v34 := Tryz.zeroValue197
  i34 := by kernel_rfl
  c34 := by kernel_rfl
  t36 := Tryz.underlying62
  a36 := Tryz.isAgg62
  z36 := Tryz.sizeOf62
  v36 := Tryz.zeroValue62
  i36 := by kernel_rfl
  t37 := Tryz.underlying22
  a37 := Tryz.isAgg22
  z37 := Tryz.sizeOf22
  v37 := Tryz.zeroValue22
  i37 := by kernel_rfl
  t39 := Tryz.underlying200
  a39 := Tryz.isAgg200
  z39 := Tryz.sizeOf200
  v39 := Tryz.zeroValue200
  i39 := by kernel_rfl
  t44 := Tryz.underlying254
  a44 := Tryz.isAgg254
  z44 := Tryz.sizeOf254
  v44 := Tryz.zeroValue254
  i44 := by kernel_rfl
  t47 := Tryz.underlying107
  a47 := Tryz.isAgg107
  z47 := Tryz.sizeOf107
  v47 := Tryz.zeroValue107
  i47 := by kernel_rfl
  t48 := Tryz.underlying70
  a48 := Tryz.isAgg70
  z48 := Tryz.sizeOf70
  v48 := Tryz.zeroValue70
  i48 := by kernel_rfl
  t50 := Tryz.underlying72
  a50 := Tryz.isAgg72
  z50 := Tryz.sizeOf72
  v50 := Tryz.zeroValue72
  i50 := by kernel_rfl
  t52 := Tryz.underlying203
  a52 := Tryz.isAgg203
  z52 := Tryz.sizeOf203
  v52 := Tryz.zeroValue203
  i52 := by kernel_rfl
  t55 := Tryz.underlying204
  a55 := Tryz.isAgg204
  z55 := Tryz.sizeOf204
  v55 := Tryz.zeroValue204
  i55 := by kernel_rfl
  t59 := Tryz.underlying256
  a59 := Tryz.isAgg256
  z59 := Tryz.sizeOf256
  v59 := Tryz.zeroValue256
  i59 := by kernel_rfl
  t60 := Tryz.underlying213
  a60 := Tryz.isAgg213
  z60 := Tryz.sizeOf213
  v60 := Tryz.zeroValue213
  i60 := by kernel_rfl
  t61 := Tryz.underlying257
  a61 := Tryz.isAgg257
  z61 := Tryz.sizeOf257
  t65 := Tryz.underlying207
  a65 := Tryz.isAgg207
  z65 := Tryz.sizeOf207
  v65 := Tryz.zeroValue207
  i65 := by kernel_rfl
  t66 := Tryz.underlying214
  a66 := Tryz.isAgg214
  z66 := Tryz.sizeOf214
  v66 := Tryz.zeroValue214
  i66 := by kernel_rfl
  t67 := Tryz.underlying98
  a67 := Tryz.isAgg98
  z67 := Tryz.sizeOf98
  v67 := Tryz.zeroValue98
  i67 := by kernel_rfl
  g0 := by kernel_rfl
  m0 := by kernel_rfl
  g1 := by kernel_rfl
  m1 := by kernel_rfl
  g2 := by kernel_rfl
  m2 := by kernel_rfl
  g3 := by kernel_rfl
  m3 := by kernel_rfl
  g4 := by kernel_rfl
  m4 := by kernel_rfl }
open Go.RowKit in
theorem Tryz.strconv_ParseUint_10_at16_ok (s : ByteArray) (hmax : s.size ≤ 9223372036854775806) (u : Nat) (h : Lib.parseUintB 16 s.data.toList = .ok u) (w : World) :
    Calls Tryz.prog 159 #[.string s, .int .i64 10, .int .i64 16] w fun e w' => e = .returned (.tuple #[.int .u64 u, .nilIface]) ∧ (w' = w ∨ w' = Lib.bytesWorld w 5 s) := Any.strconv_ParseUint_10_at16_ok Tryz.laysPu14 s hmax u h w
def Tryz.lays99_ren : Go.Shelf.Ren := ⟨fun | 99 => 181 | 206 => 249 | n => n, fun | 9 => 9 | 4 => 4 | 3 => 3 | n => n, fun | n => n⟩
theorem Tryz.lays99 : Go.Proofs.Lays.n99 Tryz.prog Tryz.lays99_ren := {
  mixed := by kernel_rfl
  f99 := Tryz.func181.trans (congrArg some (by kernel_rfl))
  f206 := Tryz.func249.trans (congrArg some (by kernel_rfl))
  t3 := Tryz.underlying3
  a3 := Tryz.isAgg3
  z3 := Tryz.sizeOf3
  v3 := Tryz.zeroValue3
  t4 := Tryz.underlying4
  a4 := Tryz.isAgg4
  z4 := Tryz.sizeOf4
  v4 := Tryz.zeroValue4
  t9 := Tryz.underlying9
  a9 := Tryz.isAgg9
  z9 := Tryz.sizeOf9
  v9 := Tryz.zeroValue9 }
open Go.RowKit Go.Lib in
theorem Tryz.strings_HasPrefix (s p : ByteArray) (w : World) :
    Calls Tryz.prog 181 #[.string s, .string p] w fun e w' => e = .returned (.bool (Lib.hasPrefix s.data.toList p.data.toList)) ∧ w' = w := Any.strings_HasPrefix Tryz.lays99 s p w
def Tryz.lays187_ren : Go.Shelf.Ren := ⟨fun | 187 => 163 | 255 => 203 | n => n, fun | 37 => 22 | 5 => 5 | 3 => 3 | n => n, fun | n => n⟩
theorem Tryz.lays187 : Go.Proofs.Lays.n187 Tryz.prog Tryz.lays187_ren := {
  mixed := by kernel_rfl
  f187 := Tryz.func163.trans (congrArg some (by kernel_rfl))
  f255 := Tryz.func203.trans (congrArg some (by kernel_rfl))
  t3 := Tryz.underlying3
  a3 := Tryz.isAgg3
  z3 := Tryz.sizeOf3
  v3 := Tryz.zeroValue3
  t5 := Tryz.underlying5
  a5 := Tryz.isAgg5
  z5 := Tryz.sizeOf5
  v5 := Tryz.zeroValue5
  t37 := Tryz.underlying22
  a37 := Tryz.isAgg22
  z37 := Tryz.sizeOf22
  v37 := Tryz.zeroValue22 }
open Go.Proofs Go.RowKit Go.Lib in
theorem Tryz.bytes_IndexByte_bytes (b o cap : Nat) (t : ByteArray) (cv : Int) (w : World) (hc : Lib.Bytes w b o t) :
    Calls Tryz.prog 163 #[.slice (some ⟨b, o, none⟩) t.size cap, .int .u8 cv] w fun e w' => e = .returned (.int .i64 (Lib.indexByte t.data.toList cv.toNat.toUInt8)) ∧ w' = w := Any.bytes_IndexByte_bytes Tryz.lays187 b o cap t cv w hc
def Tryz.lays115_ren : Go.Shelf.Ren := ⟨fun | 115 => 194 | n => n, fun | 37 => 22 | 4 => 4 | 9 => 9 | 5 => 5 | n => n, fun | n => n⟩
theorem Tryz.lays115 : Go.Proofs.Lays.n115 Tryz.prog Tryz.lays115_ren := {
  mixed := by kernel_rfl
  f115 := Tryz.func194.trans (congrArg some (by kernel_rfl))
  t4 := Tryz.underlying4
  a4 := Tryz.isAgg4
  z4 := Tryz.sizeOf4
  v4 := Tryz.zeroValue4
  t9 := Tryz.underlying9
  a9 := Tryz.isAgg9
  z9 := Tryz.sizeOf9
  v9 := Tryz.zeroValue9
  t37 := Tryz.underlying22
  a37 := Tryz.isAgg22
  z37 := Tryz.sizeOf22
  v37 := Tryz.zeroValue22 }
open Go.Proofs Go.RowKit Go.Lib in
theorem Tryz.bytes_Equal_strs (v1 v2 : Value) (t1 t2 : ByteArray) (w : World) (h1 : (convert 22 9 v1).run Tryz.prog w = .ok (.string t1) w) (h2 : (convert 22 9 v2).run Tryz.prog w = .ok (.string t2) w) :
    Calls Tryz.prog 194 #[v1, v2] w fun e w' => e = .returned (.bool (t1.toList == t2.toList)) ∧ w' = w := Any.bytes_Equal_strs Tryz.lays115 v1 v2 t1 t2 w h1 h2
def Tryz.laysPah43_ren : Go.Shelf.Ren := ⟨fun | 43 => 218 | 42 => 279 | 44 => 280 | n => n, fun | 9 => 9 | 30 => 22 | 35 => 50 | 3 => 3 | 38 => 81 | 4 => 4 | 0 => 0 | 5 => 5 | 47 => 266 | 46 => 62 | 45 => 98 | n => n, fun | 0 => 17 | n => n⟩
theorem Tryz.laysPah43 : Go.Proofs.Lays.ph43 Tryz.prog Tryz.laysPah43_ren := {
  mixed := by kernel_rfl
  f42 := Tryz.func279.trans (congrArg some (by kernel_rfl))
  f43 := Tryz.func218.trans (congrArg some (by kernel_rfl))
  f44 := Tryz.func280.trans (congrArg some (by kernel_rfl))
  t0 := Tryz.underlying0
  a0 := Tryz.isAgg0
  z0 := Tryz.sizeOf0
  v0 := Tryz.zeroValue0
  t3 := Tryz.underlying3
  a3 := Tryz.isAgg3
  z3 := Tryz.sizeOf3
  v3 := Tryz.zeroValue3
  t4 := Tryz.underlying4
  a4 := Tryz.isAgg4
  z4 := Tryz.sizeOf4
  v4 := Tryz.zeroValue4
  t5 := Tryz.underlying5
  a5 := Tryz.isAgg5
  z5 := Tryz.sizeOf5
  v5 := Tryz.zeroValue5
  t9 := Tryz.underlying9
  a9 := Tryz.isAgg9
  z9 := Tryz.sizeOf9
  v9 := Tryz.zeroValue9
  t30 := Tryz.underlying22
  a30 := Tryz.isAgg22
  z30 := Tryz.sizeOf22
  v30 := Tryz.zeroValue22
  t35 := Tryz.underlying50
  a35 := Tryz.isAgg50
  z35 := Tryz.sizeOf50
  v35 := Tryz.zeroValue50
  t38 := Tryz.underlying81
  a38 := Tryz.isAgg81
  z38 := Tryz.sizeOf81
  v38 := Tryz.zeroValue81
  t45 := Tryz.underlying98
  a45 := Tryz.isAgg98
  z45 := Tryz.sizeOf98
  v45 := Tryz.zeroValue98
  t46 := Tryz.underlying62
  a46 := Tryz.isAgg62
  z46 := Tryz.sizeOf62
  v46 := Tryz.zeroValue62
  t47 := Tryz.underlying266
  a47 := Tryz.isAgg266
  z47 := Tryz.sizeOf266
  v47 := Tryz.zeroValue266
  g0 := by kernel_rfl
  info5 := by kernel_rfl }
open Go.RowKit Go.Lib in
theorem Tryz.hex_DecodeString_owns (s : ByteArray) (w : World) (ev : Value) (hE : w.cell? ⟨17, 0, none⟩ = some ev) (hbig : s.size ≤ 281474976710656) :
    Calls Tryz.prog 218 #[.string s] w fun e w' => ∃ v, e = .returned (.tuple #[v, Hx.errVal 266 ev (Hx.decode s.data.toList).2]) ∧
      w'.ownsRow w.heap.size 5 1 v (Hx.decode s.data.toList).1.length ((Hx.decode s.data.toList).1.map fun b => Value.int .u8 (b.toNat : Int)) ∧ Below w.heap.size w w' := Any.hex_DecodeString_owns Tryz.laysPah43 s w ev hE hbig
end Go.Proofs
