/- The library's contracts at this translation, laid by the kit's tools (lay-shelf, lay-plain), cut down to those that are used. -/
import Derived.Test.YtjapgpmoojfhnaaGreatDoorProg
import Derived.Shelf.Strings.Builder1
import Derived.Shelf.Strings.Builder2
import Derived.Shelf.Strings.Trim
import Derived.Shelf.Small.Utf8
import Derived.Shelf.Small.Strs
import Derived.Shelf.Small.Wraps
import Derived.Shelf.Strings.BuilderF
import Derived.Shelf.Strings.BuilderK
import Derived.Shelf.Strings.Builder2Cap
import Derived.Shelf.Strconv.Atoi
import Derived.Shelf.Strconv.Itoa0
import Derived.Shelf.Strconv.Itoa1
import Derived.Shelf.LaysM
import Derived.Shelf.Strconv.Itoa2
import Derived.Shelf.Strconv.Itoa3
import Derived.Shelf.Strconv.AtoiErrFast
import Derived.Shelf.Strconv.ParseIntEmpty
import Derived.Shelf.Strconv.AtoiFail
import Derived.Shelf.Strconv.Clone
import Derived.Shelf.Strconv.SyntaxError
import Derived.Shelf.LaysC
import Derived.Shelf.Strconv.ToError
import Derived.Shelf.Strconv.Lower
import Derived.Shelf.Strconv.ParseUint10
import Derived.Shelf.Strconv.ParseUint10Empty
import Derived.Shelf.Strconv.ParseUint10Any
import Derived.Shelf.Strconv.ParseInt10
import Derived.Shelf.Strconv.AtoiLong
import Derived.Shelf.Strconv.AtoiInnerAll
import Derived.Shelf.Strconv.RangeError
import Derived.Shelf.Strconv.ToErrorRange
import Derived.Shelf.Strconv.AtoiAll
import Derived.Shelf.Strconv.ErrVarAll
import Derived.Shelf.Strconv.ParseUintEmpty
import Derived.Ground.MpProg
import Derived.Shelf.Pu.ParseUintPublic10
import Derived.Shelf.Pu.ErrVarParseUint
import Derived.Shelf.Strings.Search1
import Derived.Shelf.Strings.Search2
import Derived.Shelf.Strings.Cut
import Derived.Shelf.Strings.Shaped
import Derived.Shelf.Strings.Prefix
import Derived.Shelf.Unicode.Decode
import Derived.Shelf.Strings.Runes
import Derived.Shelf.Strings.AsciiSet
import Derived.Shelf.Bits.Mul64
import Derived.Shelf.Strings.Repeat
import Derived.Shelf.Unicode.DecodeSlow
import Derived.Shelf.Unicode.DecodeAny
import Derived.Shelf.Unicode.DecodeLast
import Derived.Shelf.Strings.BuilderCap
set_option maxHeartbeats 16000000
set_option maxRecDepth 100000
set_option linter.unusedSimpArgs false
set_option linter.unusedVariables false
namespace Go.Proofs
open Go.Shelf
def Tryz.lays169_ren : Go.Shelf.Ren := ⟨fun | 169 => 123 | n => n, fun | 70 => 157 | 9 => 9 | 0 => 0 | 72 => 159 | 37 => 31 | 127 => 189 | 3 => 3 | 5 => 5 | n => n, fun | n => n⟩
theorem Tryz.lays169 : Go.Proofs.Lays.n169 Tryz.prog Tryz.lays169_ren := {
 mixed := by kernel_rfl
 f169 := Tryz.func123.trans (congrArg some (by kernel_rfl))
 t0 := Tryz.underlying0
 a0 := Tryz.isAgg0
 z0 := Tryz.sizeOf0
 v0 := Tryz.zeroValue0
 t3 := Tryz.underlying3
 a3 := Tryz.isAgg3
 z3 := Tryz.sizeOf3
 v3 := Tryz.zeroValue3
 t9 := Tryz.underlying9
 a9 := Tryz.isAgg9
 z9 := Tryz.sizeOf9
 v9 := Tryz.zeroValue9
 t37 := Tryz.underlying31
 a37 := Tryz.isAgg31
 z37 := Tryz.sizeOf31
 v37 := Tryz.zeroValue31
 t70 := Tryz.underlying157
 a70 := Tryz.isAgg157
 z70 := Tryz.sizeOf157
 v70 := Tryz.zeroValue157
 t72 := Tryz.underlying159
 a72 := Tryz.isAgg159
 z72 := Tryz.sizeOf159
 v72 := Tryz.zeroValue159
 t127 := Tryz.underlying189
 a127 := Tryz.isAgg189
 z127 := Tryz.sizeOf189
 v127 := Tryz.zeroValue189 }
theorem Tryz.Builder_Extra_169 : Builder.Extra Tryz.prog Tryz.lays169_ren := {
 sizeBuilder := by kernel_rfl
 liesBuilder := by kernel_rfl
 t5 := Tryz.underlying5
 a5 := Tryz.isAgg5
 z5 := Tryz.sizeOf5
 v5 := Tryz.zeroValue5
 infoByte := by kernel_rfl
 cellsByte := by kernel_rfl
 sizeByte := by kernel_rfl
 neB5 := by decide }
open Go.RowKit in
theorem Tryz.Builder_String_any (B b : Nat) (l : List UInt8) (w : World) (h : Lib.IsBuilder 159 5 B b (Lib.byteCells l) w) (hBw : B ≤ w.heap.size) :
 Calls Tryz.prog 123 #[.pointer (some ⟨b, 0, none⟩)] w fun e w' => e = .returned (.string ⟨l.toArray⟩) ∧ Below B w w' := Any.Builder_String_any Tryz.lays169 Tryz.Builder_Extra_169 B b l w h hBw
def Tryz.lays161_ren : Go.Shelf.Ren := ⟨fun | 161 => 150 | 231 => 179 | 227 => 156 | 233 => 180 | 235 => 181 | 228 => 184 | 197 => 202 | 151 => 186 | 260 => 217 | 152 => 204 | 137 => 106 | 119 => 218 | 224 => 162 | 225 => 161 | 217 => 142 | 266 => 172 | n => n, fun | 9 => 9 | 4 => 4 | 3 => 3 | 5 => 5 | 117 => 193 | 116 => 192 | 0 => 0 | 124 => 196 | 105 => 215 | 21 => 21 | 119 => 265 | 46 => 51 | 139 => 268 | 138 => 267 | n => n, fun | 3 => 15 | 4 => 16 | n => n⟩
theorem Tryz.lays161 : Go.Proofs.Lays.n161 Tryz.prog Tryz.lays161_ren := {
 mixed := by kernel_rfl
 f119 := Tryz.func218.trans (congrArg some (by kernel_rfl))
 f137 := Tryz.func106.trans (congrArg some (by kernel_rfl))
 f151 := Tryz.func186.trans (congrArg some (by kernel_rfl))
 f152 := Tryz.func204.trans (congrArg some (by kernel_rfl))
 f161 := Tryz.func150.trans (congrArg some (by kernel_rfl))
 f197 := Tryz.func202.trans (congrArg some (by kernel_rfl))
 f217 := Tryz.func142.trans (congrArg some (by kernel_rfl))
 f224 := Tryz.func162.trans (congrArg some (by kernel_rfl))
 f225 := Tryz.func161.trans (congrArg some (by kernel_rfl))
 f227 := Tryz.func156.trans (congrArg some (by kernel_rfl))
 f228 := Tryz.func184.trans (congrArg some (by kernel_rfl))
 f231 := Tryz.func179.trans (congrArg some (by kernel_rfl))
 f233 := Tryz.func180.trans (congrArg some (by kernel_rfl))
 f235 := Tryz.func181.trans (congrArg some (by kernel_rfl))
 f260 := Tryz.func217.trans (congrArg some (by kernel_rfl))
 f266 := Tryz.func172.trans (congrArg some (by kernel_rfl))
 t0 := Tryz.underlying0
 a0 := Tryz.isAgg0
 z0 := Tryz.sizeOf0
 v0 := Tryz.zeroValue0
 t3 := Tryz.underlying3
 a3 := Tryz.isAgg3
 z3 := Tryz.sizeOf3
 v3 := Tryz.zeroValue3
 t4 := Tryz.underlying4
 a4 := Tryz.isAgg4
 z4 := Tryz.sizeOf4
 v4 := Tryz.zeroValue4
 t5 := Tryz.underlying5
 a5 := Tryz.isAgg5
 z5 := Tryz.sizeOf5
 v5 := Tryz.zeroValue5
 t9 := Tryz.underlying9
 a9 := Tryz.isAgg9
 z9 := Tryz.sizeOf9
 v9 := Tryz.zeroValue9
 t21 := Tryz.underlying21
 a21 := Tryz.isAgg21
 z21 := Tryz.sizeOf21
 v21 := Tryz.zeroValue21
 t46 := Tryz.underlying51
 a46 := Tryz.isAgg51
 z46 := Tryz.sizeOf51
 v46 := Tryz.zeroValue51
 t105 := Tryz.underlying215
 a105 := Tryz.isAgg215
 z105 := Tryz.sizeOf215
 v105 := Tryz.zeroValue215
 t116 := Tryz.underlying192
 a116 := Tryz.isAgg192
 z116 := Tryz.sizeOf192
 t117 := Tryz.underlying193
 a117 := Tryz.isAgg193
 z117 := Tryz.sizeOf193
 v117 := Tryz.zeroValue193
 t119 := Tryz.underlying265
 a119 := Tryz.isAgg265
 z119 := Tryz.sizeOf265
 t124 := Tryz.underlying196
 a124 := Tryz.isAgg196
 z124 := Tryz.sizeOf196
 v124 := Tryz.zeroValue196
 t138 := Tryz.underlying267
 a138 := Tryz.isAgg267
 z138 := Tryz.sizeOf267
 v138 := Tryz.zeroValue267
 t139 := Tryz.underlying268
 a139 := Tryz.isAgg268
 z139 := Tryz.sizeOf268
 v139 := Tryz.zeroValue268
 g3 := by kernel_rfl
 g4 := by kernel_rfl }
open Go.RowKit in
theorem Tryz.strings_TrimLeft_one (s : ByteArray) (c : UInt8) (hc : c.toNat < 128) (w : World) :
 Calls Tryz.prog 150 #[.string s, .string ⟨#[c]⟩] w fun e w' => e = .returned (.string ⟨(Lib.trimLeftB s.data.toList c).toArray⟩) ∧ w' = w := Any.strings_TrimLeft_one Tryz.lays161 s c hc w
def Tryz.lays162_ren : Go.Shelf.Ren := ⟨fun | 162 => 124 | 232 => 155 | 227 => 156 | 234 => 157 | 236 => 158 | 228 => 184 | 271 => 185 | 151 => 186 | 120 => 203 | 197 => 202 | 152 => 204 | 260 => 217 | 137 => 106 | 119 => 218 | 224 => 162 | 225 => 161 | 217 => 142 | 266 => 172 | n => n, fun | 9 => 9 | 4 => 4 | 3 => 3 | 5 => 5 | 117 => 193 | 116 => 192 | 0 => 0 | 124 => 196 | 21 => 21 | 105 => 215 | 46 => 51 | 119 => 265 | 139 => 268 | 138 => 267 | n => n, fun | 3 => 15 | 4 => 16 | n => n⟩
theorem Tryz.lays162 : Go.Proofs.Lays.n162 Tryz.prog Tryz.lays162_ren := {
 mixed := by kernel_rfl
 f119 := Tryz.func218.trans (congrArg some (by kernel_rfl))
 f120 := Tryz.func203.trans (congrArg some (by kernel_rfl))
 f137 := Tryz.func106.trans (congrArg some (by kernel_rfl))
 f151 := Tryz.func186.trans (congrArg some (by kernel_rfl))
 f152 := Tryz.func204.trans (congrArg some (by kernel_rfl))
 f162 := Tryz.func124.trans (congrArg some (by kernel_rfl))
 f197 := Tryz.func202.trans (congrArg some (by kernel_rfl))
 f217 := Tryz.func142.trans (congrArg some (by kernel_rfl))
 f224 := Tryz.func162.trans (congrArg some (by kernel_rfl))
 f225 := Tryz.func161.trans (congrArg some (by kernel_rfl))
 f227 := Tryz.func156.trans (congrArg some (by kernel_rfl))
 f228 := Tryz.func184.trans (congrArg some (by kernel_rfl))
 f232 := Tryz.func155.trans (congrArg some (by kernel_rfl))
 f234 := Tryz.func157.trans (congrArg some (by kernel_rfl))
 f236 := Tryz.func158.trans (congrArg some (by kernel_rfl))
 f260 := Tryz.func217.trans (congrArg some (by kernel_rfl))
 f266 := Tryz.func172.trans (congrArg some (by kernel_rfl))
 f271 := Tryz.func185.trans (congrArg some (by kernel_rfl))
 t0 := Tryz.underlying0
 a0 := Tryz.isAgg0
 z0 := Tryz.sizeOf0
 v0 := Tryz.zeroValue0
 t3 := Tryz.underlying3
 a3 := Tryz.isAgg3
 z3 := Tryz.sizeOf3
 v3 := Tryz.zeroValue3
 t4 := Tryz.underlying4
 a4 := Tryz.isAgg4
 z4 := Tryz.sizeOf4
 v4 := Tryz.zeroValue4
 t5 := Tryz.underlying5
 a5 := Tryz.isAgg5
 z5 := Tryz.sizeOf5
 v5 := Tryz.zeroValue5
 t9 := Tryz.underlying9
 a9 := Tryz.isAgg9
 z9 := Tryz.sizeOf9
 v9 := Tryz.zeroValue9
 t21 := Tryz.underlying21
 a21 := Tryz.isAgg21
 z21 := Tryz.sizeOf21
 v21 := Tryz.zeroValue21
 t46 := Tryz.underlying51
 a46 := Tryz.isAgg51
 z46 := Tryz.sizeOf51
 v46 := Tryz.zeroValue51
 t105 := Tryz.underlying215
 a105 := Tryz.isAgg215
 z105 := Tryz.sizeOf215
 v105 := Tryz.zeroValue215
 t116 := Tryz.underlying192
 a116 := Tryz.isAgg192
 z116 := Tryz.sizeOf192
 t117 := Tryz.underlying193
 a117 := Tryz.isAgg193
 z117 := Tryz.sizeOf193
 v117 := Tryz.zeroValue193
 t119 := Tryz.underlying265
 a119 := Tryz.isAgg265
 z119 := Tryz.sizeOf265
 t124 := Tryz.underlying196
 a124 := Tryz.isAgg196
 z124 := Tryz.sizeOf196
 v124 := Tryz.zeroValue196
 t138 := Tryz.underlying267
 a138 := Tryz.isAgg267
 z138 := Tryz.sizeOf267
 v138 := Tryz.zeroValue267
 t139 := Tryz.underlying268
 a139 := Tryz.isAgg268
 z139 := Tryz.sizeOf268
 v139 := Tryz.zeroValue268
 g3 := by kernel_rfl
 g4 := by kernel_rfl }
open Go.RowKit in
theorem Tryz.strings_TrimRight_one (s : ByteArray) (c : UInt8) (hc : c.toNat < 128) (w : World) (hs : s.size ≤ 9223372036854775807) :
 Calls Tryz.prog 124 #[.string s, .string ⟨#[c]⟩] w fun e w' => e = .returned (.string ⟨(Lib.trimRightB s.data.toList c).toArray⟩) ∧ w' = w := Any.strings_TrimRight_one Tryz.lays162 s c hc w hs
def Tryz.lays106_ren : Go.Shelf.Ren := ⟨fun | 106 => 78 | 213 => 125 | 265 => 159 | n => n, fun | 9 => 9 | 3 => 3 | n => n, fun | n => n⟩
theorem Tryz.lays106 : Go.Proofs.Lays.n106 Tryz.prog Tryz.lays106_ren := {
 mixed := by kernel_rfl
 f106 := Tryz.func78.trans (congrArg some (by kernel_rfl))
 f213 := Tryz.func125.trans (congrArg some (by kernel_rfl))
 f265 := Tryz.func159.trans (congrArg some (by kernel_rfl))
 t3 := Tryz.underlying3
 a3 := Tryz.isAgg3
 z3 := Tryz.sizeOf3
 v3 := Tryz.zeroValue3
 t9 := Tryz.underlying9
 a9 := Tryz.isAgg9
 z9 := Tryz.sizeOf9
 v9 := Tryz.zeroValue9 }
open Go.RowKit in
theorem Tryz.strings_Compare (a b : ByteArray) (w : World) :
 Calls Tryz.prog 78 #[.string a, .string b] w fun e w' => e = .returned (.int .i64 (Lib.compareBytes a.data.toList b.data.toList)) ∧ w' = w := Any.strings_Compare Tryz.lays106 a b w
def Tryz.lays137_ren : Go.Shelf.Ren := ⟨fun | 137 => 106 | 217 => 142 | 266 => 172 | n => n, fun | 9 => 9 | 5 => 5 | 3 => 3 | n => n, fun | n => n⟩
theorem Tryz.lays137 : Go.Proofs.Lays.n137 Tryz.prog Tryz.lays137_ren := {
 mixed := by kernel_rfl
 f137 := Tryz.func106.trans (congrArg some (by kernel_rfl))
 f217 := Tryz.func142.trans (congrArg some (by kernel_rfl))
 f266 := Tryz.func172.trans (congrArg some (by kernel_rfl))
 t3 := Tryz.underlying3
 a3 := Tryz.isAgg3
 z3 := Tryz.sizeOf3
 v3 := Tryz.zeroValue3
 t5 := Tryz.underlying5
 a5 := Tryz.isAgg5
 z5 := Tryz.sizeOf5
 v5 := Tryz.zeroValue5
 t9 := Tryz.underlying9
 a9 := Tryz.isAgg9
 z9 := Tryz.sizeOf9
 v9 := Tryz.zeroValue9 }
open Go.RowKit in
theorem Tryz.strings_IndexByte (s : ByteArray) (c : Int) (w : World) :
 Calls Tryz.prog 106 #[.string s, .int .u8 c] w fun e w' => e = .returned (.int .i64 (Lib.indexByte s.data.toList c.toNat.toUInt8)) ∧ w' = w := Any.strings_IndexByte Tryz.lays137 s c w
def Tryz.lays103_ren : Go.Shelf.Ren := ⟨fun | 103 => 102 | 210 => 139 | 206 => 132 | n => n, fun | 9 => 9 | 4 => 4 | 24 => 139 | 3 => 3 | n => n, fun | n => n⟩
theorem Tryz.lays103 : Go.Proofs.Lays.n103 Tryz.prog Tryz.lays103_ren := {
 mixed := by kernel_rfl
 f103 := Tryz.func102.trans (congrArg some (by kernel_rfl))
 f206 := Tryz.func132.trans (congrArg some (by kernel_rfl))
 f210 := Tryz.func139.trans (congrArg some (by kernel_rfl))
 t3 := Tryz.underlying3
 a3 := Tryz.isAgg3
 z3 := Tryz.sizeOf3
 v3 := Tryz.zeroValue3
 t4 := Tryz.underlying4
 a4 := Tryz.isAgg4
 z4 := Tryz.sizeOf4
 v4 := Tryz.zeroValue4
 t9 := Tryz.underlying9
 a9 := Tryz.isAgg9
 z9 := Tryz.sizeOf9
 v9 := Tryz.zeroValue9
 t24 := Tryz.underlying139
 a24 := Tryz.isAgg139
 z24 := Tryz.sizeOf139
 v24 := Tryz.zeroValue139 }
open Go.RowKit in
theorem Tryz.strings_CutPrefix (s p : ByteArray) (w : World) :
 Calls Tryz.prog 102 #[.string s, .string p] w fun e w' => e = .returned (.tuple #[.string ⟨(Lib.trimPrefix s.data.toList p.data.toList).toArray⟩, .bool (Lib.hasPrefix s.data.toList p.data.toList)]) ∧ w' = w := Any.strings_CutPrefix Tryz.lays103 s p w
def Tryz.lays129_ren : Go.Shelf.Ren := ⟨fun | 129 => 67 | n => n, fun | 53 => 22 | 3 => 3 | 4 => 4 | 46 => 51 | 5 => 5 | 9 => 9 | n => n, fun | n => n⟩
theorem Tryz.lays129 : Go.Proofs.Lays.n129 Tryz.prog Tryz.lays129_ren := {
 mixed := by kernel_rfl
 f129 := Tryz.func67.trans (congrArg some (by kernel_rfl))
 t3 := Tryz.underlying3
 a3 := Tryz.isAgg3
 z3 := Tryz.sizeOf3
 v3 := Tryz.zeroValue3
 t4 := Tryz.underlying4
 a4 := Tryz.isAgg4
 z4 := Tryz.sizeOf4
 v4 := Tryz.zeroValue4
 t5 := Tryz.underlying5
 a5 := Tryz.isAgg5
 z5 := Tryz.sizeOf5
 v5 := Tryz.zeroValue5
 t9 := Tryz.underlying9
 a9 := Tryz.isAgg9
 z9 := Tryz.sizeOf9
 v9 := Tryz.zeroValue9
 t46 := Tryz.underlying51
 a46 := Tryz.isAgg51
 z46 := Tryz.sizeOf51
 v46 := Tryz.zeroValue51
 t53 := Tryz.underlying22
 a53 := Tryz.isAgg22
 z53 := Tryz.sizeOf22
 v53 := Tryz.zeroValue22 }
theorem Tryz.bits_Len64 (x : Int) (w : World) (h0 : 0 ≤ x) (h1 : x ≤ 18446744073709551615) :
 Calls Tryz.prog 67 #[.int .u64 x] w fun e w' => e = .returned (.int .i64 (Lib.bitLen x.toNat)) ∧ w' = w := Any.bits_Len64 Tryz.lays129 x w h0 h1
def Tryz.lays283_ren : Go.Shelf.Ren := ⟨fun | 283 => 146 | n => n, fun | 3 => 3 | 9 => 9 | 4 => 4 | n => n, fun | n => n⟩
theorem Tryz.lays283 : Go.Proofs.Lays.n283 Tryz.prog Tryz.lays283_ren := {
 mixed := by kernel_rfl
 f283 := Tryz.func146.trans (congrArg some (by kernel_rfl))
 t3 := Tryz.underlying3
 a3 := Tryz.isAgg3
 z3 := Tryz.sizeOf3
 v3 := Tryz.zeroValue3
 t4 := Tryz.underlying4
 a4 := Tryz.isAgg4
 z4 := Tryz.sizeOf4
 v4 := Tryz.zeroValue4
 t9 := Tryz.underlying9
 a9 := Tryz.isAgg9
 z9 := Tryz.sizeOf9
 v9 := Tryz.zeroValue9 }
open Go.Lib in
theorem Tryz.internal_strconv_small (i : Nat) (h : i < 100) (w : World) :
 Calls Tryz.prog 146 #[.int .i64 i] w fun e w' => e = .returned (.string ⟨(Lib.decDigits i).toArray⟩) ∧ w' = w := Any.internal_strconv_small Tryz.lays283 i h w
def Tryz.laysM284_ren : Go.Shelf.Ren := ⟨fun | 284 => 147 | 129 => 67 | 317 => 175 | 318 => 176 | n => n, fun | 53 => 22 | 3 => 3 | 212 => 208 | 0 => 0 | 4 => 4 | 46 => 51 | 5 => 5 | 9 => 9 | n => n, fun | 17 => 6 | n => n⟩
theorem Tryz.laysM284 : Go.Proofs.LaysM.n284 Tryz.prog Tryz.laysM284_ren := {
 mixed := by kernel_rfl
 f129 := Tryz.func67.trans (congrArg some (by kernel_rfl))
 f284 := Tryz.func147.trans (congrArg some (by kernel_rfl))
 f317 := Tryz.func175.trans (congrArg some (by kernel_rfl))
 f318 := Tryz.func176.trans (congrArg some (by kernel_rfl))
 t0 := Tryz.underlying0
 a0 := Tryz.isAgg0
 z0 := Tryz.sizeOf0
 v0 := Tryz.zeroValue0
 t3 := Tryz.underlying3
 a3 := Tryz.isAgg3
 z3 := Tryz.sizeOf3
 v3 := Tryz.zeroValue3
 t4 := Tryz.underlying4
 a4 := Tryz.isAgg4
 z4 := Tryz.sizeOf4
 v4 := Tryz.zeroValue4
 t5 := Tryz.underlying5
 a5 := Tryz.isAgg5
 z5 := Tryz.sizeOf5
 v5 := Tryz.zeroValue5
 t9 := Tryz.underlying9
 a9 := Tryz.isAgg9
 z9 := Tryz.sizeOf9
 v9 := Tryz.zeroValue9
 t46 := Tryz.underlying51
 a46 := Tryz.isAgg51
 z46 := Tryz.sizeOf51
 v46 := Tryz.zeroValue51
 t53 := Tryz.underlying22
 a53 := Tryz.isAgg22
 z53 := Tryz.sizeOf22
 v53 := Tryz.zeroValue22
 t212 := Tryz.underlying208
 a212 := Tryz.isAgg208
 z212 := Tryz.sizeOf208
 v212 := Tryz.zeroValue208
 g17 := by kernel_rfl
 i0 := by kernel_rfl
 i3 := by kernel_rfl
 i4 := by kernel_rfl
 i5 := by kernel_rfl
 i9 := by kernel_rfl
 i46 := by kernel_rfl
 i53 := by kernel_rfl
 i212 := by kernel_rfl
 m17 := by kernel_rfl }
open Go.Lib in
theorem Tryz.internal_strconv_numDigits (u : Nat) (h1 : 1 ≤ u) (h2 : u < 18446744073709551616) (w : World) (htab : Lib.TabIs Tryz.prog w "internal/strconv.uint64pow10" .u64 Lib.pow10Tab) :
 Calls Tryz.prog 147 #[.int .u64 u] w fun e w' => e = .returned (.int .i64 (Lib.nDigits u)) ∧ w' = w := Any.internal_strconv_numDigits Tryz.laysM284 u h1 h2 w htab
def Tryz.lays285_ren : Go.Shelf.Ren := ⟨fun | 285 => 148 | n => n, fun | 37 => 31 | 53 => 22 | 3 => 3 | 4 => 4 | 51 => 61 | 9 => 9 | 5 => 5 | 0 => 0 | n => n, fun | n => n⟩
theorem Tryz.lays285 : Go.Proofs.Lays.n285 Tryz.prog Tryz.lays285_ren := {
 mixed := by kernel_rfl
 f285 := Tryz.func148.trans (congrArg some (by kernel_rfl))
 t0 := Tryz.underlying0
 a0 := Tryz.isAgg0
 z0 := Tryz.sizeOf0
 v0 := Tryz.zeroValue0
 t3 := Tryz.underlying3
 a3 := Tryz.isAgg3
 z3 := Tryz.sizeOf3
 v3 := Tryz.zeroValue3
 t4 := Tryz.underlying4
 a4 := Tryz.isAgg4
 z4 := Tryz.sizeOf4
 v4 := Tryz.zeroValue4
 t5 := Tryz.underlying5
 a5 := Tryz.isAgg5
 z5 := Tryz.sizeOf5
 v5 := Tryz.zeroValue5
 t9 := Tryz.underlying9
 a9 := Tryz.isAgg9
 z9 := Tryz.sizeOf9
 v9 := Tryz.zeroValue9
 t37 := Tryz.underlying31
 a37 := Tryz.isAgg31
 z37 := Tryz.sizeOf31
 v37 := Tryz.zeroValue31
 t51 := Tryz.underlying61
 a51 := Tryz.isAgg61
 z51 := Tryz.sizeOf61
 v51 := Tryz.zeroValue61
 t53 := Tryz.underlying22
 a53 := Tryz.isAgg22
 z53 := Tryz.sizeOf22
 v53 := Tryz.zeroValue22 }
open Go.RowKit Go.Sort Go.Lib in
theorem Tryz.internal_strconv_formatBase10 (blk off cap : Nat) (u : Nat) (d : Array UInt8) (w : World) (hH : Holds (fun (b : UInt8) => Value.int .u8 (b.toNat : Int)) w blk off d) (hu : u < 10 ^ d.size) (hu64 : u < 18446744073709551616) (hsz : d.size < 4611686018427387904) :
 Calls Tryz.prog 148 #[.slice (some ⟨blk, off, none⟩) d.size cap, .int .u64 u] w fun e w' =>
  e = .returned (.tuple #[]) ∧ ∃ (n v' : Nat) (dk : Array UInt8), w' = (putRow (fun (b : UInt8) => Value.int .u8 (b.toNat : Int)) w blk off dk).drewN n ∧ FmtInv d.size u 0 v' dk := Any.internal_strconv_formatBase10 Tryz.lays285 blk off cap u d w hH hu hu64 hsz
def Tryz.laysM171_ren : Go.Shelf.Ren := ⟨fun | 171 => 101 | 243 => 138 | 246 => 168 | 283 => 146 | 284 => 147 | 285 => 148 | 286 => 149 | 129 => 67 | 317 => 175 | 318 => 176 | 319 => 177 | 320 => 178 | 337 => 201 | 338 => 82 | n => n, fun | 3 => 3 | 9 => 9 | 2 => 2 | 4 => 4 | 171 => 180 | 0 => 0 | 53 => 22 | 37 => 31 | 5 => 5 | 173 => 182 | 212 => 208 | 51 => 61 | 20 => 20 | 213 => 209 | 46 => 51 | 232 => 258 | 233 => 168 | n => n, fun | 17 => 6 | 18 => 13 | 19 => 2 | n => n⟩
theorem Tryz.laysM171 : Go.Proofs.LaysM.n171 Tryz.prog Tryz.laysM171_ren := {
 mixed := by kernel_rfl
 f129 := Tryz.func67.trans (congrArg some (by kernel_rfl))
 f171 := Tryz.func101.trans (congrArg some (by kernel_rfl))
 f243 := Tryz.func138.trans (congrArg some (by kernel_rfl))
 f246 := Tryz.func168.trans (congrArg some (by kernel_rfl))
 f283 := Tryz.func146.trans (congrArg some (by kernel_rfl))
 f284 := Tryz.func147.trans (congrArg some (by kernel_rfl))
 f285 := Tryz.func148.trans (congrArg some (by kernel_rfl))
 f286 := Tryz.func149.trans (congrArg some (by kernel_rfl))
 f317 := Tryz.func175.trans (congrArg some (by kernel_rfl))
 f318 := Tryz.func176.trans (congrArg some (by kernel_rfl))
 f319 := Tryz.func177.trans (congrArg some (by kernel_rfl))
 f320 := Tryz.func178.trans (congrArg some (by kernel_rfl))
 f337 := Tryz.func201.trans (congrArg some (by kernel_rfl))
 f338 := Tryz.func82.trans (congrArg some (by kernel_rfl))
 t0 := Tryz.underlying0
 a0 := Tryz.isAgg0
 z0 := Tryz.sizeOf0
 v0 := Tryz.zeroValue0
 t2 := Tryz.underlying2
 a2 := Tryz.isAgg2
 z2 := Tryz.sizeOf2
 v2 := Tryz.zeroValue2
 t3 := Tryz.underlying3
 a3 := Tryz.isAgg3
 z3 := Tryz.sizeOf3
 v3 := Tryz.zeroValue3
 t4 := Tryz.underlying4
 a4 := Tryz.isAgg4
 z4 := Tryz.sizeOf4
 v4 := Tryz.zeroValue4
 t5 := Tryz.underlying5
 a5 := Tryz.isAgg5
 z5 := Tryz.sizeOf5
 v5 := Tryz.zeroValue5
 t9 := Tryz.underlying9
 a9 := Tryz.isAgg9
 z9 := Tryz.sizeOf9
 v9 := Tryz.zeroValue9
 t20 := Tryz.underlying20
 a20 := Tryz.isAgg20
 z20 := Tryz.sizeOf20
 v20 := Tryz.zeroValue20
 t37 := Tryz.underlying31
 a37 := Tryz.isAgg31
 z37 := Tryz.sizeOf31
 v37 := Tryz.zeroValue31
 t46 := Tryz.underlying51
 a46 := Tryz.isAgg51
 z46 := Tryz.sizeOf51
 v46 := Tryz.zeroValue51
 t51 := Tryz.underlying61
 a51 := Tryz.isAgg61
 z51 := Tryz.sizeOf61
 v51 := Tryz.zeroValue61
 t53 := Tryz.underlying22
 a53 := Tryz.isAgg22
 z53 := Tryz.sizeOf22
 v53 := Tryz.zeroValue22
 t171 := Tryz.underlying180
 a171 := Tryz.isAgg180
 z171 := Tryz.sizeOf180
 v171 := Tryz.zeroValue180
 t173 := Tryz.underlying182
 a173 := Tryz.isAgg182
 z173 := Tryz.sizeOf182
 v173 := Tryz.zeroValue182
 t212 := Tryz.underlying208
 a212 := Tryz.isAgg208
 z212 := Tryz.sizeOf208
 v212 := Tryz.zeroValue208
 t213 := Tryz.underlying209
 a213 := Tryz.isAgg209
 z213 := Tryz.sizeOf209
 t232 := Tryz.underlying258
 a232 := Tryz.isAgg258
 z232 := Tryz.sizeOf258
 v232 := Tryz.zeroValue258
 t233 := Tryz.underlying168
 a233 := Tryz.isAgg168
 z233 := Tryz.sizeOf168
 v233 := Tryz.zeroValue168
 g17 := by kernel_rfl
 g18 := by kernel_rfl
 g19 := by kernel_rfl
 i0 := by kernel_rfl
 i2 := by kernel_rfl
 i3 := by kernel_rfl
 i4 := by kernel_rfl
 i5 := by kernel_rfl
 i9 := by kernel_rfl
 i20 := by kernel_rfl
 i37 := by kernel_rfl
 i46 := by kernel_rfl
 i51 := by kernel_rfl
 i53 := by kernel_rfl
 i171 := by kernel_rfl
 i173 := by kernel_rfl
 i212 := by kernel_rfl
 i232 := by kernel_rfl
 i233 := by kernel_rfl
 m17 := by kernel_rfl
 m18 := by kernel_rfl
 m19 := by kernel_rfl }
open Go.RowKit Go.Sort Go.Lib in
theorem Tryz.strconv_Itoa (n : Int) (h0 : -9223372036854775808 ≤ n) (h1 : n ≤ 9223372036854775807) (w : World) (htab : Lib.TabIs Tryz.prog w "internal/strconv.uint64pow10" .u64 Lib.pow10Tab) :
 Calls Tryz.prog 101 #[.int .i64 n] w fun e w' => e = .returned (.string ⟨(Lib.itoa n).toArray⟩) ∧ ∃ k os, w' = grow (w.drewN k) os := Any.strconv_Itoa Tryz.laysM171 n h0 h1 w htab
def Tryz.laysC172_ren : Go.Shelf.Ren := ⟨fun | 172 => 105 | 244 => 141 | 245 => 99 | 247 => 171 | 279 => 134 | 280 => 135 | 281 => 136 | 282 => 137 | 287 => 140 | 316 => 166 | 171 => 101 | 205 => 167 | 321 => 169 | 322 => 170 | 243 => 138 | 246 => 168 | 283 => 146 | 284 => 147 | 285 => 148 | 286 => 149 | 129 => 67 | 317 => 175 | 318 => 176 | 319 => 177 | 320 => 178 | 337 => 201 | 338 => 82 | n => n, fun | 9 => 9 | 3 => 3 | 75 => 97 | 76 => 144 | 4 => 4 | 5 => 5 | 167 => 173 | 37 => 31 | 0 => 0 | 85 => 205 | 2 => 2 | 168 => 174 | 53 => 22 | 175 => 142 | 46 => 51 | 210 => 201 | 127 => 189 | 145 => 242 | 143 => 240 | 21 => 21 | 171 => 180 | 173 => 182 | 212 => 208 | 51 => 61 | 20 => 20 | 213 => 209 | 232 => 258 | 233 => 168 | 80 => 29 | n => n, fun | 15 => 4 | 16 => 5 | 17 => 6 | 18 => 13 | 19 => 2 | n => n⟩
theorem Tryz.laysC172 : Go.Proofs.LaysC.n172 Tryz.prog Tryz.laysC172_ren := {
 mixed := by kernel_rfl
 f129 := Tryz.func67.trans (congrArg some (by kernel_rfl))
 f171 := Tryz.func101.trans (congrArg some (by kernel_rfl))
 f172 := Tryz.func105.trans (congrArg some (by kernel_rfl))
 f205 := Tryz.func167.trans (congrArg some (by kernel_rfl))
 f243 := Tryz.func138.trans (congrArg some (by kernel_rfl))
 f244 := Tryz.func141.trans (congrArg some (by kernel_rfl))
 f245 := Tryz.func99.trans (congrArg some (by kernel_rfl))
 f246 := Tryz.func168.trans (congrArg some (by kernel_rfl))
 f247 := Tryz.func171.trans (congrArg some (by kernel_rfl))
 f279 := Tryz.func134.trans (congrArg some (by kernel_rfl))
 f280 := Tryz.func135.trans (congrArg some (by kernel_rfl))
 f281 := Tryz.func136.trans (congrArg some (by kernel_rfl))
 f282 := Tryz.func137.trans (congrArg some (by kernel_rfl))
 f283 := Tryz.func146.trans (congrArg some (by kernel_rfl))
 f284 := Tryz.func147.trans (congrArg some (by kernel_rfl))
 f285 := Tryz.func148.trans (congrArg some (by kernel_rfl))
 f286 := Tryz.func149.trans (congrArg some (by kernel_rfl))
 f287 := Tryz.func140.trans (congrArg some (by kernel_rfl))
 f316 := Tryz.func166.trans (congrArg some (by kernel_rfl))
 f317 := Tryz.func175.trans (congrArg some (by kernel_rfl))
 f318 := Tryz.func176.trans (congrArg some (by kernel_rfl))
 f319 := Tryz.func177.trans (congrArg some (by kernel_rfl))
 f320 := Tryz.func178.trans (congrArg some (by kernel_rfl))
 f321 := Tryz.func169.trans (congrArg some (by kernel_rfl))
 f322 := Tryz.func170.trans (congrArg some (by kernel_rfl))
 f337 := Tryz.func201.trans (congrArg some (by kernel_rfl))
 f338 := Tryz.func82.trans (congrArg some (by kernel_rfl))
 t0 := Tryz.underlying0
 a0 := Tryz.isAgg0
 z0 := Tryz.sizeOf0
 v0 := Tryz.zeroValue0
 t2 := Tryz.underlying2
 a2 := Tryz.isAgg2
 z2 := Tryz.sizeOf2
 v2 := Tryz.zeroValue2
 t3 := Tryz.underlying3
 a3 := Tryz.isAgg3
 z3 := Tryz.sizeOf3
 v3 := Tryz.zeroValue3
 t4 := Tryz.underlying4
 a4 := Tryz.isAgg4
 z4 := Tryz.sizeOf4
 v4 := Tryz.zeroValue4
 t5 := Tryz.underlying5
 a5 := Tryz.isAgg5
 z5 := Tryz.sizeOf5
 v5 := Tryz.zeroValue5
 t9 := Tryz.underlying9
 a9 := Tryz.isAgg9
 z9 := Tryz.sizeOf9
 v9 := Tryz.zeroValue9
 t20 := Tryz.underlying20
 a20 := Tryz.isAgg20
 z20 := Tryz.sizeOf20
 v20 := Tryz.zeroValue20
 t21 := Tryz.underlying21
 a21 := Tryz.isAgg21
 z21 := Tryz.sizeOf21
 v21 := Tryz.zeroValue21
 t37 := Tryz.underlying31
 a37 := Tryz.isAgg31
 z37 := Tryz.sizeOf31
 v37 := Tryz.zeroValue31
 t46 := Tryz.underlying51
 a46 := Tryz.isAgg51
 z46 := Tryz.sizeOf51
 v46 := Tryz.zeroValue51
 t51 := Tryz.underlying61
 a51 := Tryz.isAgg61
 z51 := Tryz.sizeOf61
 v51 := Tryz.zeroValue61
 t53 := Tryz.underlying22
 a53 := Tryz.isAgg22
 z53 := Tryz.sizeOf22
 v53 := Tryz.zeroValue22
 t75 := Tryz.underlying97
 a75 := Tryz.isAgg97
 z75 := Tryz.sizeOf97
 v75 := Tryz.zeroValue97
 t76 := Tryz.underlying144
 a76 := Tryz.isAgg144
 z76 := Tryz.sizeOf144
 v76 := Tryz.zeroValue144
 t85 := Tryz.underlying205
 a85 := Tryz.isAgg205
 z85 := Tryz.sizeOf205
 v85 := Tryz.zeroValue205
 t127 := Tryz.underlying189
 a127 := Tryz.isAgg189
 z127 := Tryz.sizeOf189
 v127 := Tryz.zeroValue189
 t143 := Tryz.underlying240
 a143 := Tryz.isAgg240
 z143 := Tryz.sizeOf240
 v143 := Tryz.zeroValue240
 t145 := Tryz.underlying242
 a145 := Tryz.isAgg242
 z145 := Tryz.sizeOf242
 v145 := Tryz.zeroValue242
 t167 := Tryz.underlying173
 a167 := Tryz.isAgg173
 z167 := Tryz.sizeOf173
 v167 := Tryz.zeroValue173
 t168 := Tryz.underlying174
 a168 := Tryz.isAgg174
 z168 := Tryz.sizeOf174
 v168 := Tryz.zeroValue174
 t171 := Tryz.underlying180
 a171 := Tryz.isAgg180
 z171 := Tryz.sizeOf180
 v171 := Tryz.zeroValue180
 t173 := Tryz.underlying182
 a173 := Tryz.isAgg182
 z173 := Tryz.sizeOf182
 v173 := Tryz.zeroValue182
 t175 := Tryz.underlying142
 a175 := Tryz.isAgg142
 z175 := Tryz.sizeOf142
 v175 := Tryz.zeroValue142
 t210 := Tryz.underlying201
 a210 := Tryz.isAgg201
 z210 := Tryz.sizeOf201
 v210 := Tryz.zeroValue201
 t212 := Tryz.underlying208
 a212 := Tryz.isAgg208
 z212 := Tryz.sizeOf208
 v212 := Tryz.zeroValue208
 t213 := Tryz.underlying209
 a213 := Tryz.isAgg209
 z213 := Tryz.sizeOf209
 t232 := Tryz.underlying258
 a232 := Tryz.isAgg258
 z232 := Tryz.sizeOf258
 v232 := Tryz.zeroValue258
 t233 := Tryz.underlying168
 a233 := Tryz.isAgg168
 z233 := Tryz.sizeOf168
 v233 := Tryz.zeroValue168
 g15 := by kernel_rfl
 g16 := by kernel_rfl
 g17 := by kernel_rfl
 g18 := by kernel_rfl
 g19 := by kernel_rfl
 t80 := Tryz.underlying29
 a80 := Tryz.isAgg29
 z80 := Tryz.sizeOf29
 v80 := Tryz.zeroValue29
 i0 := by kernel_rfl
 i2 := by kernel_rfl
 i3 := by kernel_rfl
 i4 := by kernel_rfl
 i5 := by kernel_rfl
 i9 := by kernel_rfl
 i20 := by kernel_rfl
 i21 := by kernel_rfl
 i37 := by kernel_rfl
 i46 := by kernel_rfl
 i51 := by kernel_rfl
 i53 := by kernel_rfl
 i75 := by kernel_rfl
 i76 := by kernel_rfl
 i80 := by kernel_rfl
 i85 := by kernel_rfl
 i127 := by kernel_rfl
 i143 := by kernel_rfl
 i145 := by kernel_rfl
 i167 := by kernel_rfl
 i168 := by kernel_rfl
 i171 := by kernel_rfl
 i173 := by kernel_rfl
 i175 := by kernel_rfl
 i210 := by kernel_rfl
 i212 := by kernel_rfl
 i232 := by kernel_rfl
 i233 := by kernel_rfl
 m15 := by kernel_rfl
 m16 := by kernel_rfl
 m17 := by kernel_rfl
 m18 := by kernel_rfl
 m19 := by kernel_rfl
 c0 := by kernel_rfl
 c2 := by kernel_rfl
 c3 := by kernel_rfl
 c4 := by kernel_rfl
 c5 := by kernel_rfl
 c9 := by kernel_rfl
 c20 := by kernel_rfl
 c21 := by kernel_rfl
 c37 := by kernel_rfl
 c46 := by kernel_rfl
 c51 := by kernel_rfl
 c53 := by kernel_rfl
 c75 := by kernel_rfl
 c76 := by kernel_rfl
 c80 := by kernel_rfl
 c85 := by kernel_rfl
 c127 := by kernel_rfl
 c143 := by kernel_rfl
 c145 := by kernel_rfl
 c167 := by kernel_rfl
 c168 := by kernel_rfl
 c171 := by kernel_rfl
 c173 := by kernel_rfl
 c175 := by kernel_rfl
 c210 := by kernel_rfl
 c212 := by kernel_rfl
 c213 := by kernel_rfl
 c232 := by kernel_rfl
 c233 := by kernel_rfl }
open Go.RowKit in
theorem Tryz.strconv_Atoi_ok (s : ByteArray) (hmax : s.size ≤ 9223372036854775806) (v : Int) (h : Lib.atoiAll s.data.toList = .ok v) (w : World) :
 Calls Tryz.prog 105 #[.string s] w fun e w' => e = .returned (.tuple #[.int .i64 v, .nilIface]) ∧ (w' = w ∨ ∃ t, w' = Lib.bytesWorld w 5 t) := Any.strconv_Atoi_ok Tryz.laysC172 s hmax v h w
open Go.RowKit in
theorem Tryz.strconv_Atoi_bad (s : ByteArray) (hlim : s.size ≤ 281474976710656) (h1 : ∀ v, Lib.atoiAll s.data.toList ≠ .ok v) (h2 : Lib.atoiAll s.data.toList ≠ .range) (ev : Value) (w : World) (hv : w.cell? ⟨4, 0, none⟩ = some ev) (hev : ev = .nilIface ∨ ∃ te pe, ev = .iface te pe) :
 Calls Tryz.prog 105 #[.string s] w fun e w' => ∃ N, e = .returned (.tuple #[.int .i64 (0), .iface 174 (.pointer (some ⟨N, 0, none⟩))]) ∧ w.heap.size ≤ N ∧ w'.heap[N]? = some (.cells #[.string ⟨#[65, 116, 111, 105]⟩, .string s, ev] 201 (0, 0)) ∧ Below w.heap.size w w' := by
 cases h : Lib.atoiAll s.data.toList with
 | ok v => exact absurd h (h1 v)
 | range => exact absurd h h2
 | _ => exact Any.strconv_Atoi_syntax Tryz.laysC172 s hlim h ev w hv hev
open Go.RowKit in
theorem Tryz.strconv_Atoi_range (s : ByteArray) (hlim : s.size ≤ 281474976710656) (h : Lib.atoiAll s.data.toList = .range) (ev : Value) (w : World) (hv : w.cell? ⟨5, 0, none⟩ = some ev) (hev : ev = .nilIface ∨ ∃ te pe, ev = .iface te pe) :
 Calls Tryz.prog 105 #[.string s] w fun e w' => ∃ N, e = .returned (.tuple #[.int .i64 (Lib.atoiSat s.data.toList), .iface 174 (.pointer (some ⟨N, 0, none⟩))]) ∧ w.heap.size ≤ N ∧ w'.heap[N]? = some (.cells #[.string ⟨#[65, 116, 111, 105]⟩, .string s, ev] 201 (0, 0)) ∧ Below w.heap.size w w' := Any.strconv_Atoi_range Tryz.laysC172 s hlim h ev w hv hev
def Tryz.laysPu14_ren : Go.Shelf.Ren := ⟨fun | 14 => 104 | 16 => 140 | 17 => 99 | 19 => 169 | 20 => 170 | 21 => 134 | 22 => 135 | 23 => 136 | 24 => 137 | 25 => 166 | 27 => 101 | 26 => 167 | 28 => 138 | 29 => 168 | 30 => 146 | 31 => 147 | 32 => 148 | 33 => 149 | 35 => 67 | 34 => 175 | 36 => 176 | 37 => 177 | 38 => 178 | 39 => 201 | 40 => 82 | n => n, fun | 9 => 9 | 3 => 3 | 22 => 22 | 24 => 97 | 25 => 142 | 4 => 4 | 34 => 173 | 5 => 5 | 36 => 51 | 37 => 31 | 0 => 0 | 39 => 174 | 21 => 21 | 44 => 201 | 47 => 189 | 50 => 242 | 48 => 240 | 2 => 2 | 52 => 180 | 55 => 182 | 59 => 208 | 60 => 61 | 20 => 20 | 61 => 209 | 65 => 258 | 66 => 168 | 67 => 29 | n => n, fun | 0 => 4 | 1 => 5 | 2 => 6 | 3 => 13 | 4 => 2 | n => n⟩
theorem Tryz.laysPu14 : Go.Proofs.LaysPu.n14 Tryz.prog Tryz.laysPu14_ren := {
 mixed := by kernel_rfl
 f14 := Tryz.func104.trans (congrArg some (by kernel_rfl))
 f16 := Tryz.func140.trans (congrArg some (by kernel_rfl))
 f17 := Tryz.func99.trans (congrArg some (by kernel_rfl))
 f19 := Tryz.func169.trans (congrArg some (by kernel_rfl))
 f20 := Tryz.func170.trans (congrArg some (by kernel_rfl))
 f21 := Tryz.func134.trans (congrArg some (by kernel_rfl))
 f22 := Tryz.func135.trans (congrArg some (by kernel_rfl))
 f23 := Tryz.func136.trans (congrArg some (by kernel_rfl))
 f24 := Tryz.func137.trans (congrArg some (by kernel_rfl))
 f25 := Tryz.func166.trans (congrArg some (by kernel_rfl))
 f26 := Tryz.func167.trans (congrArg some (by kernel_rfl))
 f27 := Tryz.func101.trans (congrArg some (by kernel_rfl))
 f28 := Tryz.func138.trans (congrArg some (by kernel_rfl))
 f29 := Tryz.func168.trans (congrArg some (by kernel_rfl))
 f30 := Tryz.func146.trans (congrArg some (by kernel_rfl))
 f31 := Tryz.func147.trans (congrArg some (by kernel_rfl))
 f32 := Tryz.func148.trans (congrArg some (by kernel_rfl))
 f33 := Tryz.func149.trans (congrArg some (by kernel_rfl))
 f34 := Tryz.func175.trans (congrArg some (by kernel_rfl))
 f35 := Tryz.func67.trans (congrArg some (by kernel_rfl))
 f36 := Tryz.func176.trans (congrArg some (by kernel_rfl))
 f37 := Tryz.func177.trans (congrArg some (by kernel_rfl))
 f38 := Tryz.func178.trans (congrArg some (by kernel_rfl))
 f39 := Tryz.func201.trans (congrArg some (by kernel_rfl))
 f40 := Tryz.func82.trans (congrArg some (by kernel_rfl))
 t0 := Tryz.underlying0
 a0 := Tryz.isAgg0
 z0 := Tryz.sizeOf0
 v0 := Tryz.zeroValue0
 i0 := by kernel_rfl
 t2 := Tryz.underlying2
 a2 := Tryz.isAgg2
 z2 := Tryz.sizeOf2
 v2 := Tryz.zeroValue2
 i2 := by kernel_rfl
 t3 := Tryz.underlying3
 a3 := Tryz.isAgg3
 z3 := Tryz.sizeOf3
 v3 := Tryz.zeroValue3
 i3 := by kernel_rfl
 t4 := Tryz.underlying4
 a4 := Tryz.isAgg4
 z4 := Tryz.sizeOf4
 v4 := Tryz.zeroValue4
 i4 := by kernel_rfl
 t5 := Tryz.underlying5
 a5 := Tryz.isAgg5
 z5 := Tryz.sizeOf5
 v5 := Tryz.zeroValue5
 i5 := by kernel_rfl
 t9 := Tryz.underlying9
 a9 := Tryz.isAgg9
 z9 := Tryz.sizeOf9
 v9 := Tryz.zeroValue9
 i9 := by kernel_rfl
 t20 := Tryz.underlying20
 a20 := Tryz.isAgg20
 z20 := Tryz.sizeOf20
 v20 := Tryz.zeroValue20
 i20 := by kernel_rfl
 t21 := Tryz.underlying21
 a21 := Tryz.isAgg21
 z21 := Tryz.sizeOf21
 v21 := Tryz.zeroValue21
 i21 := by kernel_rfl
 t22 := Tryz.underlying22
 a22 := Tryz.isAgg22
 z22 := Tryz.sizeOf22
 v22 := Tryz.zeroValue22
 i22 := by kernel_rfl
 t24 := Tryz.underlying97
 a24 := Tryz.isAgg97
 z24 := Tryz.sizeOf97
 v24 := Tryz.zeroValue97
 i24 := by kernel_rfl
 t25 := Tryz.underlying142
 a25 := Tryz.isAgg142
 z25 := Tryz.sizeOf142
 v25 := Tryz.zeroValue142
 i25 := by kernel_rfl
 t34 := Tryz.underlying173
 a34 := Tryz.isAgg173
 z34 := Tryz.sizeOf173
 v34 := Tryz.zeroValue173
 i34 := by kernel_rfl
 c34 := by kernel_rfl
 t36 := Tryz.underlying51
 a36 := Tryz.isAgg51
 z36 := Tryz.sizeOf51
 v36 := Tryz.zeroValue51
 i36 := by kernel_rfl
 t37 := Tryz.underlying31
 a37 := Tryz.isAgg31
 z37 := Tryz.sizeOf31
 v37 := Tryz.zeroValue31
 i37 := by kernel_rfl
 t39 := Tryz.underlying174
 a39 := Tryz.isAgg174
 z39 := Tryz.sizeOf174
 v39 := Tryz.zeroValue174
 i39 := by kernel_rfl
 t44 := Tryz.underlying201
 a44 := Tryz.isAgg201
 z44 := Tryz.sizeOf201
 v44 := Tryz.zeroValue201
 i44 := by kernel_rfl
 t47 := Tryz.underlying189
 a47 := Tryz.isAgg189
 z47 := Tryz.sizeOf189
 v47 := Tryz.zeroValue189
 i47 := by kernel_rfl
 t48 := Tryz.underlying240
 a48 := Tryz.isAgg240
 z48 := Tryz.sizeOf240
 v48 := Tryz.zeroValue240
 i48 := by kernel_rfl
 t50 := Tryz.underlying242
 a50 := Tryz.isAgg242
 z50 := Tryz.sizeOf242
 v50 := Tryz.zeroValue242
 i50 := by kernel_rfl
 t52 := Tryz.underlying180
 a52 := Tryz.isAgg180
 z52 := Tryz.sizeOf180
 v52 := Tryz.zeroValue180
 i52 := by kernel_rfl
 t55 := Tryz.underlying182
 a55 := Tryz.isAgg182
 z55 := Tryz.sizeOf182
 v55 := Tryz.zeroValue182
 i55 := by kernel_rfl
 t59 := Tryz.underlying208
 a59 := Tryz.isAgg208
 z59 := Tryz.sizeOf208
 v59 := Tryz.zeroValue208
 i59 := by kernel_rfl
 t60 := Tryz.underlying61
 a60 := Tryz.isAgg61
 z60 := Tryz.sizeOf61
 v60 := Tryz.zeroValue61
 i60 := by kernel_rfl
 t61 := Tryz.underlying209
 a61 := Tryz.isAgg209
 z61 := Tryz.sizeOf209
 t65 := Tryz.underlying258
 a65 := Tryz.isAgg258
 z65 := Tryz.sizeOf258
 v65 := Tryz.zeroValue258
 i65 := by kernel_rfl
 t66 := Tryz.underlying168
 a66 := Tryz.isAgg168
 z66 := Tryz.sizeOf168
 v66 := Tryz.zeroValue168
 i66 := by kernel_rfl
 t67 := Tryz.underlying29
 a67 := Tryz.isAgg29
 z67 := Tryz.sizeOf29
 v67 := Tryz.zeroValue29
 i67 := by kernel_rfl
 g0 := by kernel_rfl
 m0 := by kernel_rfl
 g1 := by kernel_rfl
 m1 := by kernel_rfl
 g2 := by kernel_rfl
 m2 := by kernel_rfl
 g3 := by kernel_rfl
 m3 := by kernel_rfl
 g4 := by kernel_rfl
 m4 := by kernel_rfl }
open Go.RowKit in
theorem Tryz.strconv_ParseUint_ok (s : ByteArray) (hmax : s.size ≤ 9223372036854775806) (u : Nat) (h : Lib.parseUintB 64 s.data.toList = .ok u) (w : World) :
 Calls Tryz.prog 104 #[.string s, .int .i64 10, .int .i64 64] w fun e w' => e = .returned (.tuple #[.int .u64 u, .nilIface]) ∧ (w' = w ∨ w' = Lib.bytesWorld w 5 s) := Any.strconv_ParseUint_10_at64_ok Tryz.laysPu14 s hmax u h w
def Tryz.lays145_ren : Go.Shelf.Ren := ⟨fun | 145 => 48 | 220 => 94 | 219 => 131 | 217 => 142 | 225 => 161 | 224 => 162 | 267 => 163 | 266 => 172 | 314 => 187 | n => n, fun | 9 => 9 | 4 => 4 | 59 => 89 | 3 => 3 | 5 => 5 | 46 => 51 | 146 => 185 | 51 => 61 | n => n, fun | 1 => 3 | n => n⟩
theorem Tryz.lays145 : Go.Proofs.Lays.n145 Tryz.prog Tryz.lays145_ren := {
 mixed := by kernel_rfl
 f145 := Tryz.func48.trans (congrArg some (by kernel_rfl))
 f217 := Tryz.func142.trans (congrArg some (by kernel_rfl))
 f219 := Tryz.func131.trans (congrArg some (by kernel_rfl))
 f220 := Tryz.func94.trans (congrArg some (by kernel_rfl))
 f224 := Tryz.func162.trans (congrArg some (by kernel_rfl))
 f225 := Tryz.func161.trans (congrArg some (by kernel_rfl))
 f266 := Tryz.func172.trans (congrArg some (by kernel_rfl))
 f267 := Tryz.func163.trans (congrArg some (by kernel_rfl))
 f314 := Tryz.func187.trans (congrArg some (by kernel_rfl))
 t3 := Tryz.underlying3
 a3 := Tryz.isAgg3
 z3 := Tryz.sizeOf3
 v3 := Tryz.zeroValue3
 t4 := Tryz.underlying4
 a4 := Tryz.isAgg4
 z4 := Tryz.sizeOf4
 v4 := Tryz.zeroValue4
 t5 := Tryz.underlying5
 a5 := Tryz.isAgg5
 z5 := Tryz.sizeOf5
 v5 := Tryz.zeroValue5
 t9 := Tryz.underlying9
 a9 := Tryz.isAgg9
 z9 := Tryz.sizeOf9
 v9 := Tryz.zeroValue9
 t46 := Tryz.underlying51
 a46 := Tryz.isAgg51
 z46 := Tryz.sizeOf51
 v46 := Tryz.zeroValue51
 t51 := Tryz.underlying61
 a51 := Tryz.isAgg61
 z51 := Tryz.sizeOf61
 v51 := Tryz.zeroValue61
 t59 := Tryz.underlying89
 a59 := Tryz.isAgg89
 z59 := Tryz.sizeOf89
 v59 := Tryz.zeroValue89
 t146 := Tryz.underlying185
 a146 := Tryz.isAgg185
 z146 := Tryz.sizeOf185
 v146 := Tryz.zeroValue185
 g1 := by kernel_rfl }
open Go.RowKit Go.Lib in
theorem Tryz.strings_Cut (s sep : ByteArray) (m : Int) (w : World) (hs : s.size < 4294967281) (hm : w.cell? ⟨3, 0, none⟩ = some (.int .i64 m)) :
 Calls Tryz.prog 48 #[.string s, .string sep] w fun e w' => e = .returned (.tuple #[.string ⟨(Lib.cut s.data.toList sep.data.toList).1.toArray⟩, .string ⟨(Lib.cut s.data.toList sep.data.toList).2.1.toArray⟩, .bool (Lib.cut s.data.toList sep.data.toList).2.2]) ∧ ∃ n, w' = w.drewN n := Any.strings_Cut Tryz.lays145 s sep m w hs hm
def Tryz.lays99_ren : Go.Shelf.Ren := ⟨fun | 99 => 119 | 206 => 132 | n => n, fun | 9 => 9 | 4 => 4 | 3 => 3 | n => n, fun | n => n⟩
def Tryz.lays101_ren : Go.Shelf.Ren := ⟨fun | 101 => 49 | 208 => 95 | 206 => 132 | n => n, fun | 9 => 9 | 4 => 4 | 3 => 3 | n => n, fun | n => n⟩
theorem Tryz.lays101 : Go.Proofs.Lays.n101 Tryz.prog Tryz.lays101_ren := {
 mixed := by kernel_rfl
 f101 := Tryz.func49.trans (congrArg some (by kernel_rfl))
 f206 := Tryz.func132.trans (congrArg some (by kernel_rfl))
 f208 := Tryz.func95.trans (congrArg some (by kernel_rfl))
 t3 := Tryz.underlying3
 a3 := Tryz.isAgg3
 z3 := Tryz.sizeOf3
 v3 := Tryz.zeroValue3
 t4 := Tryz.underlying4
 a4 := Tryz.isAgg4
 z4 := Tryz.sizeOf4
 v4 := Tryz.zeroValue4
 t9 := Tryz.underlying9
 a9 := Tryz.isAgg9
 z9 := Tryz.sizeOf9
 v9 := Tryz.zeroValue9 }
open Go.RowKit Go.Lib in
theorem Tryz.strings_TrimPrefix (s p : ByteArray) (w : World) :
 Calls Tryz.prog 49 #[.string s, .string p] w fun e w' => e = .returned (.string ⟨(Lib.trimPrefix s.data.toList p.data.toList).toArray⟩) ∧ w' = w := Any.strings_TrimPrefix Tryz.lays101 s p w
def Tryz.lays264_ren : Go.Shelf.Ren := ⟨fun | 264 => 152 | n => n, fun | 53 => 22 | 46 => 51 | n => n, fun | n => n⟩
theorem Tryz.lays264 : Go.Proofs.Lays.n264 Tryz.prog Tryz.lays264_ren := {
 mixed := by kernel_rfl
 f264 := Tryz.func152.trans (congrArg some (by kernel_rfl))
 t46 := Tryz.underlying51
 a46 := Tryz.isAgg51
 z46 := Tryz.sizeOf51
 v46 := Tryz.zeroValue51
 t53 := Tryz.underlying22
 a53 := Tryz.isAgg22
 z53 := Tryz.sizeOf22
 v53 := Tryz.zeroValue22 }
open Go.RowKit Go.Lib in
theorem Tryz.bits_Mul64 (x y : Nat) (hx : x < 18446744073709551616) (hy : y < 18446744073709551616) (w : World) :
 Calls Tryz.prog 152 #[.int .u64 x, .int .u64 y] w fun e w' => e = .returned (.tuple #[.int .u64 ((x * y / 18446744073709551616 : Nat) : Int), .int .u64 ((x * y % 18446744073709551616 : Nat) : Int)]) ∧ w' = w := Any.bits_Mul64 Tryz.lays264 x y hx hy w
def Tryz.lays105_ren : Go.Shelf.Ren := ⟨fun | 105 => 76 | 212 => 118 | 99 => 119 | 165 => 120 | 166 => 121 | 170 => 122 | 169 => 123 | 263 => 151 | 264 => 152 | 206 => 132 | 240 => 153 | 241 => 154 | 276 => 182 | 277 => 183 | n => n, fun | 9 => 9 | 3 => 3 | 4 => 4 | 20 => 20 | 0 => 0 | 46 => 51 | 109 => 154 | 5 => 5 | 72 => 159 | 76 => 144 | 51 => 61 | 146 => 185 | 53 => 22 | 148 => 187 | 70 => 157 | 37 => 31 | 75 => 97 | 127 => 189 | 164 => 211 | 80 => 29 | n => n, fun | n => n⟩
theorem Tryz.lays105 : Go.Proofs.Lays.n105 Tryz.prog Tryz.lays105_ren := {
 mixed := by kernel_rfl
 f99 := Tryz.func119.trans (congrArg some (by kernel_rfl))
 f105 := Tryz.func76.trans (congrArg some (by kernel_rfl))
 f165 := Tryz.func120.trans (congrArg some (by kernel_rfl))
 f166 := Tryz.func121.trans (congrArg some (by kernel_rfl))
 f169 := Tryz.func123.trans (congrArg some (by kernel_rfl))
 f170 := Tryz.func122.trans (congrArg some (by kernel_rfl))
 f206 := Tryz.func132.trans (congrArg some (by kernel_rfl))
 f212 := Tryz.func118.trans (congrArg some (by kernel_rfl))
 f240 := Tryz.func153.trans (congrArg some (by kernel_rfl))
 f241 := Tryz.func154.trans (congrArg some (by kernel_rfl))
 f263 := Tryz.func151.trans (congrArg some (by kernel_rfl))
 f264 := Tryz.func152.trans (congrArg some (by kernel_rfl))
 f276 := Tryz.func182.trans (congrArg some (by kernel_rfl))
 f277 := Tryz.func183.trans (congrArg some (by kernel_rfl))
 t0 := Tryz.underlying0
 a0 := Tryz.isAgg0
 z0 := Tryz.sizeOf0
 v0 := Tryz.zeroValue0
 t3 := Tryz.underlying3
 a3 := Tryz.isAgg3
 z3 := Tryz.sizeOf3
 v3 := Tryz.zeroValue3
 t4 := Tryz.underlying4
 a4 := Tryz.isAgg4
 z4 := Tryz.sizeOf4
 v4 := Tryz.zeroValue4
 t5 := Tryz.underlying5
 a5 := Tryz.isAgg5
 z5 := Tryz.sizeOf5
 v5 := Tryz.zeroValue5
 t9 := Tryz.underlying9
 a9 := Tryz.isAgg9
 z9 := Tryz.sizeOf9
 v9 := Tryz.zeroValue9
 t20 := Tryz.underlying20
 a20 := Tryz.isAgg20
 z20 := Tryz.sizeOf20
 v20 := Tryz.zeroValue20
 t37 := Tryz.underlying31
 a37 := Tryz.isAgg31
 z37 := Tryz.sizeOf31
 v37 := Tryz.zeroValue31
 t46 := Tryz.underlying51
 a46 := Tryz.isAgg51
 z46 := Tryz.sizeOf51
 v46 := Tryz.zeroValue51
 t51 := Tryz.underlying61
 a51 := Tryz.isAgg61
 z51 := Tryz.sizeOf61
 v51 := Tryz.zeroValue61
 t53 := Tryz.underlying22
 a53 := Tryz.isAgg22
 z53 := Tryz.sizeOf22
 v53 := Tryz.zeroValue22
 t70 := Tryz.underlying157
 a70 := Tryz.isAgg157
 z70 := Tryz.sizeOf157
 v70 := Tryz.zeroValue157
 t72 := Tryz.underlying159
 a72 := Tryz.isAgg159
 z72 := Tryz.sizeOf159
 v72 := Tryz.zeroValue159
 t75 := Tryz.underlying97
 a75 := Tryz.isAgg97
 z75 := Tryz.sizeOf97
 v75 := Tryz.zeroValue97
 t76 := Tryz.underlying144
 a76 := Tryz.isAgg144
 z76 := Tryz.sizeOf144
 v76 := Tryz.zeroValue144
 t109 := Tryz.underlying154
 a109 := Tryz.isAgg154
 z109 := Tryz.sizeOf154
 v109 := Tryz.zeroValue154
 t127 := Tryz.underlying189
 a127 := Tryz.isAgg189
 z127 := Tryz.sizeOf189
 v127 := Tryz.zeroValue189
 t146 := Tryz.underlying185
 a146 := Tryz.isAgg185
 z146 := Tryz.sizeOf185
 v146 := Tryz.zeroValue185
 t148 := Tryz.underlying187
 a148 := Tryz.isAgg187
 z148 := Tryz.sizeOf187
 v148 := Tryz.zeroValue187
 t164 := Tryz.underlying211
 a164 := Tryz.isAgg211
 z164 := Tryz.sizeOf211
 v164 := Tryz.zeroValue211 }
theorem Tryz.Builder_Extra_105 : Builder.Extra Tryz.prog Tryz.lays105_ren := {
 sizeBuilder := by kernel_rfl
 liesBuilder := by kernel_rfl
 t5 := Tryz.underlying5
 a5 := Tryz.isAgg5
 z5 := Tryz.sizeOf5
 v5 := Tryz.zeroValue5
 infoByte := by kernel_rfl
 cellsByte := by kernel_rfl
 sizeByte := by kernel_rfl
 neB5 := by decide }
open Go.RowKit Go.Lib in
theorem Tryz.strings_Repeat (s : ByteArray) (c : Nat) (w : World) (hc : c ≤ 9223372036854775807) (hlen : s.size * c ≤ 140737488355328) :
 Calls Tryz.prog 76 #[.string s, .int .i64 c] w fun e w' => e = .returned (.string ⟨(Lib.repeatL s.data.toList c).toArray⟩) ∧ Below w.heap.size w w' := Any.strings_Repeat Tryz.lays105 Tryz.Builder_Extra_105 s c w hc hlen
end Go.Proofs
