/- The library's contracts at this translation, laid by the kit's tools (lay-shelf, lay-plain), cut down to those that are used. -/
import Derived.Shelf.Strings.Builder1
import Derived.Shelf.Strings.Builder2
import Derived.Shelf.Small.Strs
import Derived.Shelf.Strings.BuilderF
import Derived.Shelf.Strconv.Atoi
import Derived.Shelf.Strconv.Itoa0
import Derived.Shelf.Strconv.Itoa1
import Derived.Shelf.LaysM
import Derived.Shelf.Strconv.Itoa2
import Derived.Shelf.Strconv.Itoa3
import Derived.Shelf.Strconv.AtoiErrFast
import Derived.Shelf.Strconv.ParseIntEmpty
import Derived.Shelf.Strconv.AtoiFail
import Derived.Shelf.Strconv.Clone
import Derived.Shelf.Strconv.SyntaxError
import Derived.Shelf.LaysC
import Derived.Shelf.Strconv.ToError
import Derived.Shelf.Strconv.Lower
import Derived.Shelf.Strconv.ParseUint10
import Derived.Shelf.Strconv.ParseUint10Empty
import Derived.Shelf.Strconv.ParseUint10Any
import Derived.Shelf.Strconv.ParseInt10
import Derived.Shelf.Strconv.AtoiLong
import Derived.Shelf.Strconv.AtoiInnerAll
import Derived.Shelf.Strconv.RangeError
import Derived.Shelf.Strconv.ToErrorRange
import Derived.Shelf.Strconv.AtoiAll
import Derived.Shelf.Strconv.ErrVarAll
import Derived.Shelf.Strings.Search1
import Derived.Shelf.Strings.Prefix
import Derived.Shelf.Bits.Mul64
import Derived.Shelf.Strings.Repeat
import Derived.Test.YtmgafnflkfbckaaGreatDoorProg
namespace Go.Proofs
open Go.Shelf
def Tryz.lays137_ren : Go.Shelf.Ren := ⟨fun | 137 => 41 | 217 => 63 | 266 => 74 | n => n, fun | 9 => 9 | 5 => 5 | 3 => 3 | n => n, fun | n => n⟩
theorem Tryz.lays137 : Go.Proofs.Lays.n137 Tryz.prog Tryz.lays137_ren := {
  mixed := by kernel_rfl
  f137 := Tryz.func41.trans (congrArg some (by kernel_rfl))
  f217 := Tryz.func63.trans (congrArg some (by kernel_rfl))
  f266 := Tryz.func74.trans (congrArg some (by kernel_rfl))
  t3 := Tryz.underlying3
  a3 := Tryz.isAgg3
  z3 := Tryz.sizeOf3
  v3 := Tryz.zeroValue3
  t5 := Tryz.underlying5
  a5 := Tryz.isAgg5
  z5 := Tryz.sizeOf5
  v5 := Tryz.zeroValue5
  t9 := Tryz.underlying9
  a9 := Tryz.isAgg9
  z9 := Tryz.sizeOf9
  v9 := Tryz.zeroValue9 }
open Go.RowKit in
theorem Tryz.strings_IndexByte (s : ByteArray) (c : Int) (w : World) :
    Calls Tryz.prog 41 #[.string s, .int .u8 c] w fun e w' => e = .returned (.int .i64 (Lib.indexByte s.data.toList c.toNat.toUInt8)) ∧ w' = w := Any.strings_IndexByte Tryz.lays137 s c w
def Tryz.laysM171_ren : Go.Shelf.Ren := ⟨fun | 171 => 35 | 243 => 59 | 246 => 73 | 283 => 83 | 284 => 84 | 285 => 85 | 286 => 86 | 129 => 91 | 317 => 90 | 318 => 92 | 319 => 93 | 320 => 94 | 337 => 97 | 338 => 98 | n => n, fun | 3 => 3 | 9 => 9 | 2 => 2 | 4 => 4 | 171 => 108 | 0 => 0 | 53 => 93 | 37 => 44 | 5 => 5 | 173 => 111 | 212 => 119 | 51 => 90 | 20 => 20 | 213 => 120 | 46 => 75 | 232 => 128 | 233 => 129 | n => n, fun | 17 => 3 | 18 => 4 | 19 => 5 | n => n⟩
theorem Tryz.laysM171 : Go.Proofs.LaysM.n171 Tryz.prog Tryz.laysM171_ren := {
  mixed := by kernel_rfl
  f129 := Tryz.func91.trans (congrArg some (by kernel_rfl))
  f171 := Tryz.func35.trans (congrArg some (by kernel_rfl))
  f243 := Tryz.func59.trans (congrArg some (by kernel_rfl))
  f246 := Tryz.func73.trans (congrArg some (by kernel_rfl))
  f283 := Tryz.func83.trans (congrArg some (by kernel_rfl))
  f284 := Tryz.func84.trans (congrArg some (by kernel_rfl))
  f285 := Tryz.func85.trans (congrArg some (by kernel_rfl))
  f286 := Tryz.func86.trans (congrArg some (by kernel_rfl))
  f317 := Tryz.func90.trans (congrArg some (by kernel_rfl))
  f318 := Tryz.func92.trans (congrArg some (by kernel_rfl))
  f319 := Tryz.func93.trans (congrArg some (by kernel_rfl))
  f320 := Tryz.func94.trans (congrArg some (by kernel_rfl))
  f337 := Tryz.func97.trans (congrArg some (by kernel_rfl))
  f338 := Tryz.func98.trans (congrArg some (by kernel_rfl))
  t0 := Tryz.underlying0
  a0 := Tryz.isAgg0
  z0 := Tryz.sizeOf0
  v0 := Tryz.zeroValue0
  t2 := Tryz.underlying2
  a2 := Tryz.isAgg2
  z2 := Tryz.sizeOf2
  v2 := Tryz.zeroValue2
  t3 := Tryz.underlying3
  a3 := Tryz.isAgg3
  z3 := Tryz.sizeOf3
  v3 := Tryz.zeroValue3
  t4 := Tryz.underlying4
  a4 := Tryz.isAgg4
  z4 := Tryz.sizeOf4
  v4 := Tryz.zeroValue4
  t5 := Tryz.underlying5
  a5 := Tryz.isAgg5
  z5 := Tryz.sizeOf5
  v5 := Tryz.zeroValue5
  t9 := Tryz.underlying9
  a9 := Tryz.isAgg9
  z9 := Tryz.sizeOf9
  v9 := Tryz.zeroValue9
  t20 := Tryz.underlying20
  a20 := Tryz.isAgg20
  z20 := Tryz.sizeOf20
  v20 := Tryz.zeroValue20
  t37 := Tryz.underlying44
  a37 := Tryz.isAgg44
  z37 := Tryz.sizeOf44
  v37 := Tryz.zeroValue44
  t46 := Tryz.underlying75
  a46 := Tryz.isAgg75
  z46 := Tryz.sizeOf75
  v46 := Tryz.zeroValue75
  t51 := Tryz.underlying90
  a51 := Tryz.isAgg90
  z51 := Tryz.sizeOf90
  v51 := Tryz.zeroValue90
  t53 := Tryz.underlying93
  a53 := Tryz.isAgg93
  z53 := Tryz.sizeOf93
  v53 := Tryz.zeroValue93
  t171 := Tryz.underlying108
  a171 := Tryz.isAgg108
  z171 := Tryz.sizeOf108
  v171 := Tryz.zeroValue108
  t173 := Tryz.underlying111
  a173 := Tryz.isAgg111
  z173 := Tryz.sizeOf111
  v173 := Tryz.zeroValue111
  t212 := Tryz.underlying119
  a212 := Tryz.isAgg119
  z212 := Tryz.sizeOf119
  v212 := Tryz.zeroValue119
  t213 := Tryz.underlying120
  a213 := Tryz.isAgg120
  z213 := Tryz.sizeOf120
  t232 := Tryz.underlying128
  a232 := Tryz.isAgg128
  z232 := Tryz.sizeOf128
  v232 := Tryz.zeroValue128
  t233 := Tryz.underlying129
  a233 := Tryz.isAgg129
  z233 := Tryz.sizeOf129
  v233 := Tryz.zeroValue129
  g17 := by kernel_rfl
  g18 := by kernel_rfl
  g19 := by kernel_rfl
  i0 := by kernel_rfl
  i2 := by kernel_rfl
  i3 := by kernel_rfl
  i4 := by kernel_rfl
  i5 := by kernel_rfl
  i9 := by kernel_rfl
  i20 := by kernel_rfl
  i37 := by kernel_rfl
  i46 := by kernel_rfl
  i51 := by kernel_rfl
  i53 := by kernel_rfl
  i171 := by kernel_rfl
  i173 := by kernel_rfl
  i212 := by kernel_rfl
  i232 := by kernel_rfl
  i233 := by kernel_rfl
  m17 := by kernel_rfl
  m18 := by kernel_rfl
  m19 := by kernel_rfl }
open Go.RowKit Go.Sort Go.Lib in
theorem Tryz.strconv_Itoa (n : Int) (h0 : -9223372036854775808 ≤ n) (h1 : n ≤ 9223372036854775807) (w : World) (htab : Lib.TabIs Tryz.prog w "internal/strconv.uint64pow10" .u64 Lib.pow10Tab) :
    Calls Tryz.prog 35 #[.int .i64 n] w fun e w' => e = .returned (.string ⟨(Lib.itoa n).toArray⟩) ∧ ∃ k os, w' = grow (w.drewN k) os := Any.strconv_Itoa Tryz.laysM171 n h0 h1 w htab
def Tryz.laysC172_ren : Go.Shelf.Ren := ⟨fun | 172 => 43 | 244 => 65 | 245 => 66 | 247 => 76 | 279 => 77 | 280 => 78 | 281 => 79 | 282 => 80 | 287 => 87 | 316 => 88 | 171 => 35 | 205 => 89 | 321 => 95 | 322 => 96 | 243 => 59 | 246 => 73 | 283 => 83 | 284 => 84 | 285 => 85 | 286 => 86 | 129 => 91 | 317 => 90 | 318 => 92 | 319 => 93 | 320 => 94 | 337 => 97 | 338 => 98 | n => n, fun | 9 => 9 | 3 => 3 | 75 => 65 | 76 => 66 | 4 => 4 | 5 => 5 | 167 => 99 | 37 => 44 | 0 => 0 | 85 => 100 | 2 => 2 | 168 => 102 | 53 => 93 | 175 => 113 | 46 => 75 | 210 => 116 | 127 => 96 | 145 => 126 | 143 => 124 | 21 => 21 | 171 => 108 | 173 => 111 | 212 => 119 | 51 => 90 | 20 => 20 | 213 => 120 | 232 => 128 | 233 => 129 | 80 => 55 | n => n, fun | 15 => 1 | 16 => 2 | 17 => 3 | 18 => 4 | 19 => 5 | n => n⟩
theorem Tryz.laysC172 : Go.Proofs.LaysC.n172 Tryz.prog Tryz.laysC172_ren := {
  mixed := by kernel_rfl
  f129 := Tryz.func91.trans (congrArg some (by kernel_rfl))
  f171 := Tryz.func35.trans (congrArg some (by kernel_rfl))
  f172 := Tryz.func43.trans (congrArg some (by kernel_rfl))
  f205 := Tryz.func89.trans (congrArg some (by kernel_rfl))
  f243 := Tryz.func59.trans (congrArg some (by kernel_rfl))
  f244 := Tryz.func65.trans (congrArg some (by kernel_rfl))
  f245 := Tryz.func66.trans (congrArg some (by kernel_rfl))
  f246 := Tryz.func73.trans (congrArg some (by kernel_rfl))
  f247 := Tryz.func76.trans (congrArg some (by kernel_rfl))
  f279 := Tryz.func77.trans (congrArg some (by kernel_rfl))
  f280 := Tryz.func78.trans (congrArg some (by kernel_rfl))
  f281 := Tryz.func79.trans (congrArg some (by kernel_rfl))
  f282 := Tryz.func80.trans (congrArg some (by kernel_rfl))
  f283 := Tryz.func83.trans (congrArg some (by kernel_rfl))
  f284 := Tryz.func84.trans (congrArg some (by kernel_rfl))
  f285 := Tryz.func85.trans (congrArg some (by kernel_rfl))
  f286 := Tryz.func86.trans (congrArg some (by kernel_rfl))
  f287 := Tryz.func87.trans (congrArg some (by kernel_rfl))
  f316 := Tryz.func88.trans (congrArg some (by kernel_rfl))
  f317 := Tryz.func90.trans (congrArg some (by kernel_rfl))
  f318 := Tryz.func92.trans (congrArg some (by kernel_rfl))
  f319 := Tryz.func93.trans (congrArg some (by kernel_rfl))
  f320 := Tryz.func94.trans (congrArg some (by kernel_rfl))
  f321 := Tryz.func95.trans (congrArg some (by kernel_rfl))
  f322 := Tryz.func96.trans (congrArg some (by kernel_rfl))
  f337 := Tryz.func97.trans (congrArg some (by kernel_rfl))
  f338 := Tryz.func98.trans (congrArg some (by kernel_rfl))
  t0 := Tryz.underlying0
  a0 := Tryz.isAgg0
  z0 := Tryz.sizeOf0
  v0 := Tryz.zeroValue0
  t2 := Tryz.underlying2
  a2 := Tryz.isAgg2
  z2 := Tryz.sizeOf2
  v2 := Tryz.zeroValue2
  t3 := Tryz.underlying3
  a3 := Tryz.isAgg3
  z3 := Tryz.sizeOf3
  v3 := Tryz.zeroValue3
  t4 := Tryz.underlying4
  a4 := Tryz.isAgg4
  z4 := Tryz.sizeOf4
  v4 := Tryz.zeroValue4
  t5 := Tryz.underlying5
  a5 := Tryz.isAgg5
  z5 := Tryz.sizeOf5
  v5 := Tryz.zeroValue5
  t9 := Tryz.underlying9
  a9 := Tryz.isAgg9
  z9 := Tryz.sizeOf9
  v9 := Tryz.zeroValue9
  t20 := Tryz.underlying20
  a20 := Tryz.isAgg20
  z20 := Tryz.sizeOf20
  v20 := Tryz.zeroValue20
  t21 := Tryz.underlying21
  a21 := Tryz.isAgg21
  z21 := Tryz.sizeOf21
  v21 := Tryz.zeroValue21
  t37 := Tryz.underlying44
  a37 := Tryz.isAgg44
  z37 := Tryz.sizeOf44
  v37 := Tryz.zeroValue44
  t46 := Tryz.underlying75
  a46 := Tryz.isAgg75
  z46 := Tryz.sizeOf75
  v46 := Tryz.zeroValue75
  t51 := Tryz.underlying90
  a51 := Tryz.isAgg90
  z51 := Tryz.sizeOf90
  v51 := Tryz.zeroValue90
  t53 := Tryz.underlying93
  a53 := Tryz.isAgg93
  z53 := Tryz.sizeOf93
  v53 := Tryz.zeroValue93
  t75 := Tryz.underlying65
  a75 := Tryz.isAgg65
  z75 := Tryz.sizeOf65
  v75 := Tryz.zeroValue65
  t76 := Tryz.underlying66
  a76 := Tryz.isAgg66
  z76 := Tryz.sizeOf66
  v76 := Tryz.zeroValue66
  t85 := Tryz.underlying100
  a85 := Tryz.isAgg100
  z85 := Tryz.sizeOf100
  v85 := Tryz.zeroValue100
  t127 := Tryz.underlying96
  a127 := Tryz.isAgg96
  z127 := Tryz.sizeOf96
  v127 := Tryz.zeroValue96
  t143 := Tryz.underlying124
  a143 := Tryz.isAgg124
  z143 := Tryz.sizeOf124
  v143 := Tryz.zeroValue124
  t145 := Tryz.underlying126
  a145 := Tryz.isAgg126
  z145 := Tryz.sizeOf126
  v145 := Tryz.zeroValue126
  t167 := Tryz.underlying99
  a167 := Tryz.isAgg99
  z167 := Tryz.sizeOf99
  v167 := Tryz.zeroValue99
  t168 := Tryz.underlying102
  a168 := Tryz.isAgg102
  z168 := Tryz.sizeOf102
  v168 := Tryz.zeroValue102
  t171 := Tryz.underlying108
  a171 := Tryz.isAgg108
  z171 := Tryz.sizeOf108
  v171 := Tryz.zeroValue108
  t173 := Tryz.underlying111
  a173 := Tryz.isAgg111
  z173 := Tryz.sizeOf111
  v173 := Tryz.zeroValue111
  t175 := Tryz.underlying113
  a175 := Tryz.isAgg113
  z175 := Tryz.sizeOf113
  v175 := Tryz.zeroValue113
  t210 := Tryz.underlying116
  a210 := Tryz.isAgg116
  z210 := Tryz.sizeOf116
  v210 := Tryz.zeroValue116
  t212 := Tryz.underlying119
  a212 := Tryz.isAgg119
  z212 := Tryz.sizeOf119
  v212 := Tryz.zeroValue119
  t213 := Tryz.underlying120
  a213 := Tryz.isAgg120
  z213 := Tryz.sizeOf120
  t232 := Tryz.underlying128
  a232 := Tryz.isAgg128
  z232 := Tryz.sizeOf128
  v232 := Tryz.zeroValue128
  t233 := Tryz.underlying129
  a233 := Tryz.isAgg129
  z233 := Tryz.sizeOf129
  v233 := Tryz.zeroValue129
  g15 := by kernel_rfl
  g16 := by kernel_rfl
  g17 := by kernel_rfl
  g18 := by kernel_rfl
  g19 := by kernel_rfl
  t80 := Tryz.underlying55
  a80 := Tryz.isAgg55
  z80 := Tryz.sizeOf55
  v80 := Tryz.zeroValue55
  i0 := by kernel_rfl
  i2 := by kernel_rfl
  i3 := by kernel_rfl
  i4 := by kernel_rfl
  i5 := by kernel_rfl
  i9 := by kernel_rfl
  i20 := by kernel_rfl
  i21 := by kernel_rfl
  i37 := by kernel_rfl
  i46 := by kernel_rfl
  i51 := by kernel_rfl
  i53 := by kernel_rfl
  i75 := by kernel_rfl
  i76 := by kernel_rfl
  i80 := by kernel_rfl
  i85 := by kernel_rfl
  i127 := by kernel_rfl
  i143 := by kernel_rfl
  i145 := by kernel_rfl
  i167 := by kernel_rfl
  i168 := by kernel_rfl
  i171 := by kernel_rfl
  i173 := by kernel_rfl
  i175 := by kernel_rfl
  i210 := by kernel_rfl
  i212 := by kernel_rfl
  i232 := by kernel_rfl
  i233 := by kernel_rfl
  m15 := by kernel_rfl
  m16 := by kernel_rfl
  m17 := by kernel_rfl
  m18 := by kernel_rfl
  m19 := by kernel_rfl
  c0 := by kernel_rfl
  c2 := by kernel_rfl
  c3 := by kernel_rfl
  c4 := by kernel_rfl
  c5 := by kernel_rfl
  c9 := by kernel_rfl
  c20 := by kernel_rfl
  c21 := by kernel_rfl
  c37 := by kernel_rfl
  c46 := by kernel_rfl
  c51 := by kernel_rfl
  c53 := by kernel_rfl
  c75 := by kernel_rfl
  c76 := by kernel_rfl
  c80 := by kernel_rfl
  c85 := by kernel_rfl
  c127 := by kernel_rfl
  c143 := by kernel_rfl
  c145 := by kernel_rfl
  c167 := by kernel_rfl
  c168 := by kernel_rfl
  c171 := by kernel_rfl
  c173 := by kernel_rfl
  c175 := by kernel_rfl
  c210 := by kernel_rfl
  c212 := by kernel_rfl
  c213 := by kernel_rfl
  c232 := by kernel_rfl
  c233 := by kernel_rfl }
open Go.RowKit in
theorem Tryz.strconv_Atoi_ok (s : ByteArray) (hmax : s.size ≤ 9223372036854775806) (v : Int) (h : Lib.atoiAll s.data.toList = .ok v) (w : World) :
    Calls Tryz.prog 43 #[.string s] w fun e w' => e = .returned (.tuple #[.int .i64 v, .nilIface]) ∧ (w' = w ∨ ∃ t, w' = Lib.bytesWorld w 5 t) := Any.strconv_Atoi_ok Tryz.laysC172 s hmax v h w
open Go.RowKit in
theorem Tryz.strconv_Atoi_bad (s : ByteArray) (hlim : s.size ≤ 281474976710656) (h1 : ∀ v, Lib.atoiAll s.data.toList ≠ .ok v) (h2 : Lib.atoiAll s.data.toList ≠ .range) (ev : Value) (w : World) (hv : w.cell? ⟨1, 0, none⟩ = some ev) (hev : ev = .nilIface ∨ ∃ te pe, ev = .iface te pe) :
    Calls Tryz.prog 43 #[.string s] w fun e w' => ∃ N, e = .returned (.tuple #[.int .i64 (0), .iface 102 (.pointer (some ⟨N, 0, none⟩))]) ∧ w.heap.size ≤ N ∧ w'.heap[N]? = some (.cells #[.string ⟨#[65, 116, 111, 105]⟩, .string s, ev] 116 (0, 0)) ∧ Below w.heap.size w w' := by
  cases h : Lib.atoiAll s.data.toList with
  | ok v => exact absurd h (h1 v)
  | range => exact absurd h h2
  | _ => exact Any.strconv_Atoi_syntax Tryz.laysC172 s hlim h ev w hv hev
open Go.RowKit in
theorem Tryz.strconv_Atoi_range (s : ByteArray) (hlim : s.size ≤ 281474976710656) (h : Lib.atoiAll s.data.toList = .range) (ev : Value) (w : World) (hv : w.cell? ⟨2, 0, none⟩ = some ev) (hev : ev = .nilIface ∨ ∃ te pe, ev = .iface te pe) :
    Calls Tryz.prog 43 #[.string s] w fun e w' => ∃ N, e = .returned (.tuple #[.int .i64 (Lib.atoiSat s.data.toList), .iface 102 (.pointer (some ⟨N, 0, none⟩))]) ∧ w.heap.size ≤ N ∧ w'.heap[N]? = some (.cells #[.string ⟨#[65, 116, 111, 105]⟩, .string s, ev] 116 (0, 0)) ∧ Below w.heap.size w w' := Any.strconv_Atoi_range Tryz.laysC172 s hlim h ev w hv hev
def Tryz.lays99_ren : Go.Shelf.Ren := ⟨fun | 99 => 50 | 206 => 68 | n => n, fun | 9 => 9 | 4 => 4 | 3 => 3 | n => n, fun | n => n⟩
theorem Tryz.lays99 : Go.Proofs.Lays.n99 Tryz.prog Tryz.lays99_ren := {
  mixed := by kernel_rfl
  f99 := Tryz.func50.trans (congrArg some (by kernel_rfl))
  f206 := Tryz.func68.trans (congrArg some (by kernel_rfl))
  t3 := Tryz.underlying3
  a3 := Tryz.isAgg3
  z3 := Tryz.sizeOf3
  v3 := Tryz.zeroValue3
  t4 := Tryz.underlying4
  a4 := Tryz.isAgg4
  z4 := Tryz.sizeOf4
  v4 := Tryz.zeroValue4
  t9 := Tryz.underlying9
  a9 := Tryz.isAgg9
  z9 := Tryz.sizeOf9
  v9 := Tryz.zeroValue9 }
open Go.RowKit Go.Lib in
theorem Tryz.strings_HasPrefix (s p : ByteArray) (w : World) :
    Calls Tryz.prog 50 #[.string s, .string p] w fun e w' => e = .returned (.bool (Lib.hasPrefix s.data.toList p.data.toList)) ∧ w' = w := Any.strings_HasPrefix Tryz.lays99 s p w
def Tryz.lays101_ren : Go.Shelf.Ren := ⟨fun | 101 => 44 | 208 => 67 | 206 => 68 | n => n, fun | 9 => 9 | 4 => 4 | 3 => 3 | n => n, fun | n => n⟩
theorem Tryz.lays101 : Go.Proofs.Lays.n101 Tryz.prog Tryz.lays101_ren := {
  mixed := by kernel_rfl
  f101 := Tryz.func44.trans (congrArg some (by kernel_rfl))
  f206 := Tryz.func68.trans (congrArg some (by kernel_rfl))
  f208 := Tryz.func67.trans (congrArg some (by kernel_rfl))
  t3 := Tryz.underlying3
  a3 := Tryz.isAgg3
  z3 := Tryz.sizeOf3
  v3 := Tryz.zeroValue3
  t4 := Tryz.underlying4
  a4 := Tryz.isAgg4
  z4 := Tryz.sizeOf4
  v4 := Tryz.zeroValue4
  t9 := Tryz.underlying9
  a9 := Tryz.isAgg9
  z9 := Tryz.sizeOf9
  v9 := Tryz.zeroValue9 }
open Go.RowKit Go.Lib in
theorem Tryz.strings_TrimPrefix (s p : ByteArray) (w : World) :
    Calls Tryz.prog 44 #[.string s, .string p] w fun e w' => e = .returned (.string ⟨(Lib.trimPrefix s.data.toList p.data.toList).toArray⟩) ∧ w' = w := Any.strings_TrimPrefix Tryz.lays101 s p w
def Tryz.lays105_ren : Go.Shelf.Ren := ⟨fun | 105 => 34 | 212 => 54 | 99 => 50 | 165 => 55 | 166 => 56 | 170 => 57 | 169 => 58 | 263 => 69 | 264 => 70 | 206 => 68 | 240 => 71 | 241 => 72 | 276 => 81 | 277 => 82 | n => n, fun | 9 => 9 | 3 => 3 | 4 => 4 | 20 => 20 | 0 => 0 | 46 => 75 | 109 => 76 | 5 => 5 | 72 => 80 | 76 => 66 | 51 => 90 | 146 => 91 | 53 => 93 | 148 => 94 | 70 => 78 | 37 => 44 | 75 => 65 | 127 => 96 | 164 => 105 | 80 => 55 | n => n, fun | n => n⟩
theorem Tryz.lays105 : Go.Proofs.Lays.n105 Tryz.prog Tryz.lays105_ren := {
  mixed := by kernel_rfl
  f99 := Tryz.func50.trans (congrArg some (by kernel_rfl))
  f105 := Tryz.func34.trans (congrArg some (by kernel_rfl))
  f165 := Tryz.func55.trans (congrArg some (by kernel_rfl))
  f166 := Tryz.func56.trans (congrArg some (by kernel_rfl))
  f169 := Tryz.func58.trans (congrArg some (by kernel_rfl))
  f170 := Tryz.func57.trans (congrArg some (by kernel_rfl))
  f206 := Tryz.func68.trans (congrArg some (by kernel_rfl))
  f212 := Tryz.func54.trans (congrArg some (by kernel_rfl))
  f240 := Tryz.func71.trans (congrArg some (by kernel_rfl))
  f241 := Tryz.func72.trans (congrArg some (by kernel_rfl))
  f263 := Tryz.func69.trans (congrArg some (by kernel_rfl))
  f264 := Tryz.func70.trans (congrArg some (by kernel_rfl))
  f276 := Tryz.func81.trans (congrArg some (by kernel_rfl))
  f277 := Tryz.func82.trans (congrArg some (by kernel_rfl))
  t0 := Tryz.underlying0
  a0 := Tryz.isAgg0
  z0 := Tryz.sizeOf0
  v0 := Tryz.zeroValue0
  t3 := Tryz.underlying3
  a3 := Tryz.isAgg3
  z3 := Tryz.sizeOf3
  v3 := Tryz.zeroValue3
  t4 := Tryz.underlying4
  a4 := Tryz.isAgg4
  z4 := Tryz.sizeOf4
  v4 := Tryz.zeroValue4
  t5 := Tryz.underlying5
  a5 := Tryz.isAgg5
  z5 := Tryz.sizeOf5
  v5 := Tryz.zeroValue5
  t9 := Tryz.underlying9
  a9 := Tryz.isAgg9
  z9 := Tryz.sizeOf9
  v9 := Tryz.zeroValue9
  t20 := Tryz.underlying20
  a20 := Tryz.isAgg20
  z20 := Tryz.sizeOf20
  v20 := Tryz.zeroValue20
  t37 := Tryz.underlying44
  a37 := Tryz.isAgg44
  z37 := Tryz.sizeOf44
  v37 := Tryz.zeroValue44
  t46 := Tryz.underlying75
  a46 := Tryz.isAgg75
  z46 := Tryz.sizeOf75
  v46 := Tryz.zeroValue75
  t51 := Tryz.underlying90
  a51 := Tryz.isAgg90
  z51 := Tryz.sizeOf90
  v51 := Tryz.zeroValue90
  t53 := Tryz.underlying93
  a53 := Tryz.isAgg93
  z53 := Tryz.sizeOf93
  v53 := Tryz.zeroValue93
  t70 := Tryz.underlying78
  a70 := Tryz.isAgg78
  z70 := Tryz.sizeOf78
  v70 := Tryz.zeroValue78
  t72 := Tryz.underlying80
  a72 := Tryz.isAgg80
  z72 := Tryz.sizeOf80
  v72 := Tryz.zeroValue80
  t75 := Tryz.underlying65
  a75 := Tryz.isAgg65
  z75 := Tryz.sizeOf65
  v75 := Tryz.zeroValue65
  t76 := Tryz.underlying66
  a76 := Tryz.isAgg66
  z76 := Tryz.sizeOf66
  v76 := Tryz.zeroValue66
  t109 := Tryz.underlying76
  a109 := Tryz.isAgg76
  z109 := Tryz.sizeOf76
  v109 := Tryz.zeroValue76
  t127 := Tryz.underlying96
  a127 := Tryz.isAgg96
  z127 := Tryz.sizeOf96
  v127 := Tryz.zeroValue96
  t146 := Tryz.underlying91
  a146 := Tryz.isAgg91
  z146 := Tryz.sizeOf91
  v146 := Tryz.zeroValue91
  t148 := Tryz.underlying94
  a148 := Tryz.isAgg94
  z148 := Tryz.sizeOf94
  v148 := Tryz.zeroValue94
  t164 := Tryz.underlying105
  a164 := Tryz.isAgg105
  z164 := Tryz.sizeOf105
  v164 := Tryz.zeroValue105 }
theorem Tryz.Builder_Extra_105 : Builder.Extra Tryz.prog Tryz.lays105_ren := {
  sizeBuilder := by kernel_rfl
  liesBuilder := by kernel_rfl
  t5 := Tryz.underlying5
  a5 := Tryz.isAgg5
  z5 := Tryz.sizeOf5
  v5 := Tryz.zeroValue5
  infoByte := by kernel_rfl
  cellsByte := by kernel_rfl
  sizeByte := by kernel_rfl
  neB5 := by decide }
open Go.RowKit Go.Lib in
theorem Tryz.strings_Repeat (s : ByteArray) (c : Nat) (w : World) (hc : c ≤ 9223372036854775807) (hlen : s.size * c ≤ 140737488355328) :
    Calls Tryz.prog 34 #[.string s, .int .i64 c] w fun e w' => e = .returned (.string ⟨(Lib.repeatL s.data.toList c).toArray⟩) ∧ Below w.heap.size w w' := Any.strings_Repeat Tryz.lays105 Tryz.Builder_Extra_105 s c w hc hlen
end Go.Proofs
