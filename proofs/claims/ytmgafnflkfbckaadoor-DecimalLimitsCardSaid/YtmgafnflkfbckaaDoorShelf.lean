/- The library's contracts at this translation, laid by the kit's tools (lay-shelf, lay-plain), cut down to those that are used. -/
import Derived.Shelf.Strings.Builder1
import Derived.Shelf.Strings.Builder2
import Derived.Shelf.Small.Strs
import Derived.Shelf.Strings.BuilderF
import Derived.Shelf.Strconv.Atoi
import Derived.Shelf.Strconv.Itoa0
import Derived.Shelf.Strconv.Itoa1
import Derived.Shelf.LaysM
import Derived.Shelf.Strconv.Itoa2
import Derived.Shelf.Strconv.Itoa3
import Derived.Shelf.Strconv.AtoiErrFast
import Derived.Shelf.Strconv.ParseIntEmpty
import Derived.Shelf.Strconv.AtoiFail
import Derived.Shelf.Strconv.Clone
import Derived.Shelf.Strconv.SyntaxError
import Derived.Shelf.LaysC
import Derived.Shelf.Strconv.ToError
import Derived.Shelf.Strconv.Lower
import Derived.Shelf.Strconv.ParseUint10
import Derived.Shelf.Strconv.ParseUint10Empty
import Derived.Shelf.Strconv.ParseUint10Any
import Derived.Shelf.Strconv.ParseInt10
import Derived.Shelf.Strconv.AtoiLong
import Derived.Shelf.Strconv.AtoiInnerAll
import Derived.Shelf.Strconv.RangeError
import Derived.Shelf.Strconv.ToErrorRange
import Derived.Shelf.Strconv.AtoiAll
import Derived.Shelf.Strconv.ErrVarAll
import Derived.Shelf.Strings.Search1
import Derived.Shelf.Strings.Prefix
import Derived.Shelf.Bits.Mul64
import Derived.Shelf.Strings.Repeat
import Derived.Test.YtmgafnflkfbckaaDoorProg
namespace Go.Proofs
open Go.Shelf
def Tryd.lays137_ren : Go.Shelf.Ren := ⟨fun | 137 => 62 | 217 => 80 | 266 => 91 | n => n, fun | 9 => 9 | 5 => 5 | 3 => 3 | n => n, fun | n => n⟩
theorem Tryd.lays137 : Go.Proofs.Lays.n137 Tryd.prog Tryd.lays137_ren := {
  mixed := by kernel_rfl
  f137 := Tryd.func62.trans (congrArg some (by kernel_rfl))
  f217 := Tryd.func80.trans (congrArg some (by kernel_rfl))
  f266 := Tryd.func91.trans (congrArg some (by kernel_rfl))
  t3 := Tryd.underlying3
  a3 := Tryd.isAgg3
  z3 := Tryd.sizeOf3
  v3 := Tryd.zeroValue3
  t5 := Tryd.underlying5
  a5 := Tryd.isAgg5
  z5 := Tryd.sizeOf5
  v5 := Tryd.zeroValue5
  t9 := Tryd.underlying9
  a9 := Tryd.isAgg9
  z9 := Tryd.sizeOf9
  v9 := Tryd.zeroValue9 }
open Go.RowKit in
theorem Tryd.strings_IndexByte (s : ByteArray) (c : Int) (w : World) :
    Calls Tryd.prog 62 #[.string s, .int .u8 c] w fun e w' => e = .returned (.int .i64 (Lib.indexByte s.data.toList c.toNat.toUInt8)) ∧ w' = w := Any.strings_IndexByte Tryd.lays137 s c w
def Tryd.laysM171_ren : Go.Shelf.Ren := ⟨fun | 171 => 40 | 243 => 71 | 246 => 88 | 283 => 99 | 284 => 100 | 285 => 101 | 286 => 102 | 129 => 107 | 317 => 106 | 318 => 108 | 319 => 109 | 320 => 110 | 337 => 113 | 338 => 114 | n => n, fun | 3 => 3 | 9 => 9 | 2 => 2 | 4 => 4 | 171 => 123 | 0 => 0 | 53 => 107 | 37 => 57 | 5 => 5 | 173 => 126 | 212 => 134 | 51 => 104 | 20 => 20 | 213 => 135 | 46 => 86 | 232 => 143 | 233 => 144 | n => n, fun | 17 => 3 | 18 => 4 | 19 => 5 | n => n⟩
theorem Tryd.laysM171 : Go.Proofs.LaysM.n171 Tryd.prog Tryd.laysM171_ren := {
  mixed := by kernel_rfl
  f129 := Tryd.func107.trans (congrArg some (by kernel_rfl))
  f171 := Tryd.func40.trans (congrArg some (by kernel_rfl))
  f243 := Tryd.func71.trans (congrArg some (by kernel_rfl))
  f246 := Tryd.func88.trans (congrArg some (by kernel_rfl))
  f283 := Tryd.func99.trans (congrArg some (by kernel_rfl))
  f284 := Tryd.func100.trans (congrArg some (by kernel_rfl))
  f285 := Tryd.func101.trans (congrArg some (by kernel_rfl))
  f286 := Tryd.func102.trans (congrArg some (by kernel_rfl))
  f317 := Tryd.func106.trans (congrArg some (by kernel_rfl))
  f318 := Tryd.func108.trans (congrArg some (by kernel_rfl))
  f319 := Tryd.func109.trans (congrArg some (by kernel_rfl))
  f320 := Tryd.func110.trans (congrArg some (by kernel_rfl))
  f337 := Tryd.func113.trans (congrArg some (by kernel_rfl))
  f338 := Tryd.func114.trans (congrArg some (by kernel_rfl))
  t0 := Tryd.underlying0
  a0 := Tryd.isAgg0
  z0 := Tryd.sizeOf0
  v0 := Tryd.zeroValue0
  t2 := Tryd.underlying2
  a2 := Tryd.isAgg2
  z2 := Tryd.sizeOf2
  v2 := Tryd.zeroValue2
  t3 := Tryd.underlying3
  a3 := Tryd.isAgg3
  z3 := Tryd.sizeOf3
  v3 := Tryd.zeroValue3
  t4 := Tryd.underlying4
  a4 := Tryd.isAgg4
  z4 := Tryd.sizeOf4
  v4 := Tryd.zeroValue4
  t5 := Tryd.underlying5
  a5 := Tryd.isAgg5
  z5 := Tryd.sizeOf5
  v5 := Tryd.zeroValue5
  t9 := Tryd.underlying9
  a9 := Tryd.isAgg9
  z9 := Tryd.sizeOf9
  v9 := Tryd.zeroValue9
  t20 := Tryd.underlying20
  a20 := Tryd.isAgg20
  z20 := Tryd.sizeOf20
  v20 := Tryd.zeroValue20
  t37 := Tryd.underlying57
  a37 := Tryd.isAgg57
  z37 := Tryd.sizeOf57
  v37 := Tryd.zeroValue57
  t46 := Tryd.underlying86
  a46 := Tryd.isAgg86
  z46 := Tryd.sizeOf86
  v46 := Tryd.zeroValue86
  t51 := Tryd.underlying104
  a51 := Tryd.isAgg104
  z51 := Tryd.sizeOf104
  v51 := Tryd.zeroValue104
  t53 := Tryd.underlying107
  a53 := Tryd.isAgg107
  z53 := Tryd.sizeOf107
  v53 := Tryd.zeroValue107
  t171 := Tryd.underlying123
  a171 := Tryd.isAgg123
  z171 := Tryd.sizeOf123
  v171 := Tryd.zeroValue123
  t173 := Tryd.underlying126
  a173 := Tryd.isAgg126
  z173 := Tryd.sizeOf126
  v173 := Tryd.zeroValue126
  t212 := Tryd.underlying134
  a212 := Tryd.isAgg134
  z212 := Tryd.sizeOf134
  v212 := Tryd.zeroValue134
  t213 := Tryd.underlying135
  a213 := Tryd.isAgg135
  z213 := Tryd.sizeOf135
  t232 := Tryd.underlying143
  a232 := Tryd.isAgg143
  z232 := Tryd.sizeOf143
  v232 := Tryd.zeroValue143
  t233 := Tryd.underlying144
  a233 := Tryd.isAgg144
  z233 := Tryd.sizeOf144
  v233 := Tryd.zeroValue144
  g17 := by kernel_rfl
  g18 := by kernel_rfl
  g19 := by kernel_rfl
  i0 := by kernel_rfl
  i2 := by kernel_rfl
  i3 := by kernel_rfl
  i4 := by kernel_rfl
  i5 := by kernel_rfl
  i9 := by kernel_rfl
  i20 := by kernel_rfl
  i37 := by kernel_rfl
  i46 := by kernel_rfl
  i51 := by kernel_rfl
  i53 := by kernel_rfl
  i171 := by kernel_rfl
  i173 := by kernel_rfl
  i212 := by kernel_rfl
  i232 := by kernel_rfl
  i233 := by kernel_rfl
  m17 := by kernel_rfl
  m18 := by kernel_rfl
  m19 := by kernel_rfl }
open Go.RowKit Go.Sort Go.Lib in
theorem Tryd.strconv_Itoa (n : Int) (h0 : -9223372036854775808 ≤ n) (h1 : n ≤ 9223372036854775807) (w : World) (htab : Lib.TabIs Tryd.prog w "internal/strconv.uint64pow10" .u64 Lib.pow10Tab) :
    Calls Tryd.prog 40 #[.int .i64 n] w fun e w' => e = .returned (.string ⟨(Lib.itoa n).toArray⟩) ∧ ∃ k os, w' = grow (w.drewN k) os := Any.strconv_Itoa Tryd.laysM171 n h0 h1 w htab
def Tryd.laysC172_ren : Go.Shelf.Ren := ⟨fun | 172 => 63 | 244 => 81 | 245 => 82 | 247 => 92 | 279 => 93 | 280 => 94 | 281 => 95 | 282 => 96 | 287 => 103 | 316 => 104 | 171 => 40 | 205 => 105 | 321 => 111 | 322 => 112 | 243 => 71 | 246 => 88 | 283 => 99 | 284 => 100 | 285 => 101 | 286 => 102 | 129 => 107 | 317 => 106 | 318 => 108 | 319 => 109 | 320 => 110 | 337 => 113 | 338 => 114 | n => n, fun | 9 => 9 | 3 => 3 | 75 => 82 | 76 => 83 | 4 => 4 | 5 => 5 | 167 => 114 | 37 => 57 | 0 => 0 | 85 => 115 | 2 => 2 | 168 => 117 | 53 => 107 | 175 => 128 | 46 => 86 | 210 => 131 | 127 => 110 | 145 => 141 | 143 => 139 | 21 => 21 | 171 => 123 | 173 => 126 | 212 => 134 | 51 => 104 | 20 => 20 | 213 => 135 | 232 => 143 | 233 => 144 | 80 => 62 | n => n, fun | 15 => 1 | 16 => 2 | 17 => 3 | 18 => 4 | 19 => 5 | n => n⟩
theorem Tryd.laysC172 : Go.Proofs.LaysC.n172 Tryd.prog Tryd.laysC172_ren := {
  mixed := by kernel_rfl
  f129 := Tryd.func107.trans (congrArg some (by kernel_rfl))
  f171 := Tryd.func40.trans (congrArg some (by kernel_rfl))
  f172 := Tryd.func63.trans (congrArg some (by kernel_rfl))
  f205 := Tryd.func105.trans (congrArg some (by kernel_rfl))
  f243 := Tryd.func71.trans (congrArg some (by kernel_rfl))
  f244 := Tryd.func81.trans (congrArg some (by kernel_rfl))
  f245 := Tryd.func82.trans (congrArg some (by kernel_rfl))
  f246 := Tryd.func88.trans (congrArg some (by kernel_rfl))
  f247 := Tryd.func92.trans (congrArg some (by kernel_rfl))
  f279 := Tryd.func93.trans (congrArg some (by kernel_rfl))
  f280 := Tryd.func94.trans (congrArg some (by kernel_rfl))
  f281 := Tryd.func95.trans (congrArg some (by kernel_rfl))
  f282 := Tryd.func96.trans (congrArg some (by kernel_rfl))
  f283 := Tryd.func99.trans (congrArg some (by kernel_rfl))
  f284 := Tryd.func100.trans (congrArg some (by kernel_rfl))
  f285 := Tryd.func101.trans (congrArg some (by kernel_rfl))
  f286 := Tryd.func102.trans (congrArg some (by kernel_rfl))
  f287 := Tryd.func103.trans (congrArg some (by kernel_rfl))
  f316 := Tryd.func104.trans (congrArg some (by kernel_rfl))
  f317 := Tryd.func106.trans (congrArg some (by kernel_rfl))
  f318 := Tryd.func108.trans (congrArg some (by kernel_rfl))
  f319 := Tryd.func109.trans (congrArg some (by kernel_rfl))
  f320 := Tryd.func110.trans (congrArg some (by kernel_rfl))
  f321 := Tryd.func111.trans (congrArg some (by kernel_rfl))
  f322 := Tryd.func112.trans (congrArg some (by kernel_rfl))
  f337 := Tryd.func113.trans (congrArg some (by kernel_rfl))
  f338 := Tryd.func114.trans (congrArg some (by kernel_rfl))
  t0 := Tryd.underlying0
  a0 := Tryd.isAgg0
  z0 := Tryd.sizeOf0
  v0 := Tryd.zeroValue0
  t2 := Tryd.underlying2
  a2 := Tryd.isAgg2
  z2 := Tryd.sizeOf2
  v2 := Tryd.zeroValue2
  t3 := Tryd.underlying3
  a3 := Tryd.isAgg3
  z3 := Tryd.sizeOf3
  v3 := Tryd.zeroValue3
  t4 := Tryd.underlying4
  a4 := Tryd.isAgg4
  z4 := Tryd.sizeOf4
  v4 := Tryd.zeroValue4
  t5 := Tryd.underlying5
  a5 := Tryd.isAgg5
  z5 := Tryd.sizeOf5
  v5 := Tryd.zeroValue5
  t9 := Tryd.underlying9
  a9 := Tryd.isAgg9
  z9 := Tryd.sizeOf9
  v9 := Tryd.zeroValue9
  t20 := Tryd.underlying20
  a20 := Tryd.isAgg20
  z20 := Tryd.sizeOf20
  v20 := Tryd.zeroValue20
  t21 := Tryd.underlying21
  a21 := Tryd.isAgg21
  z21 := Tryd.sizeOf21
  v21 := Tryd.zeroValue21
  t37 := Tryd.underlying57
  a37 := Tryd.isAgg57
  z37 := Tryd.sizeOf57
  v37 := Tryd.zeroValue57
  t46 := Tryd.underlying86
  a46 := Tryd.isAgg86
  z46 := Tryd.sizeOf86
  v46 := Tryd.zeroValue86
  t51 := Tryd.underlying104
  a51 := Tryd.isAgg104
  z51 := Tryd.sizeOf104
  v51 := Tryd.zeroValue104
  t53 := Tryd.underlying107
  a53 := Tryd.isAgg107
  z53 := Tryd.sizeOf107
  v53 := Tryd.zeroValue107
  t75 := Tryd.underlying82
  a75 := Tryd.isAgg82
  z75 := Tryd.sizeOf82
  v75 := Tryd.zeroValue82
  t76 := Tryd.underlying83
  a76 := Tryd.isAgg83
  z76 := Tryd.sizeOf83
  v76 := Tryd.zeroValue83
  t85 := Tryd.underlying115
  a85 := Tryd.isAgg115
  z85 := Tryd.sizeOf115
  v85 := Tryd.zeroValue115
  t127 := Tryd.underlying110
  a127 := Tryd.isAgg110
  z127 := Tryd.sizeOf110
  v127 := Tryd.zeroValue110
  t143 := Tryd.underlying139
  a143 := Tryd.isAgg139
  z143 := Tryd.sizeOf139
  v143 := Tryd.zeroValue139
  t145 := Tryd.underlying141
  a145 := Tryd.isAgg141
  z145 := Tryd.sizeOf141
  v145 := Tryd.zeroValue141
  t167 := Tryd.underlying114
  a167 := Tryd.isAgg114
  z167 := Tryd.sizeOf114
  v167 := Tryd.zeroValue114
  t168 := Tryd.underlying117
  a168 := Tryd.isAgg117
  z168 := Tryd.sizeOf117
  v168 := Tryd.zeroValue117
  t171 := Tryd.underlying123
  a171 := Tryd.isAgg123
  z171 := Tryd.sizeOf123
  v171 := Tryd.zeroValue123
  t173 := Tryd.underlying126
  a173 := Tryd.isAgg126
  z173 := Tryd.sizeOf126
  v173 := Tryd.zeroValue126
  t175 := Tryd.underlying128
  a175 := Tryd.isAgg128
  z175 := Tryd.sizeOf128
  v175 := Tryd.zeroValue128
  t210 := Tryd.underlying131
  a210 := Tryd.isAgg131
  z210 := Tryd.sizeOf131
  v210 := Tryd.zeroValue131
  t212 := Tryd.underlying134
  a212 := Tryd.isAgg134
  z212 := Tryd.sizeOf134
  v212 := Tryd.zeroValue134
  t213 := Tryd.underlying135
  a213 := Tryd.isAgg135
  z213 := Tryd.sizeOf135
  t232 := Tryd.underlying143
  a232 := Tryd.isAgg143
  z232 := Tryd.sizeOf143
  v232 := Tryd.zeroValue143
  t233 := Tryd.underlying144
  a233 := Tryd.isAgg144
  z233 := Tryd.sizeOf144
  v233 := Tryd.zeroValue144
  g15 := by kernel_rfl
  g16 := by kernel_rfl
  g17 := by kernel_rfl
  g18 := by kernel_rfl
  g19 := by kernel_rfl
  t80 := Tryd.underlying62
  a80 := Tryd.isAgg62
  z80 := Tryd.sizeOf62
  v80 := Tryd.zeroValue62
  i0 := by kernel_rfl
  i2 := by kernel_rfl
  i3 := by kernel_rfl
  i4 := by kernel_rfl
  i5 := by kernel_rfl
  i9 := by kernel_rfl
  i20 := by kernel_rfl
  i21 := by kernel_rfl
  i37 := by kernel_rfl
  i46 := by kernel_rfl
  i51 := by kernel_rfl
  i53 := by kernel_rfl
  i75 := by kernel_rfl
  i76 := by kernel_rfl
  i80 := by kernel_rfl
  i85 := by kernel_rfl
  i127 := by kernel_rfl
  i143 := by kernel_rfl
  i145 := by kernel_rfl
  i167 := by kernel_rfl
  i168 := by kernel_rfl
  i171 := by kernel_rfl
  i173 := by kernel_rfl
  i175 := by kernel_rfl
  i210 := by kernel_rfl
  i212 := by kernel_rfl
  i232 := by kernel_rfl
  i233 := by kernel_rfl
  m15 := by kernel_rfl
  m16 := by kernel_rfl
  m17 := by kernel_rfl
  m18 := by kernel_rfl
  m19 := by kernel_rfl
  c0 := by kernel_rfl
  c2 := by kernel_rfl
  c3 := by kernel_rfl
  c4 := by kernel_rfl
  c5 := by kernel_rfl
  c9 := by kernel_rfl
  c20 := by kernel_rfl
  c21 := by kernel_rfl
  c37 := by kernel_rfl
  c46 := by kernel_rfl
  c51 := by kernel_rfl
  c53 := by kernel_rfl
  c75 := by kernel_rfl
  c76 := by kernel_rfl
  c80 := by kernel_rfl
  c85 := by kernel_rfl
  c127 := by kernel_rfl
  c143 := by kernel_rfl
  c145 := by kernel_rfl
  c167 := by kernel_rfl
  c168 := by kernel_rfl
  c171 := by kernel_rfl
  c173 := by kernel_rfl
  c175 := by kernel_rfl
  c210 := by kernel_rfl
  c212 := by kernel_rfl
  c213 := by kernel_rfl
  c232 := by kernel_rfl
  c233 := by kernel_rfl }
open Go.RowKit in
theorem Tryd.strconv_Atoi_ok (s : ByteArray) (hmax : s.size ≤ 9223372036854775806) (v : Int) (h : Lib.atoiAll s.data.toList = .ok v) (w : World) :
    Calls Tryd.prog 63 #[.string s] w fun e w' => e = .returned (.tuple #[.int .i64 v, .nilIface]) ∧ (w' = w ∨ ∃ t, w' = Lib.bytesWorld w 5 t) := Any.strconv_Atoi_ok Tryd.laysC172 s hmax v h w
open Go.RowKit in
theorem Tryd.strconv_Atoi_bad (s : ByteArray) (hlim : s.size ≤ 281474976710656) (h1 : ∀ v, Lib.atoiAll s.data.toList ≠ .ok v) (h2 : Lib.atoiAll s.data.toList ≠ .range) (ev : Value) (w : World) (hv : w.cell? ⟨1, 0, none⟩ = some ev) (hev : ev = .nilIface ∨ ∃ te pe, ev = .iface te pe) :
    Calls Tryd.prog 63 #[.string s] w fun e w' => ∃ N, e = .returned (.tuple #[.int .i64 (0), .iface 117 (.pointer (some ⟨N, 0, none⟩))]) ∧ w.heap.size ≤ N ∧ w'.heap[N]? = some (.cells #[.string ⟨#[65, 116, 111, 105]⟩, .string s, ev] 131 (0, 0)) ∧ Below w.heap.size w w' := by
  cases h : Lib.atoiAll s.data.toList with
  | ok v => exact absurd h (h1 v)
  | range => exact absurd h h2
  | _ => exact Any.strconv_Atoi_syntax Tryd.laysC172 s hlim h ev w hv hev
open Go.RowKit in
theorem Tryd.strconv_Atoi_range (s : ByteArray) (hlim : s.size ≤ 281474976710656) (h : Lib.atoiAll s.data.toList = .range) (ev : Value) (w : World) (hv : w.cell? ⟨2, 0, none⟩ = some ev) (hev : ev = .nilIface ∨ ∃ te pe, ev = .iface te pe) :
    Calls Tryd.prog 63 #[.string s] w fun e w' => ∃ N, e = .returned (.tuple #[.int .i64 (Lib.atoiSat s.data.toList), .iface 117 (.pointer (some ⟨N, 0, none⟩))]) ∧ w.heap.size ≤ N ∧ w'.heap[N]? = some (.cells #[.string ⟨#[65, 116, 111, 105]⟩, .string s, ev] 131 (0, 0)) ∧ Below w.heap.size w w' := Any.strconv_Atoi_range Tryd.laysC172 s hlim h ev w hv hev
def Tryd.lays99_ren : Go.Shelf.Ren := ⟨fun | 99 => 66 | 206 => 85 | n => n, fun | 9 => 9 | 4 => 4 | 3 => 3 | n => n, fun | n => n⟩
theorem Tryd.lays99 : Go.Proofs.Lays.n99 Tryd.prog Tryd.lays99_ren := {
  mixed := by kernel_rfl
  f99 := Tryd.func66.trans (congrArg some (by kernel_rfl))
  f206 := Tryd.func85.trans (congrArg some (by kernel_rfl))
  t3 := Tryd.underlying3
  a3 := Tryd.isAgg3
  z3 := Tryd.sizeOf3
  v3 := Tryd.zeroValue3
  t4 := Tryd.underlying4
  a4 := Tryd.isAgg4
  z4 := Tryd.sizeOf4
  v4 := Tryd.zeroValue4
  t9 := Tryd.underlying9
  a9 := Tryd.isAgg9
  z9 := Tryd.sizeOf9
  v9 := Tryd.zeroValue9 }
open Go.RowKit Go.Lib in
theorem Tryd.strings_HasPrefix (s p : ByteArray) (w : World) :
    Calls Tryd.prog 66 #[.string s, .string p] w fun e w' => e = .returned (.bool (Lib.hasPrefix s.data.toList p.data.toList)) ∧ w' = w := Any.strings_HasPrefix Tryd.lays99 s p w
def Tryd.lays101_ren : Go.Shelf.Ren := ⟨fun | 101 => 50 | 208 => 75 | 206 => 85 | n => n, fun | 9 => 9 | 4 => 4 | 3 => 3 | n => n, fun | n => n⟩
theorem Tryd.lays101 : Go.Proofs.Lays.n101 Tryd.prog Tryd.lays101_ren := {
  mixed := by kernel_rfl
  f101 := Tryd.func50.trans (congrArg some (by kernel_rfl))
  f206 := Tryd.func85.trans (congrArg some (by kernel_rfl))
  f208 := Tryd.func75.trans (congrArg some (by kernel_rfl))
  t3 := Tryd.underlying3
  a3 := Tryd.isAgg3
  z3 := Tryd.sizeOf3
  v3 := Tryd.zeroValue3
  t4 := Tryd.underlying4
  a4 := Tryd.isAgg4
  z4 := Tryd.sizeOf4
  v4 := Tryd.zeroValue4
  t9 := Tryd.underlying9
  a9 := Tryd.isAgg9
  z9 := Tryd.sizeOf9
  v9 := Tryd.zeroValue9 }
open Go.RowKit Go.Lib in
theorem Tryd.strings_TrimPrefix (s p : ByteArray) (w : World) :
    Calls Tryd.prog 50 #[.string s, .string p] w fun e w' => e = .returned (.string ⟨(Lib.trimPrefix s.data.toList p.data.toList).toArray⟩) ∧ w' = w := Any.strings_TrimPrefix Tryd.lays101 s p w
def Tryd.lays105_ren : Go.Shelf.Ren := ⟨fun | 105 => 39 | 212 => 65 | 99 => 66 | 165 => 67 | 166 => 68 | 170 => 69 | 169 => 70 | 263 => 83 | 264 => 84 | 206 => 85 | 240 => 86 | 241 => 87 | 276 => 97 | 277 => 98 | n => n, fun | 9 => 9 | 3 => 3 | 4 => 4 | 20 => 20 | 0 => 0 | 46 => 86 | 109 => 87 | 5 => 5 | 72 => 92 | 76 => 83 | 51 => 104 | 146 => 105 | 53 => 107 | 148 => 108 | 70 => 90 | 37 => 57 | 75 => 82 | 127 => 110 | 164 => 120 | 80 => 62 | n => n, fun | n => n⟩
theorem Tryd.lays105 : Go.Proofs.Lays.n105 Tryd.prog Tryd.lays105_ren := {
  mixed := by kernel_rfl
  f99 := Tryd.func66.trans (congrArg some (by kernel_rfl))
  f105 := Tryd.func39.trans (congrArg some (by kernel_rfl))
  f165 := Tryd.func67.trans (congrArg some (by kernel_rfl))
  f166 := Tryd.func68.trans (congrArg some (by kernel_rfl))
  f169 := Tryd.func70.trans (congrArg some (by kernel_rfl))
  f170 := Tryd.func69.trans (congrArg some (by kernel_rfl))
  f206 := Tryd.func85.trans (congrArg some (by kernel_rfl))
  f212 := Tryd.func65.trans (congrArg some (by kernel_rfl))
  f240 := Tryd.func86.trans (congrArg some (by kernel_rfl))
  f241 := Tryd.func87.trans (congrArg some (by kernel_rfl))
  f263 := Tryd.func83.trans (congrArg some (by kernel_rfl))
  f264 := Tryd.func84.trans (congrArg some (by kernel_rfl))
  f276 := Tryd.func97.trans (congrArg some (by kernel_rfl))
  f277 := Tryd.func98.trans (congrArg some (by kernel_rfl))
  t0 := Tryd.underlying0
  a0 := Tryd.isAgg0
  z0 := Tryd.sizeOf0
  v0 := Tryd.zeroValue0
  t3 := Tryd.underlying3
  a3 := Tryd.isAgg3
  z3 := Tryd.sizeOf3
  v3 := Tryd.zeroValue3
  t4 := Tryd.underlying4
  a4 := Tryd.isAgg4
  z4 := Tryd.sizeOf4
  v4 := Tryd.zeroValue4
  t5 := Tryd.underlying5
  a5 := Tryd.isAgg5
  z5 := Tryd.sizeOf5
  v5 := Tryd.zeroValue5
  t9 := Tryd.underlying9
  a9 := Tryd.isAgg9
  z9 := Tryd.sizeOf9
  v9 := Tryd.zeroValue9
  t20 := Tryd.underlying20
  a20 := Tryd.isAgg20
  z20 := Tryd.sizeOf20
  v20 := Tryd.zeroValue20
  t37 := Tryd.underlying57
  a37 := Tryd.isAgg57
  z37 := Tryd.sizeOf57
  v37 := Tryd.zeroValue57
  t46 := Tryd.underlying86
  a46 := Tryd.isAgg86
  z46 := Tryd.sizeOf86
  v46 := Tryd.zeroValue86
  t51 := Tryd.underlying104
  a51 := Tryd.isAgg104
  z51 := Tryd.sizeOf104
  v51 := Tryd.zeroValue104
  t53 := Tryd.underlying107
  a53 := Tryd.isAgg107
  z53 := Tryd.sizeOf107
  v53 := Tryd.zeroValue107
  t70 := Tryd.underlying90
  a70 := Tryd.isAgg90
  z70 := Tryd.sizeOf90
  v70 := Tryd.zeroValue90
  t72 := Tryd.underlying92
  a72 := Tryd.isAgg92
  z72 := Tryd.sizeOf92
  v72 := Tryd.zeroValue92
  t75 := Tryd.underlying82
  a75 := Tryd.isAgg82
  z75 := Tryd.sizeOf82
  v75 := Tryd.zeroValue82
  t76 := Tryd.underlying83
  a76 := Tryd.isAgg83
  z76 := Tryd.sizeOf83
  v76 := Tryd.zeroValue83
  t109 := Tryd.underlying87
  a109 := Tryd.isAgg87
  z109 := Tryd.sizeOf87
  v109 := Tryd.zeroValue87
  t127 := Tryd.underlying110
  a127 := Tryd.isAgg110
  z127 := Tryd.sizeOf110
  v127 := Tryd.zeroValue110
  t146 := Tryd.underlying105
  a146 := Tryd.isAgg105
  z146 := Tryd.sizeOf105
  v146 := Tryd.zeroValue105
  t148 := Tryd.underlying108
  a148 := Tryd.isAgg108
  z148 := Tryd.sizeOf108
  v148 := Tryd.zeroValue108
  t164 := Tryd.underlying120
  a164 := Tryd.isAgg120
  z164 := Tryd.sizeOf120
  v164 := Tryd.zeroValue120 }
theorem Tryd.Builder_Extra_105 : Builder.Extra Tryd.prog Tryd.lays105_ren := {
  sizeBuilder := by kernel_rfl
  liesBuilder := by kernel_rfl
  t5 := Tryd.underlying5
  a5 := Tryd.isAgg5
  z5 := Tryd.sizeOf5
  v5 := Tryd.zeroValue5
  infoByte := by kernel_rfl
  cellsByte := by kernel_rfl
  sizeByte := by kernel_rfl
  neB5 := by decide }
open Go.RowKit Go.Lib in
theorem Tryd.strings_Repeat (s : ByteArray) (c : Nat) (w : World) (hc : c ≤ 9223372036854775807) (hlen : s.size * c ≤ 140737488355328) :
    Calls Tryd.prog 39 #[.string s, .int .i64 c] w fun e w' => e = .returned (.string ⟨(Lib.repeatL s.data.toList c).toArray⟩) ∧ Below w.heap.size w w' := Any.strings_Repeat Tryd.lays105 Tryd.Builder_Extra_105 s c w hc hlen
end Go.Proofs
