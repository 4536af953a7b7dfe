/- floatBits of the library's decimal: the scope and its labels; what follows the labels. floatBits of the library's decimal: behind the rounding. The library's decimal: what a shift leaves of its state; a shift to the right by at most 79. -/
import Derived.Test.YtjapgpmoojfhnaaGreatDoorB07
import Derived.Test.YtjapgpmoojfhnaaGreatDoorB30
import Derived.ScopeJumps
import Derived.WalkMore
import Derived.Deep.LoopGhost
set_option maxHeartbeats 16000000
set_option maxRecDepth 100000
set_option linter.unusedSimpArgs false
set_option linter.unusedVariables false
namespace Go
def Exit.labels (P : Program) (c : Code) (Q : Exit → Act → World → Prop) : Exit → Act → World → Prop
 | .goto l, a, w => ∃ r, findLabel c l = some r ∧ r.wp P (Exit.noGoto Q) a w
 | e, a, w => Q e a w
section
variable {P : Program} {a : Act} {w : World} {Q : Exit → Act → World → Prop}
@[go_sem] theorem Exit.labels_normal (c : Code) : Exit.labels P c Q .normal a w = Q .normal a w := rfl
@[go_sem] theorem Exit.labels_exit (c : Code) (id : Nat) : Exit.labels P c Q (.exit id) a w = Q (.exit id) a w := rfl
@[go_sem] theorem Exit.labels_ret (c : Code) : Exit.labels P c Q .ret a w = Q .ret a w := rfl
@[go_sem] theorem Exit.labels_panic (c : Code) (ch : List PanicEntry) : Exit.labels P c Q (.panic ch) a w = Q (.panic ch) a w := rfl
end
end Go
namespace Go.Proofs.YtjapgpmoojfhnaaGreatDoor
open Go.RowKit Go.Lib
theorem i64_and_nat (a b : Nat) (ha : a < 9223372036854775808) (hb : b < 9223372036854775808) : bits .and .i64 (a : Int) (b : Int) = ((a &&& b : Nat) : Int) := by
 have hx : a &&& b < 2 ^ 63 := Nat.and_lt_two_pow _ (by omega)
 show IntKind.i64.wrap ((BitVec.ofInt 64 (a : Int) &&& BitVec.ofInt 64 (b : Int)).toNat : Int) = _
 rw [BitVec.toNat_and, ofInt_u64 a (by omega), ofInt_u64 b (by omega), IntKind.wrap_i64]
 omega
theorem u64_or_add (a b : Nat) (k : Nat) (ha : a < 2 ^ k) (hk : k ≤ 63) (hb : b * 2 ^ k < 18446744073709551616) : bits .or .u64 (a : Int) ((b * 2 ^ k : Nat) : Int) = ((b * 2 ^ k + a : Nat) : Int) := by
 have h1 : 2 ^ k ≤ 2 ^ 63 := Nat.pow_le_pow_right (by decide) hk
 rw [u64_or_nat a (b * 2 ^ k) (by omega) hb, Nat.or_comm, Nat.mul_comm, ← Nat.two_pow_add_eq_or_of_lt ha]
structure Inf64 (w : World) : Prop where
 mb : w.cell? ⟨9, 0, none⟩ = some (.int .u64 52)
 eb : w.cell? ⟨9, 1, none⟩ = some (.int .u64 11)
 bias : w.cell? ⟨9, 2, none⟩ = some (.int .i64 (-1023))
theorem Inf64.on {w w' : World} {X : Nat} (h : Inf64 w) (hb : Below X w w') (h1 : 9 < X) : Inf64 w' := ⟨(hb.cell h1).trans h.mb, (hb.cell h1).trans h.eb, (hb.cell h1).trans h.bias⟩
def scopeOf : Code → Code
 | .seq _ b => scopeOf b
 | .scope c => c
 | c => c
noncomputable def body196 : Code := scopeOf (Tryz.f196.body.getD .skip)
noncomputable def lab196 (l : Nat) : Code := (findLabel body196 l).getD .skip
def tlC : Code → Code
 | .seq _ b => b
 | c => c
def g2 (g : Bool) : Nat := if g then 9223372036854775808 else 0
def FbOut (X : Nat) (g : Bool) (r : Nat) (o : Bool) (w : World) (x : Ending) (w' : World) : Prop := x = .returned (.tuple #[.int .u64 ((g2 g + r : Nat) : Int), .bool o]) ∧ Below X w w'
theorem fb_outK (X : Nat) (D : List Nat) (nd dp : Int) (g t o : Bool) (m x r : Nat) (hm : m < 18446744073709551616) (hx : x ≤ 2047) (hr : x * 4503599627370496 + m % 4503599627370496 = r) (w w0 : World) (u2 u3 u4 u8 u9 u10 u11 u12 u13 u14 u15 u16 u17 u18 u19 u20 u21 u22 u23 u24 u25 u26 u27 u28 u29 u30 u31 u32 u33 u34 u35 u36 u37 u38 u39 u40 u41 u42 u43 u44 u45 u46 u47 u48 u49 u50 u51 u52 u53 u54 u55 u56 u57 u58 u59 u60 u61 u62 u63 u64 u65 u66 u67 u68 u69 u70 u71 u72 u73 u74 u75 u76 u77 u78 u79 u80 u81 u82 u83 u84 u85 u86 u87 u88 u89 u90 u91 u92 u93 u94 u95 u96 u97 u98 u99 u100 u101 u102 u103 u104 u105 u106 u107 u108 u109 u110 u111 u112 u113 u114 u115 u116 u117 u118 u119 u120 u121 u122 u123 u124 u125 u126 u127 u128 u129 u130 u131 u132 u133 u134 u135 u136 u137 u138 u139 u140 u141 u142 u143 u144 u145 u146 u147 u148 u149 u150 u151 u152 u153 u154 u155 u156 u157 u158 u159 u160 u161 u162 u163 u164 u165 u166 u167 u168 u169 u170 u171 u172 u173 u174 u175 u176 u177 u178 u179 u180 u181 u182 u183 u184 u185 u186 u187 u188 u189 u190 u191 u192 u193 u194 u195 u196 u197 u198 u199 u200 u201 u202 u203 u204 u205 u206 u207 u208 u209 u210 u211 u212 u213 u214 u215 u216 u217 u218 u219 u220 u221 u222 u223 u224 u225 u226 u227 u228 u229 u230 u231 u232 u233 u234 u235 u236 u237 u238 u239 u240 u241 u242 : Value) {R : Ending → World → Prop} (hR : ∀ x w', FbOut X g r o w x w' → R x w') {K : Act → World → Prop} (hK : ∀ a w', Code.wp Tryz.prog (tlC (lab196 0)) (Exit.noGoto (bodyPost Tryz.prog Tryz.f196 R)) a w' → K a w') (hI : Inf64 w0) (hX : DcAt w0 X D nd dp g t) (hb : Below X w w0) :
 K ⟨#[.pointer (some ⟨X, 0, none⟩), .pointer (some ⟨9, 0, none⟩), u2, u3, u4, .bool o, .int .i64 ((x : Int) - 1023), .int .u64 (m : Int), u8, u9, u10, u11, u12, u13, u14, u15, u16, u17, u18, u19, u20, u21, u22, u23, u24, u25, u26, u27, u28, u29, u30, u31, u32, u33, u34, u35, u36, u37, u38, u39, u40, u41, u42, u43, u44, u45, u46, u47, u48, u49, u50, u51, u52, u53, u54, u55, u56, u57, u58, u59, u60, u61, u62, u63, u64, u65, u66, u67, u68, u69, u70, u71, u72, u73, u74, u75, u76, u77, u78, u79, u80, u81, u82, u83, u84, u85, u86, u87, u88, u89, u90, u91, u92, u93, u94, u95, u96, u97, u98, u99, u100, u101, u102, u103, u104, u105, u106, u107, u108, u109, u110, u111, u112, u113, u114, u115, u116, u117, u118, u119, u120, u121, u122, u123, u124, u125, u126, u127, u128, u129, u130, u131, u132, u133, u134, u135, u136, u137, u138, u139, u140, u141, u142, u143, u144, u145, u146, u147, u148, u149, u150, u151, u152, u153, u154, u155, u156, u157, u158, u159, u160, u161, u162, u163, u164, u165, u166, u167, u168, u169, u170, u171, u172, u173, u174, u175, u176, u177, u178, u179, u180, u181, u182, u183, u184, u185, u186, u187, u188, u189, u190, u191, u192, u193, u194, u195, u196, u197, u198, u199, u200, u201, u202, u203, u204, u205, u206, u207, u208, u209, u210, u211, u212, u213, u214, u215, u216, u217, u218, u219, u220, u221, u222, u223, u224, u225, u226, u227, u228, u229, u230, u231, u232, u233, u234, u235, u236, u237, u238, u239, u240, u241, u242], []⟩ w0 := by
 refine hK _ _ ?_
 conv => arg 2; whnf
 have i0 := hI.mb
 have i1 := hI.eb
 have i2 := hI.bias
 have x2 := hX.c2
 obtain ⟨b, hbm⟩ : ∃ b, m % 4503599627370496 = b := ⟨_, rfl⟩
 rw [hbm] at hr
 have s1 : bits .and .u64 (m : Int) 4503599627370495 = (b : Int) := by
  rw [show (4503599627370495 : Int) = ((2 ^ 52 - 1 : Nat) : Int) from rfl, u64_and_nat m _ hm (by decide), Nat.and_two_pow_sub_one_eq_mod, ← hbm]
 have s2 : IntKind.i64.wrap ((x : Int) - 1023 - -1023) = (x : Int) := by rw [IntKind.wrap_i64]; omega
 have s3 : bits .and .i64 (x : Int) 2047 = (x : Int) := by
  rw [show (2047 : Int) = ((2 ^ 11 - 1 : Nat) : Int) from rfl, i64_and_nat x _ (by omega) (by decide), Nat.and_two_pow_sub_one_eq_mod, Nat.mod_eq_of_lt (by omega)]
 have s4 : IntKind.u64.wrap (x : Int) = (x : Int) := by rw [IntKind.wrap_u64]; omega
 obtain ⟨y, hy⟩ : ∃ y, x * 4503599627370496 = y := ⟨_, rfl⟩
 have s5 : IntKind.u64.wrap ((x : Int) * 4503599627370496) = (y : Int) := by rw [IntKind.wrap_u64]; omega
 have s6 : bits .or .u64 (b : Int) (y : Int) = (r : Int) := by
  have := u64_or_add b x 52 (by rw [← hbm]; exact Nat.mod_lt _ (by decide)) (by decide) (by omega)
  rw [show x * 2 ^ 52 = y from hy] at this
  rw [this]
  omega
 have hr63 : r < 2 ^ 63 := by omega
 have s7 : bits .or .u64 (r : Int) 9223372036854775808 = ((9223372036854775808 + r : Nat) : Int) := u64_or_add r 1 63 hr63 (by decide) (by decide)
 have HB := Lib.hid hb
 have HRR := Lib.hid hR
 clear hI hX hb hr hy hbm hr63 hK hR
 cases g with
 | false =>
   go_wp2_with fail
   go_quiet (fail)
   go_wp2_with fail
   exact HRR.out _ _ ⟨by rw [show g2 false + r = r from Nat.zero_add r]; rfl, below_drewN HB.out _⟩
 | true =>
   go_wp2_with fail
   go_quiet (fail)
   go_wp2_with fail
   go_quiet (fail)
   go_wp2_with fail
   exact HRR.out _ _ ⟨by rw [show ((g2 true + r : Nat) : Int) = 9223372036854775808 + (r : Int) from Int.natCast_add _ _]; rfl, below_drewN (below_drewN HB.out _) _⟩
theorem fb_out (X : Nat) (D : List Nat) (nd dp : Int) (g t o : Bool) (m x r : Nat) (hm : m < 18446744073709551616) (hx : x ≤ 2047) (hr : x * 4503599627370496 + m % 4503599627370496 = r) (w w0 : World) (u2 u3 u4 u8 u9 u10 u11 u12 u13 u14 u15 u16 u17 u18 u19 u20 u21 u22 u23 u24 u25 u26 u27 u28 u29 u30 u31 u32 u33 u34 u35 u36 u37 u38 u39 u40 u41 u42 u43 u44 u45 u46 u47 u48 u49 u50 u51 u52 u53 u54 u55 u56 u57 u58 u59 u60 u61 u62 u63 u64 u65 u66 u67 u68 u69 u70 u71 u72 u73 u74 u75 u76 u77 u78 u79 u80 u81 u82 u83 u84 u85 u86 u87 u88 u89 u90 u91 u92 u93 u94 u95 u96 u97 u98 u99 u100 u101 u102 u103 u104 u105 u106 u107 u108 u109 u110 u111 u112 u113 u114 u115 u116 u117 u118 u119 u120 u121 u122 u123 u124 u125 u126 u127 u128 u129 u130 u131 u132 u133 u134 u135 u136 u137 u138 u139 u140 u141 u142 u143 u144 u145 u146 u147 u148 u149 u150 u151 u152 u153 u154 u155 u156 u157 u158 u159 u160 u161 u162 u163 u164 u165 u166 u167 u168 u169 u170 u171 u172 u173 u174 u175 u176 u177 u178 u179 u180 u181 u182 u183 u184 u185 u186 u187 u188 u189 u190 u191 u192 u193 u194 u195 u196 u197 u198 u199 u200 u201 u202 u203 u204 u205 u206 u207 u208 u209 u210 u211 u212 u213 u214 u215 u216 u217 u218 u219 u220 u221 u222 u223 u224 u225 u226 u227 u228 u229 u230 u231 u232 u233 u234 u235 u236 u237 u238 u239 u240 u241 u242 : Value) {R : Ending → World → Prop} (hR : ∀ x w', FbOut X g r o w x w' → R x w') (hI : Inf64 w0) (hX : DcAt w0 X D nd dp g t) (hb : Below X w w0) :
 Code.wp Tryz.prog (lab196 0) (Exit.noGoto (bodyPost Tryz.prog Tryz.f196 R)) ⟨#[.pointer (some ⟨X, 0, none⟩), .pointer (some ⟨9, 0, none⟩), u2, u3, u4, .bool o, .int .i64 ((x : Int) - 1023), .int .u64 (m : Int), u8, u9, u10, u11, u12, u13, u14, u15, u16, u17, u18, u19, u20, u21, u22, u23, u24, u25, u26, u27, u28, u29, u30, u31, u32, u33, u34, u35, u36, u37, u38, u39, u40, u41, u42, u43, u44, u45, u46, u47, u48, u49, u50, u51, u52, u53, u54, u55, u56, u57, u58, u59, u60, u61, u62, u63, u64, u65, u66, u67, u68, u69, u70, u71, u72, u73, u74, u75, u76, u77, u78, u79, u80, u81, u82, u83, u84, u85, u86, u87, u88, u89, u90, u91, u92, u93, u94, u95, u96, u97, u98, u99, u100, u101, u102, u103, u104, u105, u106, u107, u108, u109, u110, u111, u112, u113, u114, u115, u116, u117, u118, u119, u120, u121, u122, u123, u124, u125, u126, u127, u128, u129, u130, u131, u132, u133, u134, u135, u136, u137, u138, u139, u140, u141, u142, u143, u144, u145, u146, u147, u148, u149, u150, u151, u152, u153, u154, u155, u156, u157, u158, u159, u160, u161, u162, u163, u164, u165, u166, u167, u168, u169, u170, u171, u172, u173, u174, u175, u176, u177, u178, u179, u180, u181, u182, u183, u184, u185, u186, u187, u188, u189, u190, u191, u192, u193, u194, u195, u196, u197, u198, u199, u200, u201, u202, u203, u204, u205, u206, u207, u208, u209, u210, u211, u212, u213, u214, u215, u216, u217, u218, u219, u220, u221, u222, u223, u224, u225, u226, u227, u228, u229, u230, u231, u232, u233, u234, u235, u236, u237, u238, u239, u240, u241, u242], []⟩ w0 := by
 have h := fb_outK X D nd dp g t o m x r hm hx hr w w0 u2 u3 u4 u8 u9 u10 u11 u12 u13 u14 u15 u16 u17 u18 u19 u20 u21 u22 u23 u24 u25 u26 u27 u28 u29 u30 u31 u32 u33 u34 u35 u36 u37 u38 u39 u40 u41 u42 u43 u44 u45 u46 u47 u48 u49 u50 u51 u52 u53 u54 u55 u56 u57 u58 u59 u60 u61 u62 u63 u64 u65 u66 u67 u68 u69 u70 u71 u72 u73 u74 u75 u76 u77 u78 u79 u80 u81 u82 u83 u84 u85 u86 u87 u88 u89 u90 u91 u92 u93 u94 u95 u96 u97 u98 u99 u100 u101 u102 u103 u104 u105 u106 u107 u108 u109 u110 u111 u112 u113 u114 u115 u116 u117 u118 u119 u120 u121 u122 u123 u124 u125 u126 u127 u128 u129 u130 u131 u132 u133 u134 u135 u136 u137 u138 u139 u140 u141 u142 u143 u144 u145 u146 u147 u148 u149 u150 u151 u152 u153 u154 u155 u156 u157 u158 u159 u160 u161 u162 u163 u164 u165 u166 u167 u168 u169 u170 u171 u172 u173 u174 u175 u176 u177 u178 u179 u180 u181 u182 u183 u184 u185 u186 u187 u188 u189 u190 u191 u192 u193 u194 u195 u196 u197 u198 u199 u200 u201 u202 u203 u204 u205 u206 u207 u208 u209 u210 u211 u212 u213 u214 u215 u216 u217 u218 u219 u220 u221 u222 u223 u224 u225 u226 u227 u228 u229 u230 u231 u232 u233 u234 u235 u236 u237 u238 u239 u240 u241 u242 hR (K := fun a w' => Code.wp Tryz.prog (tlC (lab196 0)) (Exit.noGoto (bodyPost Tryz.prog Tryz.f196 R)) a w') (fun _ _ h => h) hI hX hb
 conv => arg 2; whnf
 exact wp_seq (wp_skip h)
theorem fb_inf (X : Nat) (D : List Nat) (nd dp : Int) (g t : Bool) (w w0 : World) (u2 u3 u4 u5 u6 u7 u8 u9 u10 u11 u12 u13 u14 u15 u16 u17 u18 u19 u20 u21 u22 u23 u24 u25 u26 u27 u28 u29 u30 u31 u32 u33 u34 u35 u36 u37 u38 u39 u40 u41 u42 u43 u44 u45 u46 u47 u48 u49 u50 u51 u52 u53 u54 u55 u56 u57 u58 u59 u60 u61 u62 u63 u64 u65 u66 u67 u68 u69 u70 u71 u72 u73 u74 u75 u76 u77 u78 u79 u80 u81 u82 u83 u84 u85 u86 u87 u88 u89 u90 u91 u92 u93 u94 u95 u96 u97 u98 u99 u100 u101 u102 u103 u104 u105 u106 u107 u108 u109 u110 u111 u112 u113 u114 u115 u116 u117 u118 u119 u120 u121 u122 u123 u124 u125 u126 u127 u128 u129 u130 u131 u132 u133 u134 u135 u136 u137 u138 u139 u140 u141 u142 u143 u144 u145 u146 u147 u148 u149 u150 u151 u152 u153 u154 u155 u156 u157 u158 u159 u160 u161 u162 u163 u164 u165 u166 u167 u168 u169 u170 u171 u172 u173 u174 u175 u176 u177 u178 u179 u180 u181 u182 u183 u184 u185 u186 u187 u188 u189 u190 u191 u192 u193 u194 u195 u196 u197 u198 u199 u200 u201 u202 u203 u204 u205 u206 u207 u208 u209 u210 u211 u212 u213 u214 u215 u216 u217 u218 u219 u220 u221 u222 u223 u224 u225 u226 u227 u228 u229 u230 u231 u232 u233 u234 u235 u236 u237 u238 u239 u240 u241 u242 : Value) {R : Ending → World → Prop} (hR : ∀ x w', FbOut X g 9218868437227405312 true w x w' → R x w') (hI : Inf64 w0) (hX : DcAt w0 X D nd dp g t) (h9 : 9 < X) (hb : Below X w w0) :
 Code.wp Tryz.prog (lab196 1) (Exit.noGoto (bodyPost Tryz.prog Tryz.f196 R)) ⟨#[.pointer (some ⟨X, 0, none⟩), .pointer (some ⟨9, 0, none⟩), u2, u3, u4, u5, u6, u7, u8, u9, u10, u11, u12, u13, u14, u15, u16, u17, u18, u19, u20, u21, u22, u23, u24, u25, u26, u27, u28, u29, u30, u31, u32, u33, u34, u35, u36, u37, u38, u39, u40, u41, u42, u43, u44, u45, u46, u47, u48, u49, u50, u51, u52, u53, u54, u55, u56, u57, u58, u59, u60, u61, u62, u63, u64, u65, u66, u67, u68, u69, u70, u71, u72, u73, u74, u75, u76, u77, u78, u79, u80, u81, u82, u83, u84, u85, u86, u87, u88, u89, u90, u91, u92, u93, u94, u95, u96, u97, u98, u99, u100, u101, u102, u103, u104, u105, u106, u107, u108, u109, u110, u111, u112, u113, u114, u115, u116, u117, u118, u119, u120, u121, u122, u123, u124, u125, u126, u127, u128, u129, u130, u131, u132, u133, u134, u135, u136, u137, u138, u139, u140, u141, u142, u143, u144, u145, u146, u147, u148, u149, u150, u151, u152, u153, u154, u155, u156, u157, u158, u159, u160, u161, u162, u163, u164, u165, u166, u167, u168, u169, u170, u171, u172, u173, u174, u175, u176, u177, u178, u179, u180, u181, u182, u183, u184, u185, u186, u187, u188, u189, u190, u191, u192, u193, u194, u195, u196, u197, u198, u199, u200, u201, u202, u203, u204, u205, u206, u207, u208, u209, u210, u211, u212, u213, u214, u215, u216, u217, u218, u219, u220, u221, u222, u223, u224, u225, u226, u227, u228, u229, u230, u231, u232, u233, u234, u235, u236, u237, u238, u239, u240, u241, u242], []⟩ w0 := by
 conv => arg 2; whnf
 have i1 := hI.eb
 have i2 := hI.bias
 have HB := Lib.hid (And.intro hb (And.intro hI hX))
 have HRR := Lib.hid hR
 clear hI hX hb hR
 go_upto_region 40 with fail
 go_quiet (fail)
 go_upto_region 42 with fail
 refine wp_label ?_
 exact fb_outK X D nd dp g t true 0 2047 9218868437227405312 (by decide) (by decide) (by decide) w _ _ _ _ _ _ _ _ _ _ _ _ _ _ _ _ _ _ _ _ _ _ _ _ _ _ _ _ _ _ _ _ _ _ _ _ _ _ _ _ _ _ _ _ _ _ _ _ _ _ _ _ _ _ _ _ _ _ _ _ _ _ _ _ _ _ _ _ _ _ _ _ _ _ _ _ _ _ _ _ _ _ _ _ _ _ _ _ _ _ _ _ _ _ _ _ _ _ _ _ _ _ _ _ _ _ _ _ _ _ _ _ _ _ _ _ _ _ _ _ _ _ _ _ _ _ _ _ _ _ _ _ _ _ _ _ _ _ _ _ _ _ _ _ _ _ _ _ _ _ _ _ _ _ _ _ _ _ _ _ _ _ _ _ _ _ _ _ _ _ _ _ _ _ _ _ _ _ _ _ _ _ _ _ _ _ _ _ _ _ _ _ _ _ _ _ _ _ _ _ _ _ _ _ _ _ _ _ _ _ _ _ _ _ _ _ _ _ _ _ _ _ _ _ _ _ _ _ _ _ _ _ _ _ _ _ _ _ _ HRR.out (by assumption) (HB.out.2.1.on (below_drewN (Below.refl X _) _) h9) (HB.out.2.2.drewN _) (below_drewN HB.out.1 _)
def FbEnd (M : Nat) (p : Int) (X : Nat) (g : Bool) (w : World) (x : Ending) (w' : World) : Prop := ∃ r, Fl.Near (Fl.vN M p) (Fl.vD p) r ∧ FbOut X g r (decide (r = 9218868437227405312)) w x w'
theorem and_bit {m : Nat} (h : m < 9007199254740992) : m &&& 4503599627370496 = if m < 4503599627370496 then 0 else 4503599627370496 := by
 have hb : m.testBit 52 = decide (¬ m < 4503599627370496) := by
  rw [Nat.testBit_eq_decide_div_mod_eq]
  exact decide_eq_decide.2 (by omega)
 refine Nat.eq_of_testBit_eq fun i => ?_
 have h2 : Nat.testBit 4503599627370496 i = decide (52 = i) := Nat.testBit_two_pow (n := 52) (m := i)
 rw [Nat.testBit_and, h2]
 by_cases hi : 52 = i
 · subst hi
   rw [hb]
   split
   · rename_i h1
     simp [h1]
   · rename_i h1
     rw [h2]
     simp [h1]
 · rw [decide_eq_false hi, Bool.and_false]
   split
   · simp
   · rw [h2, decide_eq_false hi]
noncomputable def suf196e : Code := fromC 33 body196
abbrev QL (M : Nat) (p : Int) (X : Nat) (g : Bool) (w : World) : Exit → Act → World → Prop := Exit.labels Tryz.prog body196 (bodyPost Tryz.prog Tryz.f196 (FbEnd M p X g w))
theorem fb_five (M : Nat) (p S : Int) (X : Nat) (D : List Nat) (nd dp : Int) (g t : Bool) (m : Nat) (w w0 : World) (u2 u3 u4 u8 u9 u10 u11 u12 u13 u14 u15 u16 u17 u18 u19 u20 u21 u22 u23 u24 u25 u26 u27 u28 u29 u30 u31 u32 u33 u34 u35 u36 u37 u38 u39 u40 u41 u42 u43 u44 u45 u46 u47 u48 u49 u50 u51 u52 u53 u54 u55 u56 u57 u58 u59 u60 u61 u62 u63 u64 u65 u66 u67 u68 u69 u70 u71 u72 u73 u74 u75 u76 u77 u78 u79 u80 u81 u82 u83 u84 u85 u86 u87 u88 u89 u90 u91 u92 u93 u94 u95 u96 u97 u98 u99 u100 u101 u102 u103 u104 u105 u106 u107 u108 u109 u110 u111 u112 u113 u114 u115 u116 u117 u118 u119 u120 u121 u122 u123 u124 u125 u126 u127 u128 u129 u130 u131 u132 u133 u134 u135 u136 u137 u138 u139 u140 u141 u142 u143 u144 u145 u146 u147 u148 u149 u150 u151 u152 u153 u154 u155 u156 u157 u158 u159 u160 u161 u162 u163 u164 u165 u166 u167 u168 u169 u170 u171 u172 u173 u174 u175 u176 u177 u178 u179 u180 u181 u182 u183 u184 u185 u186 u187 u188 u189 u190 u191 u192 u193 u194 u195 u196 u197 u198 u199 u200 u201 u202 u203 u204 u205 u206 u207 u208 u209 u210 u211 u212 u213 u214 u215 u216 u217 u218 u219 u220 u221 u222 u223 u224 u225 u226 u227 u228 u229 u230 u231 u232 u233 u234 u235 u236 u237 u238 u239 u240 u241 u242 : Value) {K : Act → World → Prop}
 (hK : ∀ a w', Code.wp Tryz.prog suf196e (QL M p X g w) a w' → K a w')
 (hm : m ≤ 9007199254740992) (hk : S = 1021 ∨ 4503599627370496 ≤ m) (hS : -1024 ≤ S) (hS2 : S ≤ 1021) (near : Fl.Near (Fl.vN M p) (Fl.vD p) (min ((1021 - S).toNat * 4503599627370496 + m) 9218868437227405312))
 (hI : Inf64 w0) (h9 : 9 < X) (hX : DcAt w0 X D nd dp g t) (hb : Below X w w0) :
 K ⟨#[.pointer (some ⟨X, 0, none⟩), .pointer (some ⟨9, 0, none⟩), u2, u3, u4, .bool false, .int .i64 (-S - 1), .int .u64 (m : Int), u8, u9, u10, u11, u12, u13, u14, u15, u16, u17, u18, u19, u20, u21, u22, u23, u24, u25, u26, u27, u28, u29, u30, u31, u32, u33, u34, u35, u36, u37, u38, u39, u40, u41, u42, u43, u44, u45, u46, u47, u48, u49, u50, u51, u52, u53, u54, u55, u56, u57, u58, u59, u60, u61, u62, u63, u64, u65, u66, u67, u68, u69, u70, u71, u72, u73, u74, u75, u76, u77, u78, u79, u80, u81, u82, u83, u84, u85, u86, u87, u88, u89, u90, u91, u92, u93, u94, u95, u96, u97, u98, u99, u100, u101, u102, u103, u104, u105, u106, u107, u108, u109, u110, u111, u112, u113, u114, u115, u116, u117, u118, u119, u120, u121, u122, u123, u124, u125, u126, u127, u128, u129, u130, u131, u132, u133, u134, u135, u136, u137, u138, u139, u140, u141, u142, u143, u144, u145, u146, u147, u148, u149, u150, u151, u152, u153, u154, u155, u156, u157, u158, u159, u160, u161, u162, u163, u164, u165, u166, u167, u168, u169, u170, u171, u172, u173, u174, u175, u176, u177, u178, u179, u180, u181, u182, u183, u184, u185, u186, u187, u188, u189, u190, u191, u192, u193, u194, u195, u196, u197, u198, u199, u200, u201, u202, u203, u204, u205, u206, u207, u208, u209, u210, u211, u212, u213, u214, u215, u216, u217, u218, u219, u220, u221, u222, u223, u224, u225, u226, u227, u228, u229, u230, u231, u232, u233, u234, u235, u236, u237, u238, u239, u240, u241, u242], []⟩ w0 := by
 refine hK _ _ ?_
 conv => arg 4; zeta
 conv => arg 2; whnf
 have i0 := hI.mb
 have i1 := hI.eb
 have i2 := hI.bias
 have HH := Lib.hid (And.intro hI (And.intro hX hb))
 have HN := Lib.hid near
 clear hI hX hb near hK
 obtain ⟨x, hx⟩ : ∃ x : Nat, (x : Int) = 1022 - S := ⟨(1022 - S).toNat, by omega⟩
 have hx1 : (1021 - S).toNat = x - 1 := by omega
 have HX1 := Lib.hid hx1
 by_cases h2 : m = 9007199254740992
 · subst h2
   obtain ⟨z, hz⟩ : ∃ z, z = x + 1 := ⟨_, rfl⟩
   have e1 : IntKind.i64.wrap (-S - 1 + 1) = (z : Int) - 1023 := by rw [IntKind.wrap_i64]; omega
   have e2 : IntKind.i64.wrap ((z : Int) - 1023 - -1023) = (z : Int) := by rw [IntKind.wrap_i64]; omega
   have e3 : bits .and .u64 4503599627370496 4503599627370496 = 4503599627370496 := u64_and_nat 4503599627370496 4503599627370496 (by decide) (by decide)
   by_cases h3 : 2047 ≤ z
   · have d1 : decide ((2047 : Int) ≤ (z : Int)) = true := decide_eq_true (by omega)
     have d1' : decide (2047 ≤ z) = true := decide_eq_true h3
     go_upto_region 36 with fail
     go_quiet (fail)
     go_wp2_with fail
     go_step3
     refine ⟨lab196 1, by kernel_rfl, ?_⟩
     exact fb_inf X D nd dp g t w _ _ _ _ _ _ _ _ _ _ _ _ _ _ _ _ _ _ _ _ _ _ _ _ _ _ _ _ _ _ _ _ _ _ _ _ _ _ _ _ _ _ _ _ _ _ _ _ _ _ _ _ _ _ _ _ _ _ _ _ _ _ _ _ _ _ _ _ _ _ _ _ _ _ _ _ _ _ _ _ _ _ _ _ _ _ _ _ _ _ _ _ _ _ _ _ _ _ _ _ _ _ _ _ _ _ _ _ _ _ _ _ _ _ _ _ _ _ _ _ _ _ _ _ _ _ _ _ _ _ _ _ _ _ _ _ _ _ _ _ _ _ _ _ _ _ _ _ _ _ _ _ _ _ _ _ _ _ _ _ _ _ _ _ _ _ _ _ _ _ _ _ _ _ _ _ _ _ _ _ _ _ _ _ _ _ _ _ _ _ _ _ _ _ _ _ _ _ _ _ _ _ _ _ _ _ _ _ _ _ _ _ _ _ _ _ _ _ _ _ _ _ _ _ _ _ _ _ _ _ _ _ _ _ _ _ _ _ _ _ _ _ (R := FbEnd M p X g w) (fun _ _ h => ⟨_, by have := HN.out; rwa [HX1.out, show min ((x - 1) * 4503599627370496 + 9007199254740992) 9218868437227405312 = 9218868437227405312 by omega] at this, h⟩) (HH.out.1.on (below_drewN (Below.refl X _) _) h9) (HH.out.2.1.drewN _) h9 (below_drewN HH.out.2.2 _)
   · have d1 : decide ((2047 : Int) ≤ (z : Int)) = false := decide_eq_false (by omega)
     have d1' : decide (2047 ≤ z) = false := decide_eq_false h3
     go_upto_region 36 with fail
     go_quiet (fail)
     go_wp2_with fail
     rw [show (-S : Int) = (z : Int) - 1023 by omega]
     go_step3
     refine ⟨lab196 0, by kernel_rfl, ?_⟩
     exact fb_out X D nd dp g t false 4503599627370496 z (z * 4503599627370496) (by omega) (by omega) (by omega) w _ _ _ _ _ _ _ _ _ _ _ _ _ _ _ _ _ _ _ _ _ _ _ _ _ _ _ _ _ _ _ _ _ _ _ _ _ _ _ _ _ _ _ _ _ _ _ _ _ _ _ _ _ _ _ _ _ _ _ _ _ _ _ _ _ _ _ _ _ _ _ _ _ _ _ _ _ _ _ _ _ _ _ _ _ _ _ _ _ _ _ _ _ _ _ _ _ _ _ _ _ _ _ _ _ _ _ _ _ _ _ _ _ _ _ _ _ _ _ _ _ _ _ _ _ _ _ _ _ _ _ _ _ _ _ _ _ _ _ _ _ _ _ _ _ _ _ _ _ _ _ _ _ _ _ _ _ _ _ _ _ _ _ _ _ _ _ _ _ _ _ _ _ _ _ _ _ _ _ _ _ _ _ _ _ _ _ _ _ _ _ _ _ _ _ _ _ _ _ _ _ _ _ _ _ _ _ _ _ _ _ _ _ _ _ _ _ _ _ _ _ _ _ _ _ _ _ _ _ _ _ _ _ _ _ _ _ _ _ (R := FbEnd M p X g w) (fun _ _ h => ⟨(z * 4503599627370496), by have := HN.out; rwa [HX1.out, show min ((x - 1) * 4503599627370496 + 9007199254740992) 9218868437227405312 = z * 4503599627370496 by omega] at this, by rw [decide_eq_false (by omega : ¬ (z * 4503599627370496) = 9218868437227405312)]; exact h⟩) (HH.out.1.on (below_drewN (Below.refl X _) _) h9) (HH.out.2.1.drewN _) (below_drewN HH.out.2.2 _)
 · have e0 : ((m : Int) == 9007199254740992) = false := by rw [beq_eq_false_iff_ne]; omega
   have e0' : (m == 9007199254740992) = false := by rw [beq_eq_false_iff_ne]; exact h2
   have ha := and_bit (m := m) (by omega)
   by_cases h3 : m < 4503599627370496
   · rw [if_pos h3] at ha
     have e1 : bits .and .u64 (m : Int) 4503599627370496 = 0 := by
      rw [show (4503599627370496 : Int) = ((4503599627370496 : Nat) : Int) from rfl, u64_and_nat m _ (by omega) (by decide), ha]; rfl
     go_wp2_with fail
     go_step3
     refine ⟨lab196 0, by kernel_rfl, ?_⟩
     exact fb_out X D nd dp g t false m 0 m (by omega) (by omega) (by omega) w _ _ _ _ _ _ _ _ _ _ _ _ _ _ _ _ _ _ _ _ _ _ _ _ _ _ _ _ _ _ _ _ _ _ _ _ _ _ _ _ _ _ _ _ _ _ _ _ _ _ _ _ _ _ _ _ _ _ _ _ _ _ _ _ _ _ _ _ _ _ _ _ _ _ _ _ _ _ _ _ _ _ _ _ _ _ _ _ _ _ _ _ _ _ _ _ _ _ _ _ _ _ _ _ _ _ _ _ _ _ _ _ _ _ _ _ _ _ _ _ _ _ _ _ _ _ _ _ _ _ _ _ _ _ _ _ _ _ _ _ _ _ _ _ _ _ _ _ _ _ _ _ _ _ _ _ _ _ _ _ _ _ _ _ _ _ _ _ _ _ _ _ _ _ _ _ _ _ _ _ _ _ _ _ _ _ _ _ _ _ _ _ _ _ _ _ _ _ _ _ _ _ _ _ _ _ _ _ _ _ _ _ _ _ _ _ _ _ _ _ _ _ _ _ _ _ _ _ _ _ _ _ _ _ _ _ _ _ _ (R := FbEnd M p X g w) (fun _ _ h => ⟨m, by have := HN.out; rwa [HX1.out, show min ((x - 1) * 4503599627370496 + m) 9218868437227405312 = m by omega] at this, by rw [decide_eq_false (by omega : ¬ m = 9218868437227405312)]; exact h⟩) (HH.out.1.on (Below.refl X _) h9) (HH.out.2.1) (HH.out.2.2)
   · rw [if_neg h3] at ha
     have e1 : bits .and .u64 (m : Int) 4503599627370496 = 4503599627370496 := by
      rw [show (4503599627370496 : Int) = ((4503599627370496 : Nat) : Int) from rfl, u64_and_nat m _ (by omega) (by decide), ha]
     have e2 : -S - 1 = (x : Int) - 1023 := by omega
     rw [e2]
     go_wp2_with fail
     go_step3
     refine ⟨lab196 0, by kernel_rfl, ?_⟩
     exact fb_out X D nd dp g t false m x ((x - 1) * 4503599627370496 + m) (by omega) (by omega) (by omega) w _ _ _ _ _ _ _ _ _ _ _ _ _ _ _ _ _ _ _ _ _ _ _ _ _ _ _ _ _ _ _ _ _ _ _ _ _ _ _ _ _ _ _ _ _ _ _ _ _ _ _ _ _ _ _ _ _ _ _ _ _ _ _ _ _ _ _ _ _ _ _ _ _ _ _ _ _ _ _ _ _ _ _ _ _ _ _ _ _ _ _ _ _ _ _ _ _ _ _ _ _ _ _ _ _ _ _ _ _ _ _ _ _ _ _ _ _ _ _ _ _ _ _ _ _ _ _ _ _ _ _ _ _ _ _ _ _ _ _ _ _ _ _ _ _ _ _ _ _ _ _ _ _ _ _ _ _ _ _ _ _ _ _ _ _ _ _ _ _ _ _ _ _ _ _ _ _ _ _ _ _ _ _ _ _ _ _ _ _ _ _ _ _ _ _ _ _ _ _ _ _ _ _ _ _ _ _ _ _ _ _ _ _ _ _ _ _ _ _ _ _ _ _ _ _ _ _ _ _ _ _ _ _ _ _ _ _ _ _ (R := FbEnd M p X g w) (fun _ _ h => ⟨((x - 1) * 4503599627370496 + m), by have := HN.out; rwa [HX1.out, show min ((x - 1) * 4503599627370496 + m) 9218868437227405312 = (x - 1) * 4503599627370496 + m by omega] at this, by rw [decide_eq_false (by omega : ¬ ((x - 1) * 4503599627370496 + m) = 9218868437227405312)]; exact h⟩) (HH.out.1.on (Below.refl X _) h9) (HH.out.2.1) (HH.out.2.2)
structure DcW (M : Nat) (p s : Int) (j : Nat) (D : List Nat) (nd : Nat) (dp : Int) (t : Bool) (N : Nat) (X : Nat) (g : Bool) (w w' : World) : Prop where
 st : Fl.DcS M p s j D nd dp t N
 at_ : DcAt w' X D nd dp g t
 b : Below X w w'
theorem RsEnd.step {M : Nat} {p s dp : Int} {j nd N k X : Nat} {D : List Nat} {t g : Bool} {w w' : World} {x : Ending} (h : Fl.DcS M p s j D nd dp t N) (hk : k ≤ 60) (hr : Fl.Rng M p (s - k)) (hdp : -400 ≤ dp) (hs : -1100 ≤ s - k) (hE : RsEnd X D N nd k dp g t w x w') :
 x = .returned (.tuple #[]) ∧ ∃ D1 nd1 dp1 t1 N1, DcW M p (s - k) (j + 1) D1 nd1 dp1 t1 N1 X g w w' ∧ 2 ^ k * (N1 * Fl.sc (dp1 - nd1)) ≤ N * Fl.sc (dp - nd) ∧ dp - 19 ≤ dp1 ∧ dp1 ≤ dp := by
 obtain ⟨rfl, D1, r, wd, t1, a1, a2, a3, a4, a5, a6, a7, a8, a9, a10⟩ := hE
 obtain ⟨N1, b1, b2, b3, b4⟩ := h.right_step hk a1 a2 a3 a4 a5 a6 a7 hr hdp hs
 rw [b4] at a9
 exact ⟨rfl, D1, _, _, t1, N1, ⟨b1, a9, a10⟩, b2, by omega, by omega⟩
theorem pow_le_self {k a b : Nat} (h : 2 ^ k * a ≤ b) : a ≤ b := Nat.le_trans (Nat.le_mul_of_pos_left _ (Nat.pow_pos (by decide))) h
def DownEnd (M : Nat) (p s : Int) (j N nd : Nat) (dp : Int) (X : Nat) (g : Bool) (w : World) (x : Ending) (w' : World) : Prop :=
 x = .returned (.tuple #[]) ∧ ∃ D1 nd1 dp1 t1 N1 j1, DcW M p s j1 D1 nd1 dp1 t1 N1 X g w w' ∧ N1 * Fl.sc (dp1 - nd1) ≤ N * Fl.sc (dp - nd) ∧ dp - 40 ≤ dp1 ∧ dp1 ≤ dp ∧ j1 ≤ j + 2
theorem shift_far {M : Nat} {p s dp : Int} {j nd N n X : Nat} {D : List Nat} {t g : Bool} {w : World} (h : Fl.DcS M p s j D nd dp t N) (hn : 60 < n) (hn2 : n ≤ 79) (hr : Fl.Rng M p (s - 60)) (hr2 : Fl.Rng M p (s - n)) (hdp : -300 ≤ dp) (hdp2 : dp ≤ 400) (hs : -1000 ≤ s) (hX : DcAt w X D nd dp g t) :
 Calls Tryz.prog 214 #[.pointer (some ⟨X, 0, none⟩), .int .i64 (-(n : Int))] w (DownEnd M p (s - n) j N nd dp X g w) := by
 have x0 := hX.c0
 have hpos := h.nd_pos
 obtain ⟨y, hy⟩ : ∃ y, n = y + 60 := ⟨n - 60, by omega⟩
 have HX := Lib.hid hX
 have HS := Lib.hid h
 have HR := Lib.hid (And.intro hr hr2)
 have e0 : ((nd : Int) == 0) = false := by rw [beq_eq_false_iff_ne]; omega
 have e0' : (nd == 0) = false := by rw [beq_eq_false_iff_ne]; omega
 have d1 : decide ((0 : Int) < -(n : Int)) = false := decide_eq_false (by omega)
 have d2 : decide (-(n : Int) < 0) = true := decide_eq_true (by omega)
 have d2' : decide (0 < n) = true := decide_eq_true (by omega)
 have d1' : decide ((n : Int) < 0) = false := decide_eq_false (by omega)
 have HY := Lib.hid hy
 clear hX h hr hr2 hy
 go_enter Tryz.func214, Tryz.ntmps214
 go_wp2_with fail
 go_loopg [1] 1 (fun f t1 wx => (f = 1 ∧ t1 = .int .i64 (-(n : Int)) ∧ wx = w) ∨ (f = 0 ∧ t1 = .int .i64 (-(y : Int)) ∧ ∃ D1 nd1 dp1 tr1 N1, DcW M p (s - 60) (j + 1) D1 nd1 dp1 tr1 N1 X g w wx ∧ N1 * Fl.sc (dp1 - nd1) ≤ N * Fl.sc (dp - nd) ∧ dp - 19 ≤ dp1 ∧ dp1 ≤ dp))
 case atStart => exact .inl ⟨rfl, rfl, rfl⟩
 case round =>
  rcases hrel with ⟨rfl, rfl, rfl⟩ | ⟨rfl, rfl, D1, nd1, dp1, tr1, N1, hW, hle, b1, b2⟩
  · have d3 : decide (-(n : Int) < -60) = true := decide_eq_true (by omega)
    have d3' : decide ((60 : Int) < (n : Int)) = true := decide_eq_true (by omega)
    have d3'' : decide (60 < n) = true := decide_eq_true hn
    have w1 : IntKind.i64.wrap (-(n : Int) + 60) = -(y : Int) := by have hy := HY.out; rw [IntKind.wrap_i64]; omega
    go_wp2_with fail
    refine (rshift_any X D nd N 60 dp g t HS.out.num HS.out.le (by decide) (by decide) (by omega) (by omega) HS.out.n0 _ HX.out).mono ?_
    intro x w1 h1
    obtain ⟨rfl, D1, nd1, dp1, tr1, N1, hW, hle, b1, b2⟩ := RsEnd.step (k := 60) HS.out (by decide) HR.out.1 (by omega) (by omega) h1
    have HF := Lib.hid (And.intro hW (And.intro hle (And.intro b1 b2)))
    clear hW hle b1 b2 h1
    go_wp2_with fail
    go_roundg 0
    case measure => exact Nat.lt_succ_self _
    case rel => exact .inr ⟨rfl, rfl, D1, nd1, dp1, tr1, N1, HF.out.1, pow_le_self HF.out.2.1, HF.out.2.2.1, HF.out.2.2.2⟩
  · have hy := HY.out
    have d3 : decide (-(y : Int) < -60) = false := decide_eq_false (by omega)
    have d3' : decide ((60 : Int) < (y : Int)) = false := decide_eq_false (by omega)
    have d3'' : decide (60 < y) = false := decide_eq_false (by omega)
    have w1 : IntKind.i64.wrap (-(-(y : Int))) = (y : Int) := by rw [IntKind.wrap_i64]; omega
    have w1' : IntKind.i64.wrap ((y : Int)) = (y : Int) := by rw [IntKind.wrap_i64]; omega
    have w2 : IntKind.u64.wrap ((y : Int)) = (y : Int) := by rw [IntKind.wrap_u64]; omega
    have hb1 : Below X w wr := hW.b
    have HF := Lib.hid (And.intro hW (And.intro hle (And.intro b1 b2)))
    clear hW hle b1 b2 hb1 hy
    go_wp2_with fail
    refine (rshift_any X D1 nd1 N1 y dp1 g tr1 HF.out.1.st.num HF.out.1.st.le (by have hy := HY.out; omega) (by have hy := HY.out; omega) (by have := HF.out.2.2; omega) (by have := HF.out.2.2; omega) HF.out.1.st.n0 _ HF.out.1.at_).mono ?_
    intro x w1 h1
    have hy := HY.out
    have he : s - 60 - (y : Int) = s - n := by omega
    obtain ⟨rfl, D2, nd2, dp2, tr2, N2, hW, hle, b1, b2⟩ := RsEnd.step HF.out.1.st (by omega) (by rw [he]; exact HR.out.2) (by have := HF.out.2.2; omega) (by omega) h1
    rw [he] at hW
    have HG := Lib.hid (show DownEnd M p (s - n) j N nd dp X g w (.returned (.tuple #[])) w1 from ⟨rfl, D2, nd2, dp2, tr2, N2, _, ⟨hW.st, hW.at_, HF.out.1.b.trans hW.b⟩, Nat.le_trans (pow_le_self hle) HF.out.2.1, by have := HF.out.2.2; omega, by have := HF.out.2.2; omega, Nat.le_refl _⟩)
    clear hW hle b1 b2 h1 hy he
    go_wp2_with fail
    exact ⟨rfl, .tuple #[], results_none rfl _ _ _, rfl, HG.out.2⟩
theorem shift_down {M : Nat} {p s dp : Int} {j nd N n X : Nat} {D : List Nat} {t g : Bool} {w : World} (h : Fl.DcS M p s j D nd dp t N) (hn : 1 ≤ n) (hn2 : n ≤ 79) (hr : Fl.Rng M p (s - 60)) (hr2 : Fl.Rng M p (s - n)) (hdp : -300 ≤ dp) (hdp2 : dp ≤ 400) (hs : -1000 ≤ s) (hX : DcAt w X D nd dp g t) :
 Calls Tryz.prog 214 #[.pointer (some ⟨X, 0, none⟩), .int .i64 (-(n : Int))] w (DownEnd M p (s - n) j N nd dp X g w) := by
 rcases Nat.lt_or_ge 60 n with h60 | h60
 · exact shift_far h h60 hn2 hr hr2 hdp hdp2 hs hX
 · refine (shift_right X D nd N n dp g t h.num h.nd_pos h.le hn h60 (by omega) (by omega) h.n0 w hX).mono ?_
   intro x w1 h1
   obtain ⟨rfl, D1, nd1, dp1, tr1, N1, hW, hle, b1, b2⟩ := RsEnd.step h h60 hr2 (by omega) (by omega) h1
   exact ⟨rfl, D1, nd1, dp1, tr1, N1, _, hW, pow_le_self hle, by omega, b2, by omega⟩
end Go.Proofs.YtjapgpmoojfhnaaGreatDoor
