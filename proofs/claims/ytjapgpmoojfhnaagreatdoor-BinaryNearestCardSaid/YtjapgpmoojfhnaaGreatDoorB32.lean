/- floatBits of the library's decimal: behind its loops. floatBits of the library's decimal: the least place. floatBits of the library's decimal: its second loop. -/
import Derived.Test.YtjapgpmoojfhnaaGreatDoorB31
set_option maxHeartbeats 16000000
set_option maxRecDepth 100000
set_option linter.unusedSimpArgs false
set_option linter.unusedVariables false
namespace Go.Proofs.YtjapgpmoojfhnaaGreatDoor
open Go.RowKit Go.Lib
noncomputable def suf196d : Code := fromC 30 body196
structure FbW (w : World) (B : Nat × Nat) (X : Nat) : Prop where
 info : Inf64 w
 tab : ChTab w B
 x18 : 18 ≤ X
 bx : B.1 < X
theorem FbW.on {w w' : World} {B : Nat × Nat} {X : Nat} (h : FbW w B X) (hb : Below X w w') : FbW w' B X := ⟨h.info.on hb (by have := h.x18; omega), h.tab.on hb (by have := h.x18; omega) h.bx, h.x18, h.bx⟩
theorem fb_four (M : Nat) (p S dp : Int) (X : Nat) (D : List Nat) (nd N j : Nat) (g t : Bool) (B : Nat × Nat) (w w0 : World) (u2 u3 u4 u7 u8 u9 u10 u11 u12 u13 u14 u15 u16 u17 u18 u19 u20 u21 u22 u23 u24 u25 u26 u27 u28 u29 u30 u31 u32 u33 u34 u35 u36 u37 u38 u39 u40 u41 u42 u43 u44 u45 u46 u47 u48 u49 u50 u51 u52 u53 u54 u55 u56 u57 u58 u59 u60 u61 u62 u63 u64 u65 u66 u67 u68 u69 u70 u71 u72 u73 u74 u75 u76 u77 u78 u79 u80 u81 u82 u83 u84 u85 u86 u87 u88 u89 u90 u91 u92 u93 u94 u95 u96 u97 u98 u99 u100 u101 u102 u103 u104 u105 u106 u107 u108 u109 u110 u111 u112 u113 u114 u115 u116 u117 u118 u119 u120 u121 u122 u123 u124 u125 u126 u127 u128 u129 u130 u131 u132 u133 u134 u135 u136 u137 u138 u139 u140 u141 u142 u143 u144 u145 u146 u147 u148 u149 u150 u151 u152 u153 u154 u155 u156 u157 u158 u159 u160 u161 u162 u163 u164 u165 u166 u167 u168 u169 u170 u171 u172 u173 u174 u175 u176 u177 u178 u179 u180 u181 u182 u183 u184 u185 u186 u187 u188 u189 u190 u191 u192 u193 u194 u195 u196 u197 u198 u199 u200 u201 u202 u203 u204 u205 u206 u207 u208 u209 u210 u211 u212 u213 u214 u215 u216 u217 u218 u219 u220 u221 u222 u223 u224 u225 u226 u227 u228 u229 u230 u231 u232 u233 u234 u235 u236 u237 u238 u239 u240 u241 u242 : Value) {K : Act → World → Prop}
 (hK : ∀ a w', Code.wp Tryz.prog suf196d (QL M p X g w) a w' → K a w')
 (h : Fl.DcS M p S j D nd dp t N) (hV : N * Fl.sc (dp - nd) < Fl.sc 0) (hk : S = 1021 ∨ Fl.sc 0 ≤ 2 * (N * Fl.sc (dp - nd))) (hS1 : -1057 ≤ S) (hS2 : S ≤ 1021) (hj : j + 1 ≤ 5000) (hp : -731 ≤ p) (hp4 : S < -53 → -400 ≤ p) (hv : 0 ≤ S ∨ Fl.sc 0 * Fl.tw (-30) ≤ M * Fl.sc p * Fl.tw S) (hdp : -400 ≤ dp) (hdp2 : dp ≤ 400)
 (hinf : S ≤ -1025 → Fl.Near (Fl.vN M p) (Fl.vD p) 9218868437227405312) (hF : FbW w0 B X) (hX : DcAt w0 X D nd dp g t) (hb : Below X w w0) :
 K ⟨#[.pointer (some ⟨X, 0, none⟩), .pointer (some ⟨9, 0, none⟩), u2, u3, u4, .bool false, .int .i64 (-S - 1), u7, u8, u9, u10, u11, u12, u13, u14, u15, u16, u17, u18, u19, u20, u21, u22, u23, u24, u25, u26, u27, u28, u29, u30, u31, u32, u33, u34, u35, u36, u37, u38, u39, u40, u41, u42, u43, u44, u45, u46, u47, u48, u49, u50, u51, u52, u53, u54, u55, u56, u57, u58, u59, u60, u61, u62, u63, u64, u65, u66, u67, u68, u69, u70, u71, u72, u73, u74, u75, u76, u77, u78, u79, u80, u81, u82, u83, u84, u85, u86, u87, u88, u89, u90, u91, u92, u93, u94, u95, u96, u97, u98, u99, u100, u101, u102, u103, u104, u105, u106, u107, u108, u109, u110, u111, u112, u113, u114, u115, u116, u117, u118, u119, u120, u121, u122, u123, u124, u125, u126, u127, u128, u129, u130, u131, u132, u133, u134, u135, u136, u137, u138, u139, u140, u141, u142, u143, u144, u145, u146, u147, u148, u149, u150, u151, u152, u153, u154, u155, u156, u157, u158, u159, u160, u161, u162, u163, u164, u165, u166, u167, u168, u169, u170, u171, u172, u173, u174, u175, u176, u177, u178, u179, u180, u181, u182, u183, u184, u185, u186, u187, u188, u189, u190, u191, u192, u193, u194, u195, u196, u197, u198, u199, u200, u201, u202, u203, u204, u205, u206, u207, u208, u209, u210, u211, u212, u213, u214, u215, u216, u217, u218, u219, u220, u221, u222, u223, u224, u225, u226, u227, u228, u229, u230, u231, u232, u233, u234, u235, u236, u237, u238, u239, u240, u241, u242], []⟩ w0 := by
 refine hK _ _ ?_
 conv => arg 4; zeta
 conv => arg 2; whnf
 have i0 := hF.info.mb
 have i1 := hF.info.eb
 have i2 := hF.info.bias
 have x9 : 9 < X := by have := hF.x18; omega
 have hXs := hX.lt
 have hBs : B.1 < w0.heap.size := by have := hF.bx; omega
 have h18s : 18 ≤ w0.heap.size := by have := hF.x18; omega
 have HH := Lib.hid (And.intro hF (And.intro hX hb))
 have HS := Lib.hid h
 have HV := Lib.hid (And.intro hV (And.intro hk (And.intro hp4 (And.intro hv hinf))))
 have e1 : IntKind.i64.wrap (-S - 1 - -1023) = 1022 - S := by rw [IntKind.wrap_i64]; omega
 clear hF hX hb h hV hk hp4 hv hinf hK
 by_cases h1 : S ≤ -1025
 · have d1 : decide ((2047 : Int) ≤ 1022 - S) = true := decide_eq_true (by omega)
   go_upto_region 30 with fail
   go_quiet (fail)
   go_wp2_with fail
   go_step3
   refine ⟨lab196 1, by kernel_rfl, ?_⟩
   exact fb_inf X D nd dp g t w _ _ _ _ _ _ _ _ _ _ _ _ _ _ _ _ _ _ _ _ _ _ _ _ _ _ _ _ _ _ _ _ _ _ _ _ _ _ _ _ _ _ _ _ _ _ _ _ _ _ _ _ _ _ _ _ _ _ _ _ _ _ _ _ _ _ _ _ _ _ _ _ _ _ _ _ _ _ _ _ _ _ _ _ _ _ _ _ _ _ _ _ _ _ _ _ _ _ _ _ _ _ _ _ _ _ _ _ _ _ _ _ _ _ _ _ _ _ _ _ _ _ _ _ _ _ _ _ _ _ _ _ _ _ _ _ _ _ _ _ _ _ _ _ _ _ _ _ _ _ _ _ _ _ _ _ _ _ _ _ _ _ _ _ _ _ _ _ _ _ _ _ _ _ _ _ _ _ _ _ _ _ _ _ _ _ _ _ _ _ _ _ _ _ _ _ _ _ _ _ _ _ _ _ _ _ _ _ _ _ _ _ _ _ _ _ _ _ _ _ _ _ _ _ _ _ _ _ _ _ _ _ _ _ _ _ _ _ _ _ _ _ (R := FbEnd M p X g w) (fun _ _ h => ⟨_, HV.out.2.2.2.2 h1, h⟩) (HH.out.1.info.on (below_drewN (Below.refl X _) _) x9) (HH.out.2.1.drewN _) x9 (below_drewN HH.out.2.2 _)
 · have d1 : decide ((2047 : Int) ≤ 1022 - S) = false := decide_eq_false (by omega)
   go_upto_region 30 with fail
   go_quiet (fail)
   rename_i nq _
   have hF2 := HH.out.1.on (below_drewN (Below.refl X w0) nq)
   have hX2 := HH.out.2.1.drewN nq
   have hb2 := below_drewN HH.out.2.2 nq
   have hs2 : (w0.drewN nq).heap.size = w0.heap.size := rfl
   generalize w0.drewN nq = w2 at hF2 hX2 hb2 hs2 ⊢
   have HH2 := Lib.hid (And.intro hF2 (And.intro hX2 hb2))
   clear hF2 hX2 hb2 i0 i1 i2
   have i0 := HH2.out.1.info.mb
   go_wp2_with fail
   refine (shift_left X D nd N 53 dp g t HS.out.num HS.out.top HS.out.nd_pos HS.out.le (by decide) (by decide) (by omega) (by omega) B _ HH2.out.1.tab (by rw [hs2]; exact h18s) (by rw [hs2]; exact hBs) HH2.out.2.1).mono ?_
   rintro e w1 ⟨rfl, D1, t1, a1, a2, a3⟩
   obtain ⟨N1, f1, f2, f3, f4, f5, f6, f7, f8⟩ := Fl.fb_last HS.out HV.out.1 HV.out.2.1 ⟨by omega, hS2⟩ hj hp HV.out.2.2.1 HV.out.2.2.2.1 hdp a1
   rw [f3] at a2
   clear f3 a1
   obtain ⟨nd2, hnd2⟩ : ∃ nd2, trimN D1 (min (Fl.lenL D nd 53) 800) = nd2 := ⟨_, rfl⟩
   obtain ⟨dp2, hdp3⟩ : ∃ dp2, dp + ((Fl.lenL D nd 53 : Int) - nd) = dp2 := ⟨_, rfl⟩
   rw [hnd2, hdp3] at a2 f4 f5 f6
   rw [hnd2] at f1 f2
   rw [hdp3] at f7 f8
   obtain ⟨m, hm⟩ : ∃ m, Fl.rndN D1 N1 nd2 dp2 t1 = m := ⟨_, rfl⟩
   have RI := rint_any X D1 nd2 N1 dp2 g t1 f1 f2 f7 f8 f5 w1 a2
   rw [hm] at RI f4 f5 f6
   have HR := Lib.hid RI
   have HQ := Lib.hid (And.intro (HH2.out.1.on a3) (And.intro a2 (HH2.out.2.2.trans a3)))
   have HG := Lib.hid (And.intro f4 (And.intro f5 f6))
   clear hnd2 hdp3 hm RI a2 a3 f1 f2 f4 f5 f6 f7 f8 i0
   go_wp2_with fail
   refine HR.out.mono ?_
   rintro e w3 ⟨rfl, rfl⟩
   rename (∀ (a : Act) (w_1 : World), Code.wp Tryz.prog (Code.seq (Code.seq _ _) _) _ a w_1 → _) => hr
   have HRR := Lib.hid hr
   clear hr
   go_wp2_with fail
   exact fb_five M p S X D1 nd2 dp2 g t1 m w _ _ _ _ _ _ _ _ _ _ _ _ _ _ _ _ _ _ _ _ _ _ _ _ _ _ _ _ _ _ _ _ _ _ _ _ _ _ _ _ _ _ _ _ _ _ _ _ _ _ _ _ _ _ _ _ _ _ _ _ _ _ _ _ _ _ _ _ _ _ _ _ _ _ _ _ _ _ _ _ _ _ _ _ _ _ _ _ _ _ _ _ _ _ _ _ _ _ _ _ _ _ _ _ _ _ _ _ _ _ _ _ _ _ _ _ _ _ _ _ _ _ _ _ _ _ _ _ _ _ _ _ _ _ _ _ _ _ _ _ _ _ _ _ _ _ _ _ _ _ _ _ _ _ _ _ _ _ _ _ _ _ _ _ _ _ _ _ _ _ _ _ _ _ _ _ _ _ _ _ _ _ _ _ _ _ _ _ _ _ _ _ _ _ _ _ _ _ _ _ _ _ _ _ _ _ _ _ _ _ _ _ _ _ _ _ _ _ _ _ _ _ _ _ _ _ _ _ _ _ _ _ _ _ _ _ _ _ _ HRR.out HG.out.2.1 HG.out.2.2 (by omega) hS2 HG.out.1 HQ.out.1.info x9 HQ.out.2.1 HQ.out.2.2
noncomputable def suf196c : Code := fromC 25 body196
theorem fb_three (M : Nat) (p s dp0 : Int) (X : Nat) (D : List Nat) (nd N j : Nat) (g t : Bool) (B : Nat × Nat) (w w0 : World) (u2 u3 u4 u7 u8 u9 u10 u11 u12 u13 u14 u15 u16 u17 u18 u19 u20 u21 u22 u23 u24 u25 u26 u27 u28 u29 u30 u31 u32 u33 u34 u35 u36 u37 u38 u39 u40 u41 u42 u43 u44 u45 u46 u47 u48 u49 u50 u51 u52 u53 u54 u55 u56 u57 u58 u59 u60 u61 u62 u63 u64 u65 u66 u67 u68 u69 u70 u71 u72 u73 u74 u75 u76 u77 u78 u79 u80 u81 u82 u83 u84 u85 u86 u87 u88 u89 u90 u91 u92 u93 u94 u95 u96 u97 u98 u99 u100 u101 u102 u103 u104 u105 u106 u107 u108 u109 u110 u111 u112 u113 u114 u115 u116 u117 u118 u119 u120 u121 u122 u123 u124 u125 u126 u127 u128 u129 u130 u131 u132 u133 u134 u135 u136 u137 u138 u139 u140 u141 u142 u143 u144 u145 u146 u147 u148 u149 u150 u151 u152 u153 u154 u155 u156 u157 u158 u159 u160 u161 u162 u163 u164 u165 u166 u167 u168 u169 u170 u171 u172 u173 u174 u175 u176 u177 u178 u179 u180 u181 u182 u183 u184 u185 u186 u187 u188 u189 u190 u191 u192 u193 u194 u195 u196 u197 u198 u199 u200 u201 u202 u203 u204 u205 u206 u207 u208 u209 u210 u211 u212 u213 u214 u215 u216 u217 u218 u219 u220 u221 u222 u223 u224 u225 u226 u227 u228 u229 u230 u231 u232 u233 u234 u235 u236 u237 u238 u239 u240 u241 u242 : Value) {K : Act → World → Prop}
 (hK : ∀ a w', Code.wp Tryz.prog suf196c (QL M p X g w) a w' → K a w')
 (h : Fl.FbS M p dp0 s j D nd 0 t N) (hc : 53 ≤ D.getD 0 0) (hs : s ≤ 1100) (hj : j + 3 ≤ 5000) (hp : -731 ≤ p) (hp4 : s < 0 → -400 ≤ p)
 (hF : FbW w0 B X) (hX : DcAt w0 X D nd 0 g t) (hb : Below X w w0) :
 K ⟨#[.pointer (some ⟨X, 0, none⟩), .pointer (some ⟨9, 0, none⟩), u2, u3, u4, .bool false, .int .i64 (-s), u7, u8, u9, u10, u11, u12, u13, u14, u15, u16, u17, u18, u19, u20, u21, u22, u23, u24, u25, u26, u27, u28, u29, u30, u31, u32, u33, u34, u35, u36, u37, u38, u39, u40, u41, u42, u43, u44, u45, u46, u47, u48, u49, u50, u51, u52, u53, u54, u55, u56, u57, u58, u59, u60, u61, u62, u63, u64, u65, u66, u67, u68, u69, u70, u71, u72, u73, u74, u75, u76, u77, u78, u79, u80, u81, u82, u83, u84, u85, u86, u87, u88, u89, u90, u91, u92, u93, u94, u95, u96, u97, u98, u99, u100, u101, u102, u103, u104, u105, u106, u107, u108, u109, u110, u111, u112, u113, u114, u115, u116, u117, u118, u119, u120, u121, u122, u123, u124, u125, u126, u127, u128, u129, u130, u131, u132, u133, u134, u135, u136, u137, u138, u139, u140, u141, u142, u143, u144, u145, u146, u147, u148, u149, u150, u151, u152, u153, u154, u155, u156, u157, u158, u159, u160, u161, u162, u163, u164, u165, u166, u167, u168, u169, u170, u171, u172, u173, u174, u175, u176, u177, u178, u179, u180, u181, u182, u183, u184, u185, u186, u187, u188, u189, u190, u191, u192, u193, u194, u195, u196, u197, u198, u199, u200, u201, u202, u203, u204, u205, u206, u207, u208, u209, u210, u211, u212, u213, u214, u215, u216, u217, u218, u219, u220, u221, u222, u223, u224, u225, u226, u227, u228, u229, u230, u231, u232, u233, u234, u235, u236, u237, u238, u239, u240, u241, u242], []⟩ w0 := by
 refine hK _ _ ?_
 conv => arg 4; zeta
 conv => arg 2; whnf
 obtain ⟨v1, v2⟩ := h.at_ rfl hc
 have i2 := hF.info.bias
 have hlo := h.lo
 have HH := Lib.hid (And.intro hF (And.intro hX hb))
 have HS := Lib.hid h
 have HV := Lib.hid (And.intro v1 (And.intro v2 (And.intro hp4 hc)))
 have e1 : IntKind.i64.wrap (-s - 1) = -s - 1 := by rw [IntKind.wrap_i64]; omega
 clear hF hX hb h v1 v2 hp4 hK hc
 by_cases h1 : s ≤ 1021
 · have d1 : decide (-s - 1 < -1022) = false := decide_eq_false (by omega)
   go_upto_region 26 with fail
   rename (∀ (a : Act) (w_1 : World), Code.wp Tryz.prog (Code.seq (Code.seq _ _) _) _ a w_1 → _) => hr
   have HRR := Lib.hid hr
   clear hr
   go_wp2_with fail
   exact fb_four M p s 0 X D nd N j g t B w _ _ _ _ _ _ _ _ _ _ _ _ _ _ _ _ _ _ _ _ _ _ _ _ _ _ _ _ _ _ _ _ _ _ _ _ _ _ _ _ _ _ _ _ _ _ _ _ _ _ _ _ _ _ _ _ _ _ _ _ _ _ _ _ _ _ _ _ _ _ _ _ _ _ _ _ _ _ _ _ _ _ _ _ _ _ _ _ _ _ _ _ _ _ _ _ _ _ _ _ _ _ _ _ _ _ _ _ _ _ _ _ _ _ _ _ _ _ _ _ _ _ _ _ _ _ _ _ _ _ _ _ _ _ _ _ _ _ _ _ _ _ _ _ _ _ _ _ _ _ _ _ _ _ _ _ _ _ _ _ _ _ _ _ _ _ _ _ _ _ _ _ _ _ _ _ _ _ _ _ _ _ _ _ _ _ _ _ _ _ _ _ _ _ _ _ _ _ _ _ _ _ _ _ _ _ _ _ _ _ _ _ _ _ _ _ _ _ _ _ _ _ _ _ _ _ _ _ _ _ _ _ _ _ _ _ _ _ _ _ HRR.out HS.out.st HV.out.1 (.inr HV.out.2.1) hlo h1 (by omega) hp (fun h => HV.out.2.2.1 (by omega)) HS.out.v (by decide) (by decide) (fun h => HS.out.inf rfl HV.out.2.2.2 h (by omega)) HH.out.1 HH.out.2.1 HH.out.2.2
 · obtain ⟨n, hn⟩ : ∃ n : Nat, (n : Int) = s - 1021 := ⟨(s - 1021).toNat, by omega⟩
   have d1 : decide (-s - 1 < -1022) = true := decide_eq_true (by omega)
   have e2 : IntKind.i64.wrap (-1022 - (-s - 1)) = (n : Int) := by rw [IntKind.wrap_i64]; omega
   have e3 : IntKind.i64.wrap (-(n : Int)) = -(n : Int) := by rw [IntKind.wrap_i64]; omega
   have e4 : IntKind.i64.wrap (-s - 1 + (n : Int)) = -1021 - 1 := by rw [IntKind.wrap_i64]; omega
   have SD := Lib.hid (show Calls Tryz.prog 214 #[.pointer (some ⟨X, 0, none⟩), .int .i64 (-(n : Int))] w0 (DownEnd M p (s - n) j N nd 0 X g w0) from
    shift_down HS.out.st (by omega) (by omega) (Fl.rng_up (by omega) (by omega)) (Fl.rng_up (by omega) (by omega)) (by decide) (by decide) (by omega) HH.out.2.1)
   have hsn : s - (n : Int) = 1021 := by omega
   rw [hsn] at SD
   clear hsn hn hlo h1
   go_upto_region 26 with fail
   rename (∀ (a : Act) (w_1 : World), Code.wp Tryz.prog (Code.seq (Code.seq _ _) _) _ a w_1 → _) => hr
   have HRR := Lib.hid hr
   clear hr
   go_wp2_with fail
   refine SD.out.mono ?_
   rintro e w1 ⟨rfl, D1, nd1, dp1, t1, N1, j1, a1, a2, a3, a4, a5⟩
   have HA := Lib.hid (And.intro a1 (And.intro (Nat.lt_of_le_of_lt a2 HV.out.1) (And.intro a3 (And.intro a4 a5))))
   clear a1 a2 a3 a4 a5
   go_wp2_with fail
   exact fb_four M p 1021 dp1 X D1 nd1 N1 j1 g t1 B w _ _ _ _ _ _ _ _ _ _ _ _ _ _ _ _ _ _ _ _ _ _ _ _ _ _ _ _ _ _ _ _ _ _ _ _ _ _ _ _ _ _ _ _ _ _ _ _ _ _ _ _ _ _ _ _ _ _ _ _ _ _ _ _ _ _ _ _ _ _ _ _ _ _ _ _ _ _ _ _ _ _ _ _ _ _ _ _ _ _ _ _ _ _ _ _ _ _ _ _ _ _ _ _ _ _ _ _ _ _ _ _ _ _ _ _ _ _ _ _ _ _ _ _ _ _ _ _ _ _ _ _ _ _ _ _ _ _ _ _ _ _ _ _ _ _ _ _ _ _ _ _ _ _ _ _ _ _ _ _ _ _ _ _ _ _ _ _ _ _ _ _ _ _ _ _ _ _ _ _ _ _ _ _ _ _ _ _ _ _ _ _ _ _ _ _ _ _ _ _ _ _ _ _ _ _ _ _ _ _ _ _ _ _ _ _ _ _ _ _ _ _ _ _ _ _ _ _ _ _ _ _ _ _ _ _ _ _ _ _ HRR.out HA.out.1.st HA.out.2.1 (.inl rfl) (by decide) (by decide) (by have := HA.out.2.2.2.2; omega) hp (fun h => absurd h (by decide)) (.inl (by decide)) (by have := HA.out.2.2.1; omega) (by have := HA.out.2.2.2.1; omega) (fun h => absurd h (by decide)) (HH.out.1.on HA.out.1.b) HA.out.1.at_ (HH.out.2.2.trans HA.out.1.b)
theorem powt_far {k : Nat} (h : 9 ≤ k) : Fl.powt k = 27 := by
 unfold Fl.powt
 rw [List.getD_eq_getElem?_getD, List.getElem?_eq_none (by simpa using h)]
 rfl
noncomputable def suf196b : Code := fromB 2 body196
structure PowTab (w : World) (B : Nat × Nat) : Prop where
 ptr : w.cell? ⟨11, 0, none⟩ = some (.slice (some ⟨B.1, B.2, none⟩) 9 9)
 row : ∀ k, k < 9 → w.cell? ⟨B.1, B.2 + k, none⟩ = some (.int .i64 (Fl.powt k : Nat))
structure FbT (w : World) (B C : Nat × Nat) (X : Nat) : Prop where
 fb : FbW w B X
 pw : PowTab w C
 cx : C.1 < X
theorem FbT.on {w w' : World} {B C : Nat × Nat} {X : Nat} (h : FbT w B C X) (hb : Below X w w') : FbT w' B C X :=
 ⟨h.fb.on hb, ⟨(hb.cell (by have := h.fb.x18; show 11 < _; omega)).trans h.pw.ptr, fun k hk => (hb.cell h.cx).trans (h.pw.row k hk)⟩, h.cx⟩
theorem FbT.sz {w : World} {B C : Nat × Nat} {X : Nat} {D : List Nat} {nd dp : Int} {g t : Bool} (h : FbT w B C X) (hX : DcAt w X D nd dp g t) : 18 ≤ w.heap.size := by have := h.fb.x18; have := hX.lt; omega
theorem FbT.szB {w : World} {B C : Nat × Nat} {X : Nat} {D : List Nat} {nd dp : Int} {g t : Bool} (h : FbT w B C X) (hX : DcAt w X D nd dp g t) : B.1 < w.heap.size := by have := h.fb.bx; have := hX.lt; omega
theorem LsEnd.two {M : Nat} {p dp0 s dp : Int} {j nd N k X : Nat} {D : List Nat} {t g : Bool} {w w' : World} {x : Ending} (h : Fl.FbS M p dp0 s j D nd dp t N) (hj : j ≤ 5000) (hx : Fl.sc (-331) ≤ M * Fl.sc p) (hdp : dp ≤ 0) (hc : dp < 0 ∨ D.getD 0 0 < 53) (hk : k = Fl.powt (-dp).toNat) (hE : LsEnd X D N nd k (Fl.lenL D nd k) dp g t w x w') :
 x = .returned (.tuple #[]) ∧ ∃ D1 nd1 dp1 t1 N1, Fl.FbS M p dp0 (s + k) (j + 1) D1 nd1 dp1 t1 N1 ∧ dp1 ≤ 0 ∧ s + k ≤ 1100 ∧ DcAt w' X D1 nd1 dp1 g t1 ∧ Below X w w' := by
 obtain ⟨rfl, D1, t1, a1, a2, a3⟩ := hE
 obtain ⟨N1, b1, b2, b3, b4⟩ := h.two hj hx hdp hc hk a1
 rw [b2] at a2
 exact ⟨rfl, D1, _, _, t1, N1, b1, b3, b4, a2, a3⟩
theorem fb_two (M : Nat) (p s0 dp0 dq : Int) (X : Nat) (D0 : List Nat) (nd0 N0 j0 : Nat) (g tq : Bool) (B C : Nat × Nat) (w w0 : World) (u2 u3 u4 u7 u8 u9 u10 u11 u12 u13 u14 u15 u16 u17 u18 u19 u20 u21 u22 u23 u24 u25 u26 u27 u28 u29 u30 u31 u32 u33 u34 u35 u36 u37 u38 u39 u40 u41 u42 u43 u44 u45 u46 u47 u48 u49 u50 u51 u52 u53 u54 u55 u56 u57 u58 u59 u60 u61 u62 u63 u64 u65 u66 u67 u68 u69 u70 u71 u72 u73 u74 u75 u76 u77 u78 u79 u80 u81 u82 u83 u84 u85 u86 u87 u88 u89 u90 u91 u92 u93 u94 u95 u96 u97 u98 u99 u100 u101 u102 u103 u104 u105 u106 u107 u108 u109 u110 u111 u112 u113 u114 u115 u116 u117 u118 u119 u120 u121 u122 u123 u124 u125 u126 u127 u128 u129 u130 u131 u132 u133 u134 u135 u136 u137 u138 u139 u140 u141 u142 u143 u144 u145 u146 u147 u148 u149 u150 u151 u152 u153 u154 u155 u156 u157 u158 u159 u160 u161 u162 u163 u164 u165 u166 u167 u168 u169 u170 u171 u172 u173 u174 u175 u176 u177 u178 u179 u180 u181 u182 u183 u184 u185 u186 u187 u188 u189 u190 u191 u192 u193 u194 u195 u196 u197 u198 u199 u200 u201 u202 u203 u204 u205 u206 u207 u208 u209 u210 u211 u212 u213 u214 u215 u216 u217 u218 u219 u220 u221 u222 u223 u224 u225 u226 u227 u228 u229 u230 u231 u232 u233 u234 u235 u236 u237 u238 u239 u240 u241 u242 : Value) {K : Act → World → Prop}
 (hK : ∀ a w', Code.wp Tryz.prog suf196b (QL M p X g w) a w' → K a w')
 (h : Fl.FbS M p dp0 s0 j0 D0 nd0 dq tq N0) (hdq : dq ≤ 0) (hs0 : s0 ≤ 0) (hj : (j0 : Int) ≤ 2114 + s0) (hp : -731 ≤ p) (hp4 : 0 < dp0 → -400 ≤ p) (hx : Fl.sc (-331) ≤ M * Fl.sc p)
 (hF : FbT w B C X) (hX : DcAt w0 X D0 nd0 dq g tq) (hb : Below X w w0) :
 K ⟨#[.pointer (some ⟨X, 0, none⟩), .pointer (some ⟨9, 0, none⟩), u2, u3, u4, .bool false, .int .i64 (-s0), u7, u8, u9, u10, u11, u12, u13, u14, u15, u16, u17, u18, u19, u20, u21, u22, u23, u24, u25, u26, u27, u28, u29, u30, u31, u32, u33, u34, u35, u36, u37, u38, u39, u40, u41, u42, u43, u44, u45, u46, u47, u48, u49, u50, u51, u52, u53, u54, u55, u56, u57, u58, u59, u60, u61, u62, u63, u64, u65, u66, u67, u68, u69, u70, u71, u72, u73, u74, u75, u76, u77, u78, u79, u80, u81, u82, u83, u84, u85, u86, u87, u88, u89, u90, u91, u92, u93, u94, u95, u96, u97, u98, u99, u100, u101, u102, u103, u104, u105, u106, u107, u108, u109, u110, u111, u112, u113, u114, u115, u116, u117, u118, u119, u120, u121, u122, u123, u124, u125, u126, u127, u128, u129, u130, u131, u132, u133, u134, u135, u136, u137, u138, u139, u140, u141, u142, u143, u144, u145, u146, u147, u148, u149, u150, u151, u152, u153, u154, u155, u156, u157, u158, u159, u160, u161, u162, u163, u164, u165, u166, u167, u168, u169, u170, u171, u172, u173, u174, u175, u176, u177, u178, u179, u180, u181, u182, u183, u184, u185, u186, u187, u188, u189, u190, u191, u192, u193, u194, u195, u196, u197, u198, u199, u200, u201, u202, u203, u204, u205, u206, u207, u208, u209, u210, u211, u212, u213, u214, u215, u216, u217, u218, u219, u220, u221, u222, u223, u224, u225, u226, u227, u228, u229, u230, u231, u232, u233, u234, u235, u236, u237, u238, u239, u240, u241, u242], []⟩ w0 := by
 refine hK _ _ ?_
 conv => arg 4; zeta
 conv => arg 2; whnf
 have HH := Lib.hid (And.intro hF (And.intro hX hb))
 have HS0 := Lib.hid (And.intro h (And.intro hj hdq))
 have HP4 := Lib.hid hp4
 have hlo0 := h.lo
 clear hF hX hb h hp4 hK hj hdq
 show Code.wp _ _ (Exit.labels Tryz.prog body196 (bodyPost Tryz.prog Tryz.f196 (FbEnd M p X g w))) _ _
 go_upto_block 2 with fail
 go_cut [6, 9] (fun t6 _ wx => ∃ (s : Int) (j : Nat) (D : List Nat) (nd : Nat) (t : Bool) (N : Nat), t6 = .int .i64 (-s) ∧ Fl.FbS M p dp0 s j D nd 0 t N ∧ 53 ≤ D.getD 0 0 ∧ s ≤ 1100 ∧ j + 3 ≤ 5000 ∧ DcAt wx X D nd 0 g t ∧ Below X w wx)
 case first =>
  go_upto_region 18 with fail
  go_loopg [6, 9] (1101 - s0).toNat (fun f t6 _ wx => ∃ (s : Int) (j : Nat) (D : List Nat) (nd : Nat) (dp : Int) (t : Bool) (N : Nat), t6 = .int .i64 (-s) ∧ Fl.FbS M p dp0 s j D nd dp t N ∧ dp ≤ 0 ∧ (j : Int) ≤ 2114 + s ∧ s ≤ 1100 ∧ f = (1101 - s).toNat ∧ DcAt wx X D nd dp g t ∧ Below X w wx)
  case atStart => exact ⟨s0, j0, D0, nd0, dq, tq, N0, rfl, HS0.out.1, HS0.out.2.2, HS0.out.2.1, by omega, rfl, HH.out.2.1, HH.out.2.2⟩
  case round =>
   obtain ⟨s, j, D, nd, dp, t, N, rfl, hst, hdp, hj, hs, hf, hW, hbx⟩ := hrel
   have x1 := hW.c1
   have hlo := hst.lo
   have hdlo := hst.dlo
   have HS := Lib.hid hst
   have HW := Lib.hid (And.intro (HH.out.1.on hbx) (And.intro hW hbx))
   clear hst hW hbx
   have y0 := HW.out.1.pw.ptr
   obtain ⟨k0, hk0⟩ : ∃ k0 : Nat, (k0 : Int) = -dp := ⟨(-dp).toNat, by omega⟩
   have hk1 : (-dp).toNat = k0 := by omega
   by_cases c0 : dp < 0
   · have d0 : decide (dp < 0) = true := decide_eq_true c0
     have HC := Lib.hid (show dp ≤ 0 ∧ (dp < 0 ∨ D.getD 0 0 < 53) from ⟨hdp, .inl c0⟩)
     have e0 : IntKind.i64.wrap (-dp) = (k0 : Int) := by rw [IntKind.wrap_i64]; omega
     by_cases c9 : 9 ≤ k0
     · have d9 : decide ((9 : Int) ≤ (k0 : Int)) = true := decide_eq_true (by omega)
       have d9' : decide (9 ≤ k0) = true := decide_eq_true c9
       have pk : Fl.powt k0 = 27 := powt_far c9
       have H9 := Lib.hid pk
       clear c0 c9 hk0 pk
       go_upto_region 20 with fail
       go_quiet (fail)
       rename_i nq _
       have h1 := HW.out.1.on (below_drewN (Below.refl X wr) nq)
       have h2 := HW.out.2.1.drewN nq
       have h3 := below_drewN HW.out.2.2 nq
       generalize wr.drewN nq = wq at h1 h2 h3 ⊢
       have HW2 := Lib.hid (And.intro h1 (And.intro h2 h3))
       clear h1 h2 h3 x1 y0
       have x1 := HW2.out.2.1.c1
       have y0 := HW2.out.1.pw.ptr
       go_wp2_with fail
       refine (shift_left X D nd N 27 dp g t HS.out.st.num HS.out.st.top HS.out.st.nd_pos HS.out.st.le (by decide) (by decide) (by have := HS.out.dlo; omega) (by have := HS.out.dhi; omega) B _ HW2.out.1.fb.tab (HW2.out.1.sz HW2.out.2.1) (HW2.out.1.szB HW2.out.2.1) HW2.out.2.1).mono ?_
       intro e w1 h1
       obtain ⟨rfl, D1, nd1, dp1, t1, N1, q1, q2, q3, q4, q5⟩ := LsEnd.two (k := 27) HS.out (by omega) hx HC.out.1 HC.out.2 (by rw [hk1]; exact H9.out.symm) h1
       have HF := Lib.hid (And.intro q1 (And.intro q2 (And.intro q3 (And.intro q4 (HW2.out.2.2.trans q5)))))
       have w9 : IntKind.i64.wrap (-s - (27 : Nat)) = -(s + (27 : Nat)) := by rw [IntKind.wrap_i64]; omega
       have HM := Lib.hid (show (1101 - (s + (27 : Nat))).toNat < gk ∧ ((j + 1 : Nat) : Int) ≤ 2114 + (s + (27 : Nat)) ∧ -1057 ≤ s ∧ s ≤ 1100 from ⟨by omega, by omega, hlo, hs⟩)
       clear q1 q2 q3 q4 q5 h1 x1 y0 hk1 hdp hj hs hf hlo hdlo
       go_wp2_with fail
       go_roundg (1101 - (s + (27 : Nat))).toNat
       case measure => exact HM.out.1
       case rel => exact ⟨s + (27 : Nat), j + 1, D1, nd1, dp1, t1, N1, by first | exact congrArg (Value.int .i64) w9 | rfl | (refine congrArg (Value.int .i64) ?_; have := HM.out.2.2; unfold wrap64; omega), HF.out.1, HF.out.2.1, HM.out.2.1, HF.out.2.2.1, rfl, HF.out.2.2.2.1, HF.out.2.2.2.2⟩
     · have d9 : decide ((9 : Int) ≤ (k0 : Int)) = false := decide_eq_false (by omega)
       have d9' : decide (9 ≤ k0) = false := decide_eq_false c9
       have y1 := HW.out.1.pw.row k0 (by omega)
       have i0 : (0 : Int) ≤ (k0 : Int) := by omega
       have i1 : (k0 : Int) < 9 := by omega
       obtain ⟨n, hn⟩ : ∃ n, Fl.powt k0 = n := ⟨_, rfl⟩
       obtain ⟨n1, n2, _⟩ := Fl.powt_ok k0
       rw [hn] at y1 n1 n2
       have H9 := Lib.hid hn
       clear c0 c9 hk0 hn
       go_upto_region 20 with fail
       go_quiet (fail)
       rename_i nq _
       have h1 := HW.out.1.on (below_drewN (Below.refl X wr) nq)
       have h2 := HW.out.2.1.drewN nq
       have h3 := below_drewN HW.out.2.2 nq
       generalize wr.drewN nq = wq at h1 h2 h3 ⊢
       have HW2 := Lib.hid (And.intro h1 (And.intro h2 h3))
       clear h1 h2 h3 x1 y0 y1
       have x1 := HW2.out.2.1.c1
       have y0 := HW2.out.1.pw.ptr
       have y1 := HW2.out.1.pw.row k0 (by omega)
       rw [H9.out] at y1
       go_upto_region 22 with fail
       go_quiet (fail)
       rename_i nq _
       have h1 := HW2.out.1.on (below_drewN (Below.refl X wq) nq)
       have h2 := HW2.out.2.1.drewN nq
       have h3 := below_drewN HW2.out.2.2 nq
       generalize wq.drewN nq = wz at h1 h2 h3 ⊢
       have HW3 := Lib.hid (And.intro h1 (And.intro h2 h3))
       clear h1 h2 h3 x1 y0 y1
       have x1 := HW3.out.2.1.c1
       have y0 := HW3.out.1.pw.ptr
       go_wp2_with fail
       refine (shift_left X D nd N n dp g t HS.out.st.num HS.out.st.top HS.out.st.nd_pos HS.out.st.le (by exact n1) (by omega) (by have := HS.out.dlo; omega) (by have := HS.out.dhi; omega) B _ HW3.out.1.fb.tab (HW3.out.1.sz HW3.out.2.1) (HW3.out.1.szB HW3.out.2.1) HW3.out.2.1).mono ?_
       intro e w1 h1
       obtain ⟨rfl, D1, nd1, dp1, t1, N1, q1, q2, q3, q4, q5⟩ := LsEnd.two (k := n) HS.out (by omega) hx HC.out.1 HC.out.2 (by rw [hk1]; exact H9.out.symm) h1
       have HF := Lib.hid (And.intro q1 (And.intro q2 (And.intro q3 (And.intro q4 (HW3.out.2.2.trans q5)))))
       have w9 : IntKind.i64.wrap (-s - (n : Nat)) = -(s + (n : Nat)) := by rw [IntKind.wrap_i64]; omega
       have HM := Lib.hid (show (1101 - (s + (n : Nat))).toNat < gk ∧ ((j + 1 : Nat) : Int) ≤ 2114 + (s + (n : Nat)) ∧ -1057 ≤ s ∧ s ≤ 1100 from ⟨by omega, by omega, hlo, hs⟩)
       clear q1 q2 q3 q4 q5 h1 x1 y0 hk1 hdp hj hs hf hlo hdlo i0 i1 n1 n2 e0 d0 d9 d9'
       go_wp2_with fail
       go_roundg (1101 - (s + (n : Nat))).toNat
       case measure => exact HM.out.1
       case rel => exact ⟨s + (n : Nat), j + 1, D1, nd1, dp1, t1, N1, by first | exact congrArg (Value.int .i64) w9 | rfl | (refine congrArg (Value.int .i64) ?_; have := HM.out.2.2; unfold wrap64; omega), HF.out.1, HF.out.2.1, HM.out.2.1, HF.out.2.2.1, rfl, HF.out.2.2.2.1, HF.out.2.2.2.2⟩
   · obtain rfl : dp = 0 := by omega
     obtain rfl : k0 = 0 := by omega
     obtain ⟨b, hb⟩ : ∃ b, D[0]? = some b := ⟨_, List.getElem?_eq_getElem (by rw [HW.out.2.1.len]; decide)⟩
     have xb := HW.out.2.1.byte hb
     have hbd : D.getD 0 0 = b := by rw [List.getD_eq_getElem?_getD, hb]; rfl
     by_cases c5 : b < 53
     · have d5 : decide ((b : Int) < 53) = true := decide_eq_true (by omega)
       have d5' : decide (b < 53) = true := decide_eq_true c5
       have HC := Lib.hid (show (0 : Int) ≤ 0 ∧ ((0 : Int) < 0 ∨ D.getD 0 0 < 53) from ⟨Int.le_refl _, .inr (by rw [hbd]; exact c5)⟩)
       have y1 := HW.out.1.pw.row 0 (by decide)
       have hp0 : Fl.powt 0 = 1 := rfl
       rw [hp0] at y1
       clear c5 hk0 hb hbd c0
       go_upto_region 20 with fail
       go_quiet (fail)
       rename_i nq _
       have h1 := HW.out.1.on (below_drewN (Below.refl X wr) nq)
       have h2 := HW.out.2.1.drewN nq
       have h3 := below_drewN HW.out.2.2 nq
       generalize wr.drewN nq = wq at h1 h2 h3 ⊢
       have HW2 := Lib.hid (And.intro h1 (And.intro h2 h3))
       clear h1 h2 h3 x1 y0 y1 xb
       have x1 := HW2.out.2.1.c1
       have y0 := HW2.out.1.pw.ptr
       have y1 := HW2.out.1.pw.row 0 (by decide)
       rw [hp0, Nat.add_zero] at y1
       go_upto_region 22 with fail
       go_quiet (fail)
       rename_i nq _
       have h1 := HW2.out.1.on (below_drewN (Below.refl X wq) nq)
       have h2 := HW2.out.2.1.drewN nq
       have h3 := below_drewN HW2.out.2.2 nq
       generalize wq.drewN nq = wz at h1 h2 h3 ⊢
       have HW3 := Lib.hid (And.intro h1 (And.intro h2 h3))
       clear h1 h2 h3 x1 y0 y1
       have x1 := HW3.out.2.1.c1
       have y0 := HW3.out.1.pw.ptr
       go_wp2_with fail
       refine (shift_left X D nd N 1 0 g t HS.out.st.num HS.out.st.top HS.out.st.nd_pos HS.out.st.le (by decide) (by decide) (by have := HS.out.dlo; omega) (by have := HS.out.dhi; omega) B _ HW3.out.1.fb.tab (HW3.out.1.sz HW3.out.2.1) (HW3.out.1.szB HW3.out.2.1) HW3.out.2.1).mono ?_
       intro e w1 h1
       obtain ⟨rfl, D1, nd1, dp1, t1, N1, q1, q2, q3, q4, q5⟩ := LsEnd.two (k := 1) HS.out (by omega) hx HC.out.1 HC.out.2 (by rfl) h1
       have HF := Lib.hid (And.intro q1 (And.intro q2 (And.intro q3 (And.intro q4 (HW3.out.2.2.trans q5)))))
       have w9 : IntKind.i64.wrap (-s - (1 : Nat)) = -(s + (1 : Nat)) := by rw [IntKind.wrap_i64]; omega
       have HM := Lib.hid (show (1101 - (s + (1 : Nat))).toNat < gk ∧ ((j + 1 : Nat) : Int) ≤ 2114 + (s + (1 : Nat)) ∧ -1057 ≤ s ∧ s ≤ 1100 from ⟨by omega, by omega, hlo, hs⟩)
       clear q1 q2 q3 q4 q5 h1 x1 y0 hk1 hdp hj hs hf hlo hdlo
       go_wp2_with fail
       go_roundg (1101 - (s + (1 : Nat))).toNat
       case measure => exact HM.out.1
       case rel => exact ⟨s + (1 : Nat), j + 1, D1, nd1, dp1, t1, N1, by first | exact congrArg (Value.int .i64) w9 | rfl | (refine congrArg (Value.int .i64) ?_; have := HM.out.2.2; unfold wrap64; omega), HF.out.1, HF.out.2.1, HM.out.2.1, HF.out.2.2.1, rfl, HF.out.2.2.2.1, HF.out.2.2.2.2⟩
     · have d5 : decide ((b : Int) < 53) = false := decide_eq_false (by omega)
       have d5' : decide (b < 53) = false := decide_eq_false c5
       have HC := Lib.hid (show 53 ≤ D.getD 0 0 by rw [hbd]; omega)
       have hjj : j + 3 ≤ 5000 := by omega
       go_wp2_with fail
       go_meet
       exact ⟨s, j, D, nd, t, N, rfl, HS.out, HC.out, hs, hjj, HW.out.2.1, HW.out.2.2⟩
 case rest =>
  obtain ⟨s, j, D, nd, t, N, rfl, a1, a2, a3, a4, a5, a6⟩ := hcut
  exact fb_three M p s dp0 X D nd N j g t B w _ _ _ _ _ _ _ _ _ _ _ _ _ _ _ _ _ _ _ _ _ _ _ _ _ _ _ _ _ _ _ _ _ _ _ _ _ _ _ _ _ _ _ _ _ _ _ _ _ _ _ _ _ _ _ _ _ _ _ _ _ _ _ _ _ _ _ _ _ _ _ _ _ _ _ _ _ _ _ _ _ _ _ _ _ _ _ _ _ _ _ _ _ _ _ _ _ _ _ _ _ _ _ _ _ _ _ _ _ _ _ _ _ _ _ _ _ _ _ _ _ _ _ _ _ _ _ _ _ _ _ _ _ _ _ _ _ _ _ _ _ _ _ _ _ _ _ _ _ _ _ _ _ _ _ _ _ _ _ _ _ _ _ _ _ _ _ _ _ _ _ _ _ _ _ _ _ _ _ _ _ _ _ _ _ _ _ _ _ _ _ _ _ _ _ _ _ _ _ _ _ _ _ _ _ _ _ _ _ _ _ _ _ _ _ _ _ _ _ _ _ _ _ _ _ _ _ _ _ _ _ _ _ _ _ _ _ _ _ _ (by assumption) a1 a2 a3 a4 hp (fun h => HP4.out (a1.neg h)) (HH.out.1.on a6).fb a5 a6
end Go.Proofs.YtjapgpmoojfhnaaGreatDoor
