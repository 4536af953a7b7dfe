/- ref.Nearest: the quotient as a number. ref.Nearest: down to a full quotient. ref.Nearest: up to a small quotient. ref.Nearest: the numbers. -/
import Derived.Test.YtjapgpmoojfhnaaGreatDoorB43
set_option maxHeartbeats 16000000
set_option maxRecDepth 100000
set_option linter.unusedSimpArgs false
set_option linter.unusedVariables false
namespace Go.Proofs.YtjapgpmoojfhnaaGreatDoor
open Go.RowKit Go.Lib
theorem ne_four (g : Bool) (S : ByteArray) (E : Int) (u v X F P4 P5 P6 P7 P9 P10 P11 : Nat) (k : Int) (K : Nat) (w w0 : World) (u0 u12 u13 u14 u15 u16 u17 u18 u19 u20 u21 u22 u23 u24 u25 u26 u27 u28 u29 u30 u31 u32 u33 u34 u35 u36 u37 u38 u39 u40 u41 u42 u43 u44 u45 u46 u47 u48 u49 u50 u51 u52 u53 u54 u55 u56 u57 u58 u59 u60 u61 u62 u63 u64 u65 u66 u67 u68 u69 u70 u71 u72 u73 u74 u75 u76 u77 u78 u79 u80 u81 u82 u83 u84 u85 u86 u87 u88 u89 u90 u91 u92 u93 u94 u95 u96 u97 u98 u99 u100 u101 u102 u103 u104 u105 u106 u107 u108 u109 u110 u111 u112 u113 u114 u115 u116 u117 u118 u119 u120 u121 u122 u123 u124 u125 u126 u127 u128 u129 u130 u131 u132 u133 u134 u135 u136 u137 u138 u139 u140 u141 u142 u143 u144 u145 u146 u147 u148 u149 u150 u151 u152 u153 u154 u155 u156 u157 u158 u159 u160 u161 u162 u163 u164 u165 u166 u167 : Value) {Q : Ending → World → Prop} {K0 : Act → World → Prop}
 (hK : ∀ a w', Code.wp Tryz.prog suf42d (bodyPost Tryz.prog Tryz.f42 Q) a w' → K0 a w')
 (hQ : ∀ x w', NeEnd g (Fl.shN u k) (Fl.shD v k) K X w x w' → Q x w')
 (hk : k = (K : Int) - 1074) (hK0 : -1400 ≤ k ∧ k ≤ 1400) (hq : Fl.shN u k / Fl.shD v k < 9007199254740992) (hlo : K = 0 ∨ 4503599627370496 ≤ Fl.shN u k / Fl.shD v k) (hu : 0 < u) (hv : 0 < v) (hT : 2 * Fl.shD v k < 10 ^ 2000) (h : NeC w X F P4 P5 P6 P7 P9 P10 P11 g S E u v k w0) :
 K0 ⟨#[u0, .pointer (some ⟨X, 0, none⟩), .pointer (some ⟨F, 0, none⟩), .bool false, .pointer (some ⟨P4, 0, none⟩), .pointer (some ⟨P5, 0, none⟩), .pointer (some ⟨P6, 0, none⟩), .pointer (some ⟨P7, 0, none⟩), .int .i64 k, .pointer (some ⟨P9, 0, none⟩), .pointer (some ⟨P10, 0, none⟩), .pointer (some ⟨P11, 0, none⟩), u12, u13, u14, u15, u16, u17, u18, u19, u20, u21, u22, u23, u24, u25, u26, u27, u28, u29, u30, u31, u32, u33, u34, u35, u36, u37, u38, u39, u40, u41, u42, u43, u44, u45, u46, u47, u48, u49, u50, u51, u52, u53, u54, u55, u56, u57, u58, u59, u60, u61, u62, u63, u64, u65, u66, u67, u68, u69, u70, u71, u72, u73, u74, u75, u76, u77, u78, u79, u80, u81, u82, u83, u84, u85, u86, u87, u88, u89, u90, u91, u92, u93, u94, u95, u96, u97, u98, u99, u100, u101, u102, u103, u104, u105, u106, u107, u108, u109, u110, u111, u112, u113, u114, u115, u116, u117, u118, u119, u120, u121, u122, u123, u124, u125, u126, u127, u128, u129, u130, u131, u132, u133, u134, u135, u136, u137, u138, u139, u140, u141, u142, u143, u144, u145, u146, u147, u148, u149, u150, u151, u152, u153, u154, u155, u156, u157, u158, u159, u160, u161, u162, u163, u164, u165, u166, u167], []⟩ w0 := by
 refine hK _ _ ?_
 conv => arg 4; zeta
 conv => arg 2; whnf
 obtain ⟨A9, n9, c9, hi9⟩ := h.i9
 have HH := Lib.hid h
 have HQ := Lib.hid hQ
 have HT := Lib.hid (And.intro hk (And.intro hK0 (And.intro hq (And.intro hlo (And.intro hu (And.intro hv hT))))))
 obtain ⟨q, hqq⟩ : ∃ q, Fl.shN u k / Fl.shD v k = q := ⟨_, rfl⟩
 rw [hqq] at hq hi9
 have hl9 := hi9.len
 have hn9 : n9 ≤ 16 := by rw [hl9]; exact digL_few (Nat.lt_trans hq (by decide))
 have q1 := hi9.c1
 have H9 := Lib.hid hi9
 have HN := Lib.hid hl9.symm
 have HQQ := Lib.hid hqq
 have HLT := Lib.hid hq
 have w0' : IntKind.i64.wrap ((n9 : Int) - 1) = (n9 : Int) - 1 := IntWalk.i64_in _ (by omega)
 clear h hK hQ hk hK0 hq hlo hu hv hT hqq hi9 hl9
 go_upto_block 4 with fail
 go_cut [12] (fun t wx => t = .int .u64 (q : Int) ∧ wx = w0)
 case first =>
  go_upto_region 22 with fail
  go_loopg [12, 13] n9 (fun f t12 t13 wx => t12 = .int .u64 ((dv ((Fl.digL q).drop f) : Nat) : Int) ∧ t13 = .int .i64 ((f : Int) - 1) ∧ f ≤ n9 ∧ wx = w0)
  case atStart => exact ⟨by rw [List.drop_of_length_le (Nat.le_of_eq HN.out)]; rfl, rfl, Nat.le_refl _, rfl⟩
  case round =>
   obtain ⟨rfl, rfl, hfm, hww⟩ := hrel
   subst hww
   cases gk with
   | zero =>
     have c1 : decide ((0 : Int) ≤ ((0 : Nat) : Int) - 1) = false := by decide
     have c1b : decide ((0 : Int) ≤ -1) = false := by decide
     rw [List.drop_zero, dv_digL]
     go_wp2_with fail
     go_meet
     exact ⟨rfl, rfl⟩
   | succ f =>
     have e8 : (((f + 1 : Nat) : Int) - 1) = (f : Int) := by omega
     rw [e8]
     obtain ⟨bq, off, x, rfl, hbX, hx, hcell⟩ := H9.out.rd.at_ (k := f) (by omega)
     obtain ⟨d, hdf, rfl⟩ := u8_at hx
     have hd9 := digL_le9 q d (List.mem_of_getElem? hdf)
     have c1 : decide ((0 : Int) ≤ (f : Int)) = true := decide_eq_true (by omega)
     have hf0 : (0 : Int) ≤ (f : Int) := by omega
     have hfn : (f : Int) < (n9 : Int) := by omega
     obtain ⟨V, hV⟩ : ∃ V, dv ((Fl.digL q).drop (f + 1)) = V := ⟨_, rfl⟩
     have hdv := dv_drop hdf
     rw [hV] at hdv
     have hVle : dv ((Fl.digL q).drop f) ≤ q := by
      have := dv_split (Fl.digL q) f (by rw [HN.out]; omega)
      rw [dv_digL] at this
      have h1 : dv ((Fl.digL q).drop f) ≤ 10 ^ f * dv ((Fl.digL q).drop f) := Nat.le_mul_of_pos_left _ (Nat.pow_pos (by omega))
      omega
     have hlt := HLT.out
     have g1 : IntKind.u64.wrap (10 * (V : Int)) = ((10 * V : Nat) : Int) := by rw [IntKind.wrap_u64]; omega
     have g2 : IntKind.u64.wrap (d : Int) = (d : Int) := by rw [IntKind.wrap_u64]; omega
     have g3 : IntKind.u64.wrap (((10 * V : Nat) : Int) + (d : Int)) = ((d + 10 * V : Nat) : Int) := by rw [IntKind.wrap_u64]; omega
     have g3b : IntKind.u64.wrap (10 * (V : Int) + (d : Int)) = ((d + 10 * V : Nat) : Int) := by rw [IntKind.wrap_u64]; omega
     have g8 : IntKind.i64.wrap ((f : Int) - 1) = (f : Int) - 1 := IntWalk.i64_in _ (by omega)
     rw [hV]
     have HDV := Lib.hid hdv
     clear hx hdf hdv hV hVle e8 hlt
     go_wp2_with fail
     go_roundg f
     case measure => omega
     case rel => exact ⟨by rw [HDV.out]; exact congrArg _ (by omega), rfl, by omega, rfl⟩
 case rest =>
  obtain ⟨rfl, hww⟩ := hcut
  obtain rfl := hww.symm
  obtain ⟨a1, a2, a3, a4, a5, a6, a7⟩ := HT.out
  have hqq := HQQ.out
  subst hqq
  exact ne_five g S E u v X F P4 P5 P6 P7 P9 P10 P11 k K w _ _ _ _ _ _ _ _ _ _ _ _ _ _ _ _ _ _ _ _ _ _ _ _ _ _ _ _ _ _ _ _ _ _ _ _ _ _ _ _ _ _ _ _ _ _ _ _ _ _ _ _ _ _ _ _ _ _ _ _ _ _ _ _ _ _ _ _ _ _ _ _ _ _ _ _ _ _ _ _ _ _ _ _ _ _ _ _ _ _ _ _ _ _ _ _ _ _ _ _ _ _ _ _ _ _ _ _ _ _ _ _ _ _ _ _ _ _ _ _ _ _ _ _ _ _ _ _ _ _ _ _ _ _ _ _ _ _ _ _ _ _ _ _ _ _ _ _ _ _ _ _ _ _ _ _ _ (by assumption) HQ.out a1 a2 a3 a4 a5 a6 a7 HH.out
theorem ne_three (g : Bool) (S : ByteArray) (E : Int) (u v X F P4 P5 P6 P7 P9 P10 P11 : Nat) (k : Int) (w w0 : World) (u0 u12 u13 u14 u15 u16 u17 u18 u19 u20 u21 u22 u23 u24 u25 u26 u27 u28 u29 u30 u31 u32 u33 u34 u35 u36 u37 u38 u39 u40 u41 u42 u43 u44 u45 u46 u47 u48 u49 u50 u51 u52 u53 u54 u55 u56 u57 u58 u59 u60 u61 u62 u63 u64 u65 u66 u67 u68 u69 u70 u71 u72 u73 u74 u75 u76 u77 u78 u79 u80 u81 u82 u83 u84 u85 u86 u87 u88 u89 u90 u91 u92 u93 u94 u95 u96 u97 u98 u99 u100 u101 u102 u103 u104 u105 u106 u107 u108 u109 u110 u111 u112 u113 u114 u115 u116 u117 u118 u119 u120 u121 u122 u123 u124 u125 u126 u127 u128 u129 u130 u131 u132 u133 u134 u135 u136 u137 u138 u139 u140 u141 u142 u143 u144 u145 u146 u147 u148 u149 u150 u151 u152 u153 u154 u155 u156 u157 u158 u159 u160 u161 u162 u163 u164 u165 u166 u167 : Value) {Q : Ending → World → Prop} {K0 : Act → World → Prop}
 (hK : ∀ a w', Code.wp Tryz.prog suf42c (bodyPost Tryz.prog Tryz.f42 Q) a w' → K0 a w')
 (hQ : ∀ (K : Nat) (k : Int) x w', k = (K : Int) - 1074 → Fl.shN u k / Fl.shD v k < 9007199254740992 → (K = 0 ∨ 4503599627370496 ≤ Fl.shN u k / Fl.shD v k) → NeEnd g (Fl.shN u k) (Fl.shD v k) K X w x w' → Q x w')
 (hu : 0 < u) (hv : 0 < v) (hSH : ∀ k : Int, -1074 ≤ k → k ≤ 1400 → Fl.shN u k < 10 ^ 2000 ∧ 2 * Fl.shD v k < 10 ^ 2000) (hk1 : -1074 ≤ k) (hk2 : k ≤ 1400) (hq : Fl.shN u k / Fl.shD v k < 9007199254740992) (h : NeC w X F P4 P5 P6 P7 P9 P10 P11 g S E u v k w0) :
 K0 ⟨#[u0, .pointer (some ⟨X, 0, none⟩), .pointer (some ⟨F, 0, none⟩), .bool false, .pointer (some ⟨P4, 0, none⟩), .pointer (some ⟨P5, 0, none⟩), .pointer (some ⟨P6, 0, none⟩), .pointer (some ⟨P7, 0, none⟩), .int .i64 k, .pointer (some ⟨P9, 0, none⟩), .pointer (some ⟨P10, 0, none⟩), .pointer (some ⟨P11, 0, none⟩), u12, u13, u14, u15, u16, u17, u18, u19, u20, u21, u22, u23, u24, u25, u26, u27, u28, u29, u30, u31, u32, u33, u34, u35, u36, u37, u38, u39, u40, u41, u42, u43, u44, u45, u46, u47, u48, u49, u50, u51, u52, u53, u54, u55, u56, u57, u58, u59, u60, u61, u62, u63, u64, u65, u66, u67, u68, u69, u70, u71, u72, u73, u74, u75, u76, u77, u78, u79, u80, u81, u82, u83, u84, u85, u86, u87, u88, u89, u90, u91, u92, u93, u94, u95, u96, u97, u98, u99, u100, u101, u102, u103, u104, u105, u106, u107, u108, u109, u110, u111, u112, u113, u114, u115, u116, u117, u118, u119, u120, u121, u122, u123, u124, u125, u126, u127, u128, u129, u130, u131, u132, u133, u134, u135, u136, u137, u138, u139, u140, u141, u142, u143, u144, u145, u146, u147, u148, u149, u150, u151, u152, u153, u154, u155, u156, u157, u158, u159, u160, u161, u162, u163, u164, u165, u166, u167], []⟩ w0 := by
 refine hK _ _ ?_
 conv => arg 4; zeta
 conv => arg 2; whnf
 have HQ := Lib.hid hQ
 have HS := Lib.hid (And.intro hu (And.intro hv hSH))
 have SC := Lib.hid (fun (j : Int) (h1 : -1074 ≤ j) (h2 : j ≤ 1400) A n c B m d W hr hr2 => shifted_any A B n m c d u v j (by omega) h2 hu hv (hSH j h1 h2).1 (by have := (hSH j h1 h2).2; omega) W hr hr2)
 have H0 := Lib.hid (And.intro h (And.intro hk1 (And.intro hk2 hq)))
 clear h hK hQ hSH hu hv hk1 hk2 hq
 go_upto_block 2 with fail
 go_cut [8] (fun t8 wx => ∃ j : Int, t8 = .int .i64 j ∧ -1074 ≤ j ∧ j ≤ 1400 ∧ Fl.shN u j / Fl.shD v j < 9007199254740992 ∧ (j = -1074 ∨ 4503599627370496 ≤ Fl.shN u j / Fl.shD v j) ∧ NeC w X F P4 P5 P6 P7 P9 P10 P11 g S E u v j wx)
 case first =>
  go_upto_region 17 with fail
  go_loopg [8] (k + 1074).toNat (fun f t8 wx => ∃ j : Int, t8 = .int .i64 j ∧ f = (j + 1074).toNat ∧ -1074 ≤ j ∧ j ≤ 1400 ∧ Fl.shN u j / Fl.shD v j < 9007199254740992 ∧ NeC w X F P4 P5 P6 P7 P9 P10 P11 g S E u v j wx)
  case atStart =>
   obtain ⟨a1, a2, a3, a4⟩ := H0.out
   exact ⟨k, rfl, rfl, a2, a3, a4, a1⟩
  case round =>
   obtain ⟨j, rfl, hf, hj1, hj2, hq, hN⟩ := hrel
   obtain ⟨A9, n9, c9, hi9⟩ := hN.i9
   obtain ⟨A7, n7, c7, hi7⟩ := hN.i7
   obtain ⟨q, hqq⟩ : ∃ q, Fl.shN u j / Fl.shD v j = q := ⟨_, rfl⟩
   have hq' := hq
   rw [hqq] at hi9 hq'
   have CM := Lib.hid (cmp88_ri A9 A7 n9 n7 c9 c7 q 4503599627370496 wr hi9.rd hi7.rd (by rw [hi9.len]; exact Nat.le_trans (digL_few (N := 16) (Nat.lt_trans hq' (by decide))) (by decide)) (by rw [hi7.len]; exact Nat.le_trans (digL_few (N := 16) (by decide)) (by decide)))
   have p0 := hi9.c0
   have p1 := hi9.c1
   have r0 := hi7.c0
   have r1 := hi7.c1
   have HN := Lib.hid (And.intro hN (And.intro hj1 (And.intro hj2 (And.intro hq (And.intro hqq hf)))))
   clear hN hi9 hi7 hj1 hj2 hq hq'
   by_cases hlow : q < 4503599627370496
   · have e1 : cmpN q 4503599627370496 = -1 := cmpN_lt hlow
     rw [e1] at CM
     clear e1 hqq hf
     by_cases hj : j = -1074
     · subst hj
       have HL := Lib.hid hlow
       clear hlow
       go_wp2_with fail
       refine (CM.out).mono ?_
       rintro x w1 ⟨rfl, hb1⟩
       go_wp2_with fail
       go_meet
       obtain ⟨a1, a2, a3, a4, a5, a6⟩ := HN.out
       exact ⟨_, rfl, a2, a3, a4, .inl rfl, a1.on hb1⟩
     · have d1 : decide ((-1074 : Int) < j) = true := decide_eq_true (by have := HN.out.2.1; omega)
       have g1 : IntKind.i64.wrap (j - 1) = j - 1 := IntWalk.i64_in _ (by have := HN.out.2.1; have := HN.out.2.2.1; omega)
       have HL := Lib.hid (And.intro hlow hj)
       clear hlow hj
       go_wp2_with fail
       refine (CM.out).mono ?_
       rintro x w1 ⟨rfl, hb1⟩
       have hN1 := HN.out.1.on hb1
       obtain ⟨A4, n4, c4, hi4⟩ := hN1.i4
       obtain ⟨A5, n5, c5, hi5⟩ := hN1.i5
       clear p0 p1 r0 r1
       have p0 := hi4.c0
       have p1 := hi4.c1
       have r0 := hi5.c0
       have r1 := hi5.c1
       have SJ := Lib.hid (SC.out (j - 1) (by have := HN.out.2.1; have := HL.out.2; omega) (by have := HN.out.2.2.1; omega) A4 n4 c4 A5 n5 c5 w1 hi4.rd hi5.rd)
       have HN1 := Lib.hid hN1
       clear hN1 hi4 hi5 hb1
       go_wp2_with fail
       refine (SJ.out).mono ?_
       rintro x w2 ⟨⟨Q1, mq, cq, R1, mr, cr, D1, md, cd, hq1, hr1, hd1, rfl⟩, hb2⟩
       have hN2 := HN1.out.on hb2
       have HP := Lib.hid (hN2.put (cq := cq) (cr := cr) (cd := cd) hq1 hr1 hd1)
       obtain ⟨A9', n9', c9', hi9⟩ := hN2.i9
       obtain ⟨A10, n10, c10, hi10⟩ := hN2.i10
       obtain ⟨A11, n11, c11, hi11⟩ := hN2.i11
       have o10 := hN2.o10
       have o11 := hN2.o11
       have z0 := hi9.c0
       have z1 := hi9.c1
       have z2 := hi10.c0
       have z3 := hi10.c1
       have z4 := hi11.c0
       have z5 := hi11.c1
       have f0 := free_block hi9.cell 0
       have f1 := free_block hi9.cell 1
       have f2 := free_block hi10.cell 0
       have f3 := free_block hi10.cell 1
       have f4 := free_block hi11.cell 0
       have f5 := free_block hi11.cell 1
       have ne1 : ¬ P10 = P9 := by omega
       have ne2 : ¬ P11 = P9 := by omega
       have ne3 : ¬ P11 = P10 := by omega
       clear hN2 hi9 hi10 hi11 hq1 hr1 hd1 hb2 p0 p1 r0 r1 o10 o11
       go_wp2_with fail
       go_roundg (j - 1 + 1074).toNat
       case measure =>
        obtain ⟨a1, a2, a3, a4, a5, a6⟩ := HN.out
        have := HL.out.2
        omega
       case rel =>
        obtain ⟨a1, a2, a3, a4, a5, a6⟩ := HN.out
        refine ⟨j - 1, by first | rfl | exact congrArg (Value.int .i64) g1, rfl, by have := HL.out.2; omega, by omega, ?_, HP.out⟩
        have e := Fl.sh_half u HS.out.2.1 (j - 1)
        rw [show j - 1 + 1 = j by omega, a5] at e
        have := HL.out.1
        omega
   · have e1 : 0 ≤ cmpN q 4503599627370496 := by
      unfold cmpN
      rw [if_neg hlow]
      split <;> decide
     have e2 : decide (cmpN q 4503599627370496 < 0) = false := decide_eq_false (by omega)
     obtain ⟨cc, hcc⟩ : ∃ cc, cmpN q 4503599627370496 = cc := ⟨_, rfl⟩
     rw [hcc] at CM e2
     have HL := Lib.hid hlow
     clear hlow e1 hcc hqq hf
     go_wp2_with fail
     refine (CM.out).mono ?_
     rintro x w1 ⟨rfl, hb1⟩
     go_wp2_with fail
     go_meet
     obtain ⟨a1, a2, a3, a4, a5, a6⟩ := HN.out
     exact ⟨_, rfl, a2, a3, a4, .inr (by have := HL.out; omega), a1.on hb1⟩
 case rest =>
  obtain ⟨j, rfl, a2, a3, a4, a5, a1⟩ := hcut
  obtain ⟨K, hK⟩ : ∃ K : Nat, j = (K : Int) - 1074 := ⟨(j + 1074).toNat, by omega⟩
  have hlo : K = 0 ∨ 4503599627370496 ≤ Fl.shN u j / Fl.shD v j := by
   rcases a5 with h | h
   · left; omega
   · exact .inr h
  exact ne_four g S E u v X F P4 P5 P6 P7 P9 P10 P11 j K w _ _ _ _ _ _ _ _ _ _ _ _ _ _ _ _ _ _ _ _ _ _ _ _ _ _ _ _ _ _ _ _ _ _ _ _ _ _ _ _ _ _ _ _ _ _ _ _ _ _ _ _ _ _ _ _ _ _ _ _ _ _ _ _ _ _ _ _ _ _ _ _ _ _ _ _ _ _ _ _ _ _ _ _ _ _ _ _ _ _ _ _ _ _ _ _ _ _ _ _ _ _ _ _ _ _ _ _ _ _ _ _ _ _ _ _ _ _ _ _ _ _ _ _ _ _ _ _ _ _ _ _ _ _ _ _ _ _ _ _ _ _ _ _ _ _ _ _ _ _ _ _ _ _ _ _ _ _ (by assumption) (fun x w' hx => HQ.out K j x w' hK a4 hlo hx) hK ⟨by omega, a3⟩ a4 hlo HS.out.1 HS.out.2.1 (HS.out.2.2 j a2 a3).2 a1
theorem ne_two (g : Bool) (S : ByteArray) (E : Int) (u v X F P4 P5 P6 P7 P9 P10 P11 : Nat) (k : Int) (w w0 : World) (u0 u12 u13 u14 u15 u16 u17 u18 u19 u20 u21 u22 u23 u24 u25 u26 u27 u28 u29 u30 u31 u32 u33 u34 u35 u36 u37 u38 u39 u40 u41 u42 u43 u44 u45 u46 u47 u48 u49 u50 u51 u52 u53 u54 u55 u56 u57 u58 u59 u60 u61 u62 u63 u64 u65 u66 u67 u68 u69 u70 u71 u72 u73 u74 u75 u76 u77 u78 u79 u80 u81 u82 u83 u84 u85 u86 u87 u88 u89 u90 u91 u92 u93 u94 u95 u96 u97 u98 u99 u100 u101 u102 u103 u104 u105 u106 u107 u108 u109 u110 u111 u112 u113 u114 u115 u116 u117 u118 u119 u120 u121 u122 u123 u124 u125 u126 u127 u128 u129 u130 u131 u132 u133 u134 u135 u136 u137 u138 u139 u140 u141 u142 u143 u144 u145 u146 u147 u148 u149 u150 u151 u152 u153 u154 u155 u156 u157 u158 u159 u160 u161 u162 u163 u164 u165 u166 u167 : Value) {Q : Ending → World → Prop} {K0 : Act → World → Prop}
 (hK : ∀ a w', Code.wp Tryz.prog suf42b (bodyPost Tryz.prog Tryz.f42 Q) a w' → K0 a w')
 (hQ : ∀ (K : Nat) (k : Int) x w', k = (K : Int) - 1074 → Fl.shN u k / Fl.shD v k < 9007199254740992 → (K = 0 ∨ 4503599627370496 ≤ Fl.shN u k / Fl.shD v k) → NeEnd g (Fl.shN u k) (Fl.shD v k) K X w x w' → Q x w')
 (hu : 0 < u) (hv : 0 < v) (hSH : ∀ k : Int, -1074 ≤ k → k ≤ 1400 → Fl.shN u k < 10 ^ 2000 ∧ 2 * Fl.shD v k < 10 ^ 2000) (hUP : ∀ k : Int, 0 < Fl.shN u k / Fl.shD v k → k < 1340) (hk1 : -1074 ≤ k) (hk2 : k ≤ 1400) (h : NeC w X F P4 P5 P6 P7 P9 P10 P11 g S E u v k w0) :
 K0 ⟨#[u0, .pointer (some ⟨X, 0, none⟩), .pointer (some ⟨F, 0, none⟩), .bool false, .pointer (some ⟨P4, 0, none⟩), .pointer (some ⟨P5, 0, none⟩), .pointer (some ⟨P6, 0, none⟩), .pointer (some ⟨P7, 0, none⟩), .int .i64 k, .pointer (some ⟨P9, 0, none⟩), .pointer (some ⟨P10, 0, none⟩), .pointer (some ⟨P11, 0, none⟩), u12, u13, u14, u15, u16, u17, u18, u19, u20, u21, u22, u23, u24, u25, u26, u27, u28, u29, u30, u31, u32, u33, u34, u35, u36, u37, u38, u39, u40, u41, u42, u43, u44, u45, u46, u47, u48, u49, u50, u51, u52, u53, u54, u55, u56, u57, u58, u59, u60, u61, u62, u63, u64, u65, u66, u67, u68, u69, u70, u71, u72, u73, u74, u75, u76, u77, u78, u79, u80, u81, u82, u83, u84, u85, u86, u87, u88, u89, u90, u91, u92, u93, u94, u95, u96, u97, u98, u99, u100, u101, u102, u103, u104, u105, u106, u107, u108, u109, u110, u111, u112, u113, u114, u115, u116, u117, u118, u119, u120, u121, u122, u123, u124, u125, u126, u127, u128, u129, u130, u131, u132, u133, u134, u135, u136, u137, u138, u139, u140, u141, u142, u143, u144, u145, u146, u147, u148, u149, u150, u151, u152, u153, u154, u155, u156, u157, u158, u159, u160, u161, u162, u163, u164, u165, u166, u167], []⟩ w0 := by
 refine hK _ _ ?_
 conv => arg 4; zeta
 conv => arg 2; whnf
 have HQ := Lib.hid hQ
 have HS := Lib.hid (And.intro hu (And.intro hv (And.intro hSH hUP)))
 have SC := Lib.hid (fun (j : Int) (h1 : -1074 ≤ j) (h2 : j ≤ 1400) A n c B m d W hr hr2 => shifted_any A B n m c d u v j (by omega) h2 hu hv (hSH j h1 h2).1 (by have := (hSH j h1 h2).2; omega) W hr hr2)
 have H0 := Lib.hid (And.intro h (And.intro hk1 hk2))
 clear h hK hQ hSH hu hv hk1 hk2 hUP
 go_upto_block 0 with fail
 go_cut [8] (fun t8 wx => ∃ j : Int, t8 = .int .i64 j ∧ -1074 ≤ j ∧ j ≤ 1400 ∧ Fl.shN u j / Fl.shD v j < 9007199254740992 ∧ NeC w X F P4 P5 P6 P7 P9 P10 P11 g S E u v j wx)
 case first =>
  go_upto_region 14 with fail
  go_loopg [8] (1400 - k).toNat (fun f t8 wx => ∃ j : Int, t8 = .int .i64 j ∧ f = (1400 - j).toNat ∧ -1074 ≤ j ∧ j ≤ 1400 ∧ NeC w X F P4 P5 P6 P7 P9 P10 P11 g S E u v j wx)
  case atStart =>
   obtain ⟨a1, a2, a3⟩ := H0.out
   exact ⟨k, rfl, rfl, a2, a3, a1⟩
  case round =>
   obtain ⟨j, rfl, hf, hj1, hj2, hN⟩ := hrel
   obtain ⟨A9, n9, c9, hi9⟩ := hN.i9
   obtain ⟨A6, n6, c6, hi6⟩ := hN.i6
   obtain ⟨q, hqq⟩ : ∃ q, Fl.shN u j / Fl.shD v j = q := ⟨_, rfl⟩
   have hq2 : q ≤ Fl.shN u j := by rw [← hqq]; exact Nat.div_le_self _ _
   rw [hqq] at hi9
   have CM := Lib.hid (cmp88_ri A9 A6 n9 n6 c9 c6 q 9007199254740992 wr hi9.rd hi6.rd (by rw [hi9.len]; exact few hq2 (HS.out.2.2.1 j hj1 hj2).1) (by rw [hi6.len]; exact Nat.le_trans (digL_few (N := 16) (by decide)) (by decide)))
   have p0 := hi9.c0
   have p1 := hi9.c1
   have r0 := hi6.c0
   have r1 := hi6.c1
   have HN := Lib.hid (And.intro hN (And.intro hj1 (And.intro hj2 (And.intro hqq hf))))
   clear hN hi9 hi6 hj1 hj2 hq2
   by_cases hlow : q < 9007199254740992
   · have e1 : cmpN q 9007199254740992 = -1 := cmpN_lt hlow
     rw [e1] at CM
     have HL := Lib.hid hlow
     clear e1 hqq hf hlow
     go_wp2_with fail
     refine (CM.out).mono ?_
     rintro x w1 ⟨rfl, hb1⟩
     go_wp2_with fail
     go_meet
     obtain ⟨a1, a2, a3, a4, a6⟩ := HN.out
     exact ⟨_, rfl, a2, a3, by rw [a4]; exact HL.out, a1.on hb1⟩
   · have e1 : 0 ≤ cmpN q 9007199254740992 := by
      unfold cmpN
      rw [if_neg hlow]
      split <;> decide
     have e2 : decide (0 ≤ cmpN q 9007199254740992) = true := decide_eq_true e1
     obtain ⟨cc, hcc⟩ : ∃ cc, cmpN q 9007199254740992 = cc := ⟨_, rfl⟩
     rw [hcc] at CM e2
     have hj3 : j < 1340 := HS.out.2.2.2 j (by rw [hqq]; omega)
     have g1 : IntKind.i64.wrap (j + 1) = j + 1 := IntWalk.i64_in _ (by have := HN.out.2.1; omega)
     have HL := Lib.hid hj3
     clear hlow e1 hcc hqq hf hj3
     go_wp2_with fail
     refine (CM.out).mono ?_
     rintro x w1 ⟨rfl, hb1⟩
     have hN1 := HN.out.1.on hb1
     obtain ⟨A4, n4, c4, hi4⟩ := hN1.i4
     obtain ⟨A5, n5, c5, hi5⟩ := hN1.i5
     clear p0 p1 r0 r1
     have p0 := hi4.c0
     have p1 := hi4.c1
     have r0 := hi5.c0
     have r1 := hi5.c1
     have SJ := Lib.hid (SC.out (j + 1) (by have := HN.out.2.1; omega) (by have := HL.out; omega) A4 n4 c4 A5 n5 c5 w1 hi4.rd hi5.rd)
     have HN1 := Lib.hid hN1
     clear hN1 hi4 hi5 hb1
     go_wp2_with fail
     refine (SJ.out).mono ?_
     rintro x w2 ⟨⟨Q1, mq, cq, R1, mr, cr, D1, md, cd, hq1, hr1, hd1, rfl⟩, hb2⟩
     have hN2 := HN1.out.on hb2
     have HP := Lib.hid (hN2.put (cq := cq) (cr := cr) (cd := cd) hq1 hr1 hd1)
     obtain ⟨A9', n9', c9', hi9⟩ := hN2.i9
     obtain ⟨A10, n10, c10, hi10⟩ := hN2.i10
     obtain ⟨A11, n11, c11, hi11⟩ := hN2.i11
     have o10 := hN2.o10
     have o11 := hN2.o11
     have z0 := hi9.c0
     have z1 := hi9.c1
     have z2 := hi10.c0
     have z3 := hi10.c1
     have z4 := hi11.c0
     have z5 := hi11.c1
     have f0 := free_block hi9.cell 0
     have f1 := free_block hi9.cell 1
     have f2 := free_block hi10.cell 0
     have f3 := free_block hi10.cell 1
     have f4 := free_block hi11.cell 0
     have f5 := free_block hi11.cell 1
     have ne1 : ¬ P10 = P9 := by omega
     have ne2 : ¬ P11 = P9 := by omega
     have ne3 : ¬ P11 = P10 := by omega
     clear hN2 hi9 hi10 hi11 hq1 hr1 hd1 hb2 p0 p1 r0 r1 o10 o11
     go_wp2_with fail
     go_roundg (1400 - (j + 1)).toNat
     case measure =>
      obtain ⟨a1, a2, a3, a4, a6⟩ := HN.out
      have := HL.out
      omega
     case rel =>
      obtain ⟨a1, a2, a3, a4, a6⟩ := HN.out
      exact ⟨j + 1, by first | rfl | exact congrArg (Value.int .i64) g1, rfl, by omega, by have := HL.out; omega, HP.out⟩
 case rest =>
  obtain ⟨j, rfl, a2, a3, a4, a1⟩ := hcut
  exact ne_three g S E u v X F P4 P5 P6 P7 P9 P10 P11 j w _ _ _ _ _ _ _ _ _ _ _ _ _ _ _ _ _ _ _ _ _ _ _ _ _ _ _ _ _ _ _ _ _ _ _ _ _ _ _ _ _ _ _ _ _ _ _ _ _ _ _ _ _ _ _ _ _ _ _ _ _ _ _ _ _ _ _ _ _ _ _ _ _ _ _ _ _ _ _ _ _ _ _ _ _ _ _ _ _ _ _ _ _ _ _ _ _ _ _ _ _ _ _ _ _ _ _ _ _ _ _ _ _ _ _ _ _ _ _ _ _ _ _ _ _ _ _ _ _ _ _ _ _ _ _ _ _ _ _ _ _ _ _ _ _ _ _ _ _ _ _ _ _ _ _ _ _ _ (by assumption) HQ.out HS.out.1 HS.out.2.1 HS.out.2.2.1 a2 a3 a4 a1
theorem shn_few {c L : Nat} {E : Int} (h : Fl.NeOK c L E) {k : Int} (hk : -1074 ≤ k) : Fl.shN (Fl.rnN c E) k < 10 ^ 2000 := by
 obtain ⟨T, hT⟩ : ∃ T, T = 2000 := ⟨_, rfl⟩
 rw [← hT]
 exact h.shn (by omega) hk
theorem ten_few {Z : Nat} (h : Z ≤ 730) : 10 ^ Z < 10 ^ 2000 := by
 obtain ⟨T, hT⟩ : ∃ T, T = 2000 := ⟨_, rfl⟩
 rw [← hT]
 exact Nat.pow_lt_pow_right (by decide) (by omega)
theorem two_shd {c L : Nat} {E : Int} (h : Fl.NeOK c L E) {k : Int} (hk : k ≤ 1400) : 2 * Fl.shD (Fl.rnD E) k < 10 ^ 2000 := by
 obtain ⟨T, hT⟩ : ∃ T, T = 1999 := ⟨_, rfl⟩
 have h1 := h.shd (T := T) (k := k) (by omega) hk
 have e : (10 : Nat) ^ (T + 1) = 10 ^ T * 10 := Nat.pow_succ ..
 rw [show 2000 = T + 1 by omega, e]
 omega
theorem ne_one (g : Bool) (S : ByteArray) (E : Int) (X F : Nat) (c L : Nat) (w w0 : World) (u0 u4 u5 u6 u7 u8 u9 u10 u11 u12 u13 u14 u15 u16 u17 u18 u19 u20 u21 u22 u23 u24 u25 u26 u27 u28 u29 u30 u31 u32 u33 u34 u35 u36 u37 u38 u39 u40 u41 u42 u43 u44 u45 u46 u47 u48 u49 u50 u51 u52 u53 u54 u55 u56 u57 u58 u59 u60 u61 u62 u63 u64 u65 u66 u67 u68 u69 u70 u71 u72 u73 u74 u75 u76 u77 u78 u79 u80 u81 u82 u83 u84 u85 u86 u87 u88 u89 u90 u91 u92 u93 u94 u95 u96 u97 u98 u99 u100 u101 u102 u103 u104 u105 u106 u107 u108 u109 u110 u111 u112 u113 u114 u115 u116 u117 u118 u119 u120 u121 u122 u123 u124 u125 u126 u127 u128 u129 u130 u131 u132 u133 u134 u135 u136 u137 u138 u139 u140 u141 u142 u143 u144 u145 u146 u147 u148 u149 u150 u151 u152 u153 u154 u155 u156 u157 u158 u159 u160 u161 u162 u163 u164 u165 u166 u167 : Value) {Q : Ending → World → Prop} {K0 : Act → World → Prop}
 (hK : ∀ a w', Code.wp Tryz.prog suf42a (bodyPost Tryz.prog Tryz.f42 Q) a w' → K0 a w')
 (hQ : ∀ (K : Nat) (k : Int) x w', k = (K : Int) - 1074 → Fl.shN (Fl.rnN c E) k / Fl.shD (Fl.rnD E) k < 9007199254740992 → (K = 0 ∨ 4503599627370496 ≤ Fl.shN (Fl.rnN c E) k / Fl.shD (Fl.rnD E) k) → NeEnd g (Fl.shN (Fl.rnN c E) k) (Fl.shD (Fl.rnD E) k) K X w x w' → Q x w')
 (hS : S = ⟨(decDigits c).toArray⟩) (hL : (decDigits c).length = L) (hl : (decDigits c).length ≤ 400) (hOK : Fl.NeOK c L E) (h : NeA w X F g S E w0) :
 K0 ⟨#[u0, .pointer (some ⟨X, 0, none⟩), .pointer (some ⟨F, 0, none⟩), .bool false, u4, u5, u6, u7, u8, u9, u10, u11, u12, u13, u14, u15, u16, u17, u18, u19, u20, u21, u22, u23, u24, u25, u26, u27, u28, u29, u30, u31, u32, u33, u34, u35, u36, u37, u38, u39, u40, u41, u42, u43, u44, u45, u46, u47, u48, u49, u50, u51, u52, u53, u54, u55, u56, u57, u58, u59, u60, u61, u62, u63, u64, u65, u66, u67, u68, u69, u70, u71, u72, u73, u74, u75, u76, u77, u78, u79, u80, u81, u82, u83, u84, u85, u86, u87, u88, u89, u90, u91, u92, u93, u94, u95, u96, u97, u98, u99, u100, u101, u102, u103, u104, u105, u106, u107, u108, u109, u110, u111, u112, u113, u114, u115, u116, u117, u118, u119, u120, u121, u122, u123, u124, u125, u126, u127, u128, u129, u130, u131, u132, u133, u134, u135, u136, u137, u138, u139, u140, u141, u142, u143, u144, u145, u146, u147, u148, u149, u150, u151, u152, u153, u154, u155, u156, u157, u158, u159, u160, u161, u162, u163, u164, u165, u166, u167], []⟩ w0 := by
 refine hK _ _ ?_
 conv => arg 4; zeta
 conv => arg 2; whnf
 have HQ := Lib.hid hQ
 have hN1 := hOK.num
 have hD1 := hOK.den
 have hDp := Fl.rnD_pos E
 have hSH : ∀ k : Int, -1074 ≤ k → k ≤ 1400 → Fl.shN (Fl.rnN c E) k < 10 ^ 2000 ∧ 2 * Fl.shD (Fl.rnD E) k < 10 ^ 2000 := fun k h1 h2 => ⟨shn_few hOK h1, two_shd hOK h2⟩
 have HS := Lib.hid (And.intro hN1.1 (And.intro hDp (And.intro hSH (fun (k : Int) hq => hOK.up (k := k) hq))))
 have hSC := fun (j : Int) (h1 : -1074 ≤ j) (h2 : j ≤ 1400) A n cc B m d W hr hr2 => shifted_any A B n m cc d (Fl.rnN c E) (Fl.rnD E) j (by omega) h2 hN1.1 hDp (hSH j h1 h2).1 (by have := (hSH j h1 h2).2; omega) W hr hr2
 have SC := Lib.hid hSC
 have OF := Lib.hid (fun W => of40_ri c (by have := hOK.c0; omega) hl W)
 have O1 := Lib.hid (fun W => of64_any 1 W (by decide))
 have hlo := hOK.lo
 have hhi := hOK.hi
 have hL4 := hOK.l4
 obtain ⟨Z, hZ⟩ : ∃ Z, Z = E.natAbs := ⟨_, rfl⟩
 have hZb : Z ≤ 730 := by omega
 have PT := Lib.hid (fun W => power_any 10 Z W (by decide) (by decide) (by omega) (ten_few hZb))
 have P53 := Lib.hid (fun W => power_any 2 53 W (by decide) (by decide) (by decide) (pow2_few (by decide)))
 have P52 := Lib.hid (fun W => power_any 2 52 W (by decide) (by decide) (by decide) (pow2_few (by decide)))
 have HP := Lib.hid (show (0 < E → E = (Z : Int) ∧ c * 10 ^ Z = Fl.rnN c E ∧ Fl.rnD E = 1) ∧ (¬ 0 < E → -E = (Z : Int) ∧ Fl.rnN c E = c ∧ 10 ^ Z = Fl.rnD E) from by
  unfold Fl.rnN Fl.rnD
  constructor
  · intro h0
    rw [if_pos h0, if_pos h0, show E.toNat = Z by omega]
    exact ⟨by omega, rfl, rfl⟩
  · intro h0
    rw [if_neg h0, if_neg h0, show (-E).toNat = Z by omega]
    exact ⟨by omega, rfl, rfl⟩)
 have hlc : (Fl.digL c).length ≤ 400 := by rw [← Fl.dec_length (by have := hOK.c0; omega)]; exact hl
 have hlp : (Fl.digL (10 ^ Z)).length ≤ 2000 := few (Nat.le_refl _) (ten_few hZb)
 have hLS : (S.size : Int) = (L : Int) := by rw [hS, str_size, hL]
 have HB := Lib.hid (And.intro h (And.intro hlc hlp))
 have x0 := at_block h.bd 0 _ rfl
 have x1 := at_block h.bd 1 _ rfl
 have x2 := at_block h.bd 2 _ rfl
 rw [← hS] at OF
 clear hK hQ hOK hN1 hD1 hDp hSH hSC hZ h hl hlc hlp hS hL
 go_wp2_with fail
 refine (OF.out _).mono ?_
 rintro x w1 ⟨⟨A1, m1, c1, hmc1, hm1, hr1, rfl⟩, hb1⟩
 go_wp2_with fail
 refine (O1.out _).mono ?_
 rintro x w2 ⟨v2, rfl, ho2, hb2⟩
 obtain ⟨A2, c2, rfl, hc2, hr2⟩ := own_slice ho2
 go_upto_region 8 with fail
 obtain ⟨w3, hw3, i4, i5, hb3⟩ := two_ib (c := c1) (d := c2) (hr1.on hb2) hr2
 have hA2 := (HB.out.1.on hb1).on hb2
 have hs2 := lt_of_block hA2.bf
 have hB3 : NeB w X F w2.heap.size (w2.heap.size + 1) g S E c 1 w3 := ⟨hA2.on hb3, i4, i5, by omega, by omega⟩
 rw [hw3]
 obtain ⟨P4, hP4⟩ : ∃ P, w2.heap.size = P := ⟨_, rfl⟩
 rw [hP4] at hB3 ⊢
 obtain ⟨P5, hP5⟩ : ∃ P, P4 + 1 = P := ⟨_, rfl⟩
 rw [hP5] at hB3 ⊢
 have HB3 := Lib.hid hB3
 clear hr1 hb1 ho2 hb2 hr2 hw3 i4 i5 hb3 hA2 hs2 hB3 hP4 hP5 x0 x1 x2 hm1 hmc1 hc2
 have x1 := at_block HB3.out.a.bd 1 _ rfl
 have x2 := at_block HB3.out.a.bd 2 _ rfl
 go_upto_if 46 with fail
 go_cut [] (fun wx => NeB w X F P4 P5 g S E (Fl.rnN c E) (Fl.rnD E) wx)
 case first =>
  by_cases h0 : 0 < E
  · obtain ⟨e1, e2, e3⟩ := HP.out.1 h0
    have d1 : decide ((0 : Int) < E) = true := decide_eq_true h0
    obtain ⟨A4, n4, c4, hi4⟩ := HB3.out.i4
    have H4 := Lib.hid hi4
    have p0 := hi4.c0
    have p1 := hi4.c1
    have hl4 : n4 ≤ 2000 := by rw [hi4.len]; have := HB.out.2.1; omega
    rw [d1]
    subst e1
    have HE1 := Lib.hid (And.intro e2 e3)
    clear h0 e2 e3 hi4
    go_upto_region 9 with fail
    go_region_with (first
     | (go_at_call 53; refine (PT.out _).mono ?_; rintro y w5 ⟨⟨A5, m5, c5, hc5, ha5, hr5, rfl⟩, hb5⟩; have hb5' : Below w3.heap.size w3 w5 := (by first | exact hb5 | exact below_drew1 hb5); have B5 := HB3.out.on hb5'; have i5 := H4.out.on hb5'; have q0 := i5.c0; have q1 := i5.c1; have y2 := at_block B5.a.bd 2 _ rfl; have hl5 : m5 ≤ 2000 := Nat.le_trans (Nat.le_of_eq (hr5.1.symm.trans (u8s_len _))) HB.out.2.2)
     | (go_at_call 52; refine (mul_ri A4 A5 n4 m5 c4 c5 c (10 ^ Z) _ (by first | exact i5.rd | exact i5.rd.drew) (by first | exact hr5 | exact hr5.drew) hl4 hl5).mono ?_; rintro y w6 ⟨⟨A6, m6, c6, hc6, ha6, hr6, rfl⟩, hb6⟩; have hb6' : Below w5.heap.size w5 w6 := (by first | exact hb6 | exact below_drew1 hb6); have B6 := B5.on hb6'; have i6 := i5.on hb6'; have r0 := i6.c0; have r1 := i6.c1; have s0 := free_block i6.cell 0; have s1 := free_block i6.cell 1))
    all_goals
     go_wp2_with fail
     go_meet
     obtain ⟨e2, e3⟩ := HE1.out
     have B7 := B6.set4 (c := c6) hr6
     rw [← e2, e3]
     first | exact B7 | exact B7.drew
  · obtain ⟨e1, e2, e3⟩ := HP.out.2 (by omega)
    have d1 : decide ((0 : Int) < E) = false := decide_eq_false h0
    have d2 : IntKind.i64.wrap (-E) = (Z : Int) := by rw [e1]; exact IntWalk.i64_in _ (by omega)
    rw [d1]
    have HE2 := Lib.hid (And.intro e2 e3)
    clear h0 e1 e2 e3
    go_wp2_with fail
    refine (PT.out _).mono ?_
    rintro y w5 ⟨⟨A5, m5, c5, hc5, ha5, hr5, rfl⟩, hb5⟩
    have B5 := HB3.out.on hb5
    obtain ⟨A6, n6, c6, hi6⟩ := B5.i5
    have r0 := hi6.c0
    have r1 := hi6.c1
    have s0 := free_block hi6.cell 0
    have s1 := free_block hi6.cell 1
    have HB7 := Lib.hid (B5.set5 (c := c5) hr5)
    clear B5 hi6 hr5 hb5 ha5 hc5
    go_wp2_with fail
    go_meet
    obtain ⟨e2, e3⟩ := HE2.out
    have B7 := HB7.out
    rw [e3, ← e2] at B7
    exact B7
 case rest =>
  have HB4 := Lib.hid hcut
  clear hcut x1 x2 HB3 HP PT OF O1 HB
  go_wp2_with fail
  refine (P53.out _).mono ?_
  rintro y w5 ⟨⟨A5, m5, c5, hc5, ha5, hr5, rfl⟩, hb5⟩
  go_wp2_with fail
  refine (P52.out _).mono ?_
  rintro y w6 ⟨⟨A6, m6, c6, hc6, ha6, hr6, rfl⟩, hb6⟩
  go_upto_region 12 with fail
  obtain ⟨w7, hw7, i6, i7, hb7⟩ := two_ib (c := c5) (d := c6) (hr5.on hb6) hr6
  have hB6 := (HB4.out.on hb5).on hb6
  have hs6 := hB6.i5.lt
  have hB7 := hB6.on hb7
  rw [hw7]
  obtain ⟨P6, hP6⟩ : ∃ P, w6.heap.size = P := ⟨_, rfl⟩
  rw [hP6] at i6 i7 hs6 ⊢
  obtain ⟨P7, hP7⟩ : ∃ P, P6 + 1 = P := ⟨_, rfl⟩
  rw [hP7] at i7 ⊢
  have e53 : (2 : Nat) ^ 53 = 9007199254740992 := by decide
  have e52 : (2 : Nat) ^ 52 = 4503599627370496 := by decide
  rw [e53] at i6
  rw [e52] at i7
  have H7 := Lib.hid (And.intro hB7 (And.intro i6 (And.intro i7 (And.intro hs6 (show P6 < P7 by omega)))))
  clear hb5 hb6 hr5 hr6 hw7 i6 i7 hb7 hB6 hs6 hB7 hP6 hP7 ha5 ha6 hc5 hc6 e53 e52
  have x1 := at_block H7.out.1.a.bd 1 _ rfl
  have x2 := at_block H7.out.1.a.bd 2 _ rfl
  obtain ⟨T, hT⟩ : ∃ T, E + (L : Int) = T := ⟨_, rfl⟩
  obtain ⟨T2, hT2⟩ : ∃ T2, (T * 3322).tdiv 1000 = T2 := ⟨_, rfl⟩
  have hT2b : -1200 ≤ T2 ∧ T2 ≤ 1200 := by
   rw [← hT2]
   rcases Int.le_total 0 T with h | h
   · rw [Int.tdiv_eq_ediv_of_nonneg (by omega)]
     omega
   · have e : T * 3322 = -((-T) * 3322) := by omega
     rw [e, Int.neg_tdiv, Int.tdiv_eq_ediv_of_nonneg (by omega)]
     omega
  have g1 : IntKind.i64.wrap (E + (S.size : Int)) = T := by rw [hLS, ← hT]; exact IntWalk.i64_in _ (by omega)
  have g2 : IntKind.i64.wrap (T * 3322) = T * 3322 := IntWalk.i64_in _ (by omega)
  have g3 : IntKind.i64.wrap ((T * 3322).tdiv 1000) = T2 := by rw [hT2]; exact IntWalk.i64_in _ (by omega)
  have g4 : IntKind.i64.wrap (T2 - 56) = T2 - 56 := IntWalk.i64_in _ (by omega)
  go_cut [8] (fun t8 wx => ∃ k : Int, t8 = .int .i64 k ∧ -1074 ≤ k ∧ k ≤ 1400 ∧ wx = w7)
  case first =>
   go_wp2_with fail
   go_meet
   exact ⟨max (T2 - 56) (-1074), rfl, by omega, by omega, rfl⟩
  case rest =>
   obtain ⟨k, rfl, hk1, hk2, hww⟩ := hcut
   obtain rfl := hww.symm
   obtain ⟨A4, n4, c4, hi4⟩ := H7.out.1.i4
   obtain ⟨A5, n5, c5, hi5⟩ := H7.out.1.i5
   have p0 := hi4.c0
   have p1 := hi4.c1
   have r0 := hi5.c0
   have r1 := hi5.c1
   have SJ := Lib.hid (SC.out k hk1 hk2 A4 n4 c4 A5 n5 c5 w7 hi4.rd hi5.rd)
   have HK := Lib.hid (And.intro hk1 hk2)
   clear hi4 hi5 x1 x2 g1 g2 g3 g4 hT hT2 hT2b hk1 hk2 hLS
   go_upto_region 13 with fail
   go_cut [9, 10, 11] (fun t9 t10 t11 wx => ∃ P9 P10 P11, t9 = .pointer (some ⟨P9, 0, none⟩) ∧ t10 = .pointer (some ⟨P10, 0, none⟩) ∧ t11 = .pointer (some ⟨P11, 0, none⟩) ∧ NeC w X F P4 P5 P6 P7 P9 P10 P11 g S E (Fl.rnN c E) (Fl.rnD E) k wx)
   case first =>
    go_wp2_with fail
    refine (SJ.out).mono ?_
    rintro x w8 ⟨⟨Q1, mq, cq, R1, mr, cr, D1, md, cd, hq1, hr1, hd1, rfl⟩, hb8⟩
    go_wp2_with fail
    go_meet
    obtain ⟨w9, hw9, i9, i10, i11, hb9⟩ := three_ib (c := cq) (d := cr) (e := cd) hq1 hr1 hd1
    refine ⟨w8.heap.size, w8.heap.size + 1, w8.heap.size + 1 + 1, rfl, rfl, rfl, ?_⟩
    rw [hw9]
    obtain ⟨hB, i6, i7, hs, h67⟩ := H7.out
    have hB := (hB.on hb8).on hb9
    have hs8 := (i7.on hb8).lt
    have := hB.o4
    have := hB.o5
    exact ⟨hB.a, hB.i4, hB.i5, (i6.on hb8).on hb9, (i7.on hb8).on hb9, i9, i10, i11, hB.o4, hB.o5, hs, h67, hs8, by omega, by omega⟩
   case rest =>
    obtain ⟨P9, P10, P11, rfl, rfl, rfl, hC⟩ := hcut
    exact ne_two g S E (Fl.rnN c E) (Fl.rnD E) X F P4 P5 P6 P7 P9 P10 P11 k w _ _ _ _ _ _ _ _ _ _ _ _ _ _ _ _ _ _ _ _ _ _ _ _ _ _ _ _ _ _ _ _ _ _ _ _ _ _ _ _ _ _ _ _ _ _ _ _ _ _ _ _ _ _ _ _ _ _ _ _ _ _ _ _ _ _ _ _ _ _ _ _ _ _ _ _ _ _ _ _ _ _ _ _ _ _ _ _ _ _ _ _ _ _ _ _ _ _ _ _ _ _ _ _ _ _ _ _ _ _ _ _ _ _ _ _ _ _ _ _ _ _ _ _ _ _ _ _ _ _ _ _ _ _ _ _ _ _ _ _ _ _ _ _ _ _ _ _ _ _ _ _ _ _ _ _ _ _ (by assumption) HQ.out HS.out.1 HS.out.2.1 HS.out.2.2.1 HS.out.2.2.2 HK.out.1 HK.out.2 hC
end Go.Proofs.YtjapgpmoojfhnaaGreatDoor
