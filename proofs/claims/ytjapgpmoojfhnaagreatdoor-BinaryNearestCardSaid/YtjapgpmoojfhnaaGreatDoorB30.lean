/- Shift of the library's decimal, to the right, by at most 60. leftShift of the library's decimal: its second loop and its end. leftShift of the library's decimal: behind its table. leftShift of the library's decimal; Shift to the left. -/
import Derived.Test.YtjapgpmoojfhnaaGreatDoorB07
import Derived.Test.YtjapgpmoojfhnaaGreatDoorB29
set_option maxHeartbeats 16000000
set_option maxRecDepth 100000
set_option linter.unusedSimpArgs false
set_option linter.unusedVariables false
namespace Go.Proofs.YtjapgpmoojfhnaaGreatDoor
open Go.RowKit Go.Lib
theorem shift_right (X : Nat) (D : List Nat) (nd N n : Nat) (dp : Int) (ng tr : Bool) (hnum : Fl.IsNum D nd N) (hnd : 0 < nd) (hn : nd ≤ 800) (hk1 : 1 ≤ n) (hk2 : n ≤ 60) (hdp : -10000 ≤ dp) (hdp2 : dp ≤ 10000) (h0 : N % 10 ≠ 0) (w : World) (hX : DcAt w X D nd dp ng tr) :
 Calls Tryz.prog 214 #[.pointer (some ⟨X, 0, none⟩), .int .i64 (-(n : Int))] w (RsEnd X D N nd n dp ng tr w) := by
 have x0 := hX.c0
 have HX := Lib.hid hX
 have HN := Lib.hid hnum
 have H0 := Lib.hid h0
 have e0 : ((nd : Int) == 0) = false := by rw [beq_eq_false_iff_ne]; omega
 have e0' : (nd == 0) = false := by rw [beq_eq_false_iff_ne]; omega
 have d1 : decide ((0 : Int) < -(n : Int)) = false := decide_eq_false (by omega)
 have d2 : decide (-(n : Int) < 0) = true := decide_eq_true (by omega)
 have d3 : decide (-(n : Int) < -60) = false := decide_eq_false (by omega)
 have d3' : decide (60 < (n : Int)) = false := decide_eq_false (by omega)
 have w1 : IntKind.i64.wrap (-(-(n : Int))) = (n : Int) := by have := IntWalk.i64_in (-(-(n : Int))) (by omega); rw [this]; omega
 have w1' : IntKind.i64.wrap ((n : Int)) = (n : Int) := by have := IntWalk.i64_in ((n : Int)) (by omega); rw [this]
 have w2 : IntKind.u64.wrap ((n : Int)) = (n : Int) := by rw [IntKind.wrap_u64]; omega
 clear hX hnum h0
 go_enter Tryz.func214, Tryz.ntmps214
 go_wp2_with fail
 go_loopg [1] 0 (fun f t1 wx => t1 = .int .i64 (-(n : Int)) ∧ wx = w)
 case atStart => exact ⟨rfl, rfl⟩
 case round =>
  obtain ⟨rfl, rfl⟩ := hrel
  go_wp2_with fail
  refine (rshift_any X D nd N n dp ng tr HN.out hn hk1 hk2 hdp hdp2 H0.out _ HX.out).mono ?_
  rintro e w1 h1
  obtain ⟨rfl, h2⟩ := h1
  have HE := Lib.hid h2
  clear h2
  go_wp2_with fail
  exact ⟨rfl, .tuple #[], results_none rfl _ _ _, rfl, HE.out⟩
def hdB : Code → Nat
 | .seq a _ => hdB a
 | .block k _ => k
 | _ => 100000
def fromB (n : Nat) : Code → Code
 | .seq a b => if hdB a == n then .seq a b else fromB n b
 | c => c
noncomputable def suf219b : Code := fromB 2 (Tryz.f219.body.getD .skip)
def LsEnd (X : Nat) (D : List Nat) (N nd k m : Nat) (dp : Int) (ng tr : Bool) (w : World) (x : Ending) (w' : World) : Prop :=
 x = .returned (.tuple #[]) ∧ ∃ D1 t1, Fl.LSt D N k nd m tr D1 m t1 ∧ DcAt w' X D1 (trimN D1 (min m 800)) (dpT (trimN D1 (min m 800)) (dp + ((m : Int) - nd))) ng t1 ∧ Below X w w'
theorem ls_two (X : Nat) (D D1 : List Nat) (nd N k m : Nat) (dp : Int) (ng tr t1 : Bool) (w wb : World) (u1 u2 u3 u5 u8 u9 u10 u11 u12 u13 u14 u15 u16 u17 u18 u19 u20 u21 u22 u23 u24 u25 u26 u27 u28 u29 u30 u31 u32 u33 u34 u35 u36 u37 u38 u39 u40 u41 u42 u43 u44 u45 u46 u47 u48 u49 u50 u51 u52 u53 u54 u55 u56 u57 u58 u59 u60 u61 u62 u63 u64 u65 u66 u67 u68 u69 u70 u71 u72 u73 u74 u75 u76 u77 u78 u79 u80 u81 u82 u83 u84 u85 u86 u87 u88 u89 u90 u91 u92 u93 u94 u95 u96 u97 u98 u99 u100 u101 u102 u103 u104 u105 u106 u107 u108 u109 u110 u111 u112 u113 u114 u115 u116 u117 u118 u119 u120 u121 u122 u123 u124 u125 u126 u127 u128 u129 u130 u131 u132 u133 u134 u135 u136 : Value) {K : Act → World → Prop}
 (hK : ∀ a w', Code.wp Tryz.prog suf219b (bodyPost Tryz.prog Tryz.f219 fun x w' => LsEnd X D N nd k m dp ng tr w x w') a w' → K a w')
 (hnum : Fl.IsNum D nd N) (hn : nd ≤ 800) (hk2 : k ≤ 60) (hdp : -10000 ≤ dp) (hdp2 : dp ≤ 10000) (hm : nd ≤ m) (hm2 : m ≤ nd + 19) (hm3 : N * 2 ^ k < 10 ^ m) (hm4 : 10 ^ m ≤ 10 * (N * 2 ^ k))
 (hst0 : Fl.LSt D N k nd m tr D1 nd t1) (hX : DcAt wb X D1 nd dp ng t1) (hb0 : Below X w wb) :
 K ⟨#[.pointer (some ⟨X, 0, none⟩), u1, u2, u3, .int .i64 ((m : Int) - (nd : Int)), u5, .int .i64 ((m : Int) - (nd : Int)), .int .u64 ((Fl.carN N k nd : Nat) : Int), u8, u9, u10, u11, u12, u13, u14, u15, u16, u17, u18, u19, u20, u21, u22, u23, u24, u25, u26, u27, u28, u29, u30, u31, u32, u33, u34, u35, u36, u37, u38, u39, u40, u41, u42, u43, u44, u45, u46, u47, u48, u49, u50, u51, u52, u53, u54, u55, u56, u57, u58, u59, u60, u61, u62, u63, u64, u65, u66, u67, u68, u69, u70, u71, u72, u73, u74, u75, u76, u77, u78, u79, u80, u81, u82, u83, u84, u85, u86, u87, u88, u89, u90, u91, u92, u93, u94, u95, u96, u97, u98, u99, u100, u101, u102, u103, u104, u105, u106, u107, u108, u109, u110, u111, u112, u113, u114, u115, u116, u117, u118, u119, u120, u121, u122, u123, u124, u125, u126, u127, u128, u129, u130, u131, u132, u133, u134, u135, u136], []⟩ wb := by
 refine hK _ _ ?_
 conv => arg 4; zeta
 conv => arg 2; whnf
 have HX := Lib.hid (And.intro hst0 (And.intro hX hb0))
 have HN := Lib.hid hnum
 have HH := Lib.hid (And.intro hm3 hm4)
 have hQ60 : 2 ^ k ≤ 1152921504606846976 := Nat.le_trans (Nat.pow_le_pow_right (by decide) hk2) (by decide : 2 ^ 60 ≤ 1152921504606846976)
 have HQ := Lib.hid hQ60
 clear hst0 hX hb0 hnum hm3 hm4 hK hQ60
 go_upto_region 18 with fail
 go_loopg [6, 7] (m - nd) (fun f t6 t7 wx => ∃ (y : Nat) (D2 : List Nat) (t2 : Bool), t6 = .int .i64 ((m : Int) - (y : Int)) ∧ t7 = .int .u64 ((Fl.carN N k y : Nat) : Int) ∧ Fl.LSt D N k nd m tr D2 y t2 ∧ DcAt wx X D2 nd dp ng t2 ∧ Below X w wx ∧ nd ≤ y ∧ y + f = m)
 case atStart => exact ⟨nd, D1, t1, rfl, rfl, HX.out.1, HX.out.2.1, HX.out.2.2, Nat.le_refl _, by omega⟩
 case round =>
  obtain ⟨y, D2, t2, rfl, rfl, hst, hW, hbx, hle, hyf⟩ := hrel
  cases gk with
  | zero =>
    obtain rfl : y = m := by omega
    have hC0 : Fl.carN N k y = 0 := by
     rw [Fl.car_all HN.out.1 (by omega)]
     exact Nat.div_eq_of_lt HH.out.1
    rw [hC0]
    have x0 := hW.c0
    have x1 := hW.c1
    have z0 := hW.free 800
    have z1 := hW.free 801
    have v1 : IntKind.i64.wrap ((nd : Int) + ((y : Int) - (nd : Int))) = (y : Int) := by have := IntWalk.i64_in ((nd : Int) + ((y : Int) - (nd : Int))) (by omega); rw [this]; omega
    have v2 : IntKind.i64.wrap (dp + ((y : Int) - (nd : Int))) = dp + ((y : Int) - (nd : Int)) := IntWalk.i64_in (dp + ((y : Int) - (nd : Int))) (by omega)
    by_cases h8 : 800 ≤ y
    · have d8 : decide ((800 : Int) ≤ (y : Int)) = true := decide_eq_true (by omega)
      have d8' : decide (800 ≤ y) = true := decide_eq_true h8
      have HE := Lib.hid (And.intro hst (And.intro hW (And.intro hbx h8)))
      clear hst hW hbx h8 hle hyf hC0
      go_wp2_with fail
      obtain ⟨a1, a2, a3, a4⟩ := HE.out
      refine (dctrim_any X D2 800 (dp + ((y : Int) - (nd : Int))) ng t2 (by omega) _ (((a2.set0 _).set0 _).set1 _)).mono ?_
      rintro e w1 ⟨rfl, h1, h2⟩
      have HR := Lib.hid (show LsEnd X D N nd k y dp ng tr w (.returned (.tuple #[])) w1 from ⟨rfl, D2, t2, a1, by rw [show min y 800 = 800 by omega]; exact h1, (((a3.setCell (show X ≤ (⟨X, 800, none⟩ : Addr).block from Nat.le_refl X) _).setCell (show X ≤ (⟨X, 800, none⟩ : Addr).block from Nat.le_refl X) _).setCell (show X ≤ (⟨X, 801, none⟩ : Addr).block from Nat.le_refl X) _).trans h2⟩)
      clear a1 a2 a3 a4 h1 h2
      go_wp2_with fail
      exact ⟨rfl, .tuple #[], results_none rfl _ _ _, rfl, HR.out.2⟩
    · have d8 : decide ((800 : Int) ≤ (y : Int)) = false := decide_eq_false (by omega)
      have d8' : decide (800 ≤ y) = false := decide_eq_false h8
      have HE := Lib.hid (And.intro hst (And.intro hW (And.intro hbx h8)))
      clear hst hW hbx h8 hle hyf hC0
      go_wp2_with fail
      obtain ⟨a1, a2, a3, a4⟩ := HE.out
      refine (dctrim_any X D2 y (dp + ((y : Int) - (nd : Int))) ng t2 (by omega) _ ((a2.set0 _).set1 _)).mono ?_
      rintro e w1 ⟨rfl, h1, h2⟩
      have HR := Lib.hid (show LsEnd X D N nd k y dp ng tr w (.returned (.tuple #[])) w1 from ⟨rfl, D2, t2, a1, by rw [show min y 800 = y by omega]; exact h1, ((a3.setCell (show X ≤ (⟨X, 800, none⟩ : Addr).block from Nat.le_refl X) _).setCell (show X ≤ (⟨X, 801, none⟩ : Addr).block from Nat.le_refl X) _).trans h2⟩)
      clear a1 a2 a3 a4 h1 h2
      go_wp2_with fail
      exact ⟨rfl, .tuple #[], results_none rfl _ _ _, rfl, HR.out.2⟩
  | succ f =>
    have hi : y < m := by omega
    obtain ⟨ω, hω, hωn⟩ : ∃ ω : Nat, (m : Int) - (y : Int) = ((ω + 1 : Nat) : Int) ∧ ω = m - 1 - y := ⟨m - 1 - y, by omega, rfl⟩
    rw [hω]
    have HZ := Lib.hid (show (ω : Int) = (m : Int) - ((y + 1 : Nat) : Int) ∧ y + 1 + f = m ∧ nd ≤ y + 1 ∧ y < m from ⟨by omega, by omega, by omega, hi⟩)
    have DT : ω < 800 → decide ((ω : Int) < 800) = true := fun h => decide_eq_true (by omega)
    have DF : ¬ ω < 800 → decide ((ω : Int) < 800) = false := fun h => decide_eq_false (by omega)
    have j0 : (0 : Int) ≤ (ω : Int) := by omega
    have J1 : ω < 800 → (ω : Int) < 800 := fun h => by omega
    have HL : ω < 800 → ω < D2.length := fun h => by rw [hW.len]; exact h
    have HS : ¬ ω < 800 → ¬ m - 1 - y < 800 := fun h => by rw [← hωn]; exact h
    obtain ⟨k1, k2⟩ := Fl.car_step N k y
    have hNy : N / 10 ^ y = 0 := Nat.div_eq_of_lt (Nat.lt_of_lt_of_le HN.out.1 (Nat.pow_le_pow_right (by decide) hle))
    rw [hNy, Nat.zero_mod, Nat.zero_mul, Nat.add_zero] at k1 k2
    have hC := Fl.car_lt N k y
    have hpos : 0 < Fl.carN N k y := by
     rw [Fl.car_all HN.out.1 hle]
     refine Nat.div_pos ?_ (Nat.pow_pos (by decide))
     have h1 := HH.out.2
     have h2 : 10 * 10 ^ y ≤ 10 ^ m := by
      rw [Nat.mul_comm, ← Nat.pow_succ]
      exact Nat.pow_le_pow_right (by decide) hi
     omega
    obtain ⟨S, hCC⟩ : ∃ S, Fl.carN N k y = S := ⟨_, rfl⟩
    rw [hCC] at k1 k2 hC hpos ⊢
    have hQ := HQ.out
    obtain ⟨q, hq⟩ : ∃ q, S / 10 = q := ⟨_, rfl⟩
    obtain ⟨g, hg⟩ : ∃ g, S % 10 = g := ⟨_, rfl⟩
    rw [hq] at k1
    rw [hg] at k2
    have hg10 : g < 10 := by omega
    have s0 : decide ((0 : Int) < (S : Int)) = true := decide_eq_true (by omega)
    have s0' : decide (0 < S) = true := decide_eq_true hpos
    have s5' : IntKind.u64.wrap ((S : Int) / 10) = (q : Int) := by rw [IntKind.wrap_u64]; omega
    have s5 : IntKind.u64.wrap ((S : Int).tdiv 10) = (q : Int) := by rw [Int.tdiv_eq_ediv_of_nonneg (by omega)]; exact s5'
    have s6 : IntKind.u64.wrap (10 * (q : Int)) = 10 * (q : Int) := by rw [IntKind.wrap_u64]; omega
    have s7 : IntKind.u64.wrap ((S : Int) - 10 * (q : Int)) = (g : Int) := by rw [IntKind.wrap_u64]; omega
    have s8 : IntKind.i64.wrap (((ω + 1 : Nat) : Int) - 1) = (ω : Int) := by have := IntWalk.i64_in (((ω + 1 : Nat) : Int) - 1) (by omega); rw [this]; omega
    have s8' : wrap64 (ω : Int) = (ω : Int) := by unfold wrap64; omega
    have s10 : IntKind.u64.wrap ((g : Int) + 48) = ((g + 48 : Nat) : Int) := by rw [IntKind.wrap_u64]; omega
    have s11 : IntKind.u8.wrap (((g + 48 : Nat) : Int)) = ((48 + g : Nat) : Int) := by rw [IntKind.wrap_u8]; omega
    by_cases hw8 : ω < 800
    · obtain ⟨ob, hob⟩ : ∃ ob, D2[ω]? = some ob := ⟨_, List.getElem?_eq_getElem (HL hw8)⟩
      have xo := hW.byte hob
      have zb := hW.free ω
      have d8 : decide ((ω : Int) < 800) = true := DT hw8
      have d8' : decide (ω < 800) = true := decide_eq_true hw8
      have HJ := Lib.hid (J1 hw8)
      have HF := Lib.hid (And.intro hst (And.intro hW (And.intro hbx (And.intro hyf (And.intro k1 (And.intro k2 (And.intro hωn (And.intro hw8 hle))))))))
      clear hst hW hbx hyf k1 k2 hωn hw8 hob hCC hq hg hC hQ hω hi hNy hpos hle DT DF J1 HL HS
      go_upto_region 23 with fail
      have j1 := HJ.out
      go_wp2_with fail
      go_roundg f
      case measure => exact Nat.lt_succ_self _
      case rel =>
       obtain ⟨q1, q2, q3, q4, q5, q6, q8, q9, q10⟩ := HF.out
       refine ⟨y + 1, D2.set ω (48 + g), t2, by first | exact congrArg (Value.int .i64) (s8'.trans HZ.out.1) | exact congrArg (Value.int .i64) HZ.out.1, by rw [← q5], ?_, ?_, ?_, HZ.out.2.2.1, HZ.out.2.1⟩
       · have := q1.keep HZ.out.2.2.2 hm q2.len (by rw [← q8]; exact q9)
         rw [← q6, ← q8] at this
         exact this
       · first | exact q2.setB q9 _ | (rw [show ((g : Int) + 48) = ((48 + g : Nat) : Int) from Int.add_comm _ _]; exact q2.setB q9 _)
       · exact q3.setCell (show X ≤ (⟨X, ω, none⟩ : Addr).block from Nat.le_refl X) _
    · have d8 : decide ((ω : Int) < 800) = false := DF hw8
      have d8' : decide (ω < 800) = false := decide_eq_false hw8
      have x3 := hW.c3
      have z3 := hW.free 803
      have hsk := hst.skip hi (HS hw8)
      rw [← k2] at hsk
      by_cases hg0 : g = 0
      · subst hg0
        have HF := Lib.hid (And.intro hsk (And.intro hW (And.intro hbx (And.intro hyf (And.intro k1 (And.intro hωn hle))))))
        clear hst hW hbx hyf k1 k2 hωn hw8 hCC hq hg hC hQ hω hi hNy hpos hle hsk DT DF J1 HL HS
        go_wp2_with fail
        go_roundg f
        case measure => exact Nat.lt_succ_self _
        case rel =>
         obtain ⟨q1, q2, q3, q4, q5, q8, q7⟩ := HF.out
         exact ⟨y + 1, D2, t2, by first | exact congrArg (Value.int .i64) (s8'.trans HZ.out.1) | exact congrArg (Value.int .i64) HZ.out.1, by rw [← q5], by simpa using q1, q2, q3, HZ.out.2.2.1, HZ.out.2.1⟩
      · have e1 : ((g : Int) != 0) = true := by rw [bne_iff_ne]; exact fun h => hg0 (Int.ofNat.inj h)
        have e1' : (g != 0) = true := by rw [bne_iff_ne]; exact hg0
        rw [e1', Bool.or_true] at hsk
        have HF := Lib.hid (And.intro hsk (And.intro hW (And.intro hbx (And.intro hyf (And.intro k1 (And.intro hωn hle))))))
        clear hst hW hbx hyf k1 k2 hωn hw8 hCC hq hg hC hQ hω hi hNy hpos hle hsk hg0 DT DF J1 HL HS
        go_wp2_with fail
        go_roundg f
        case measure => exact Nat.lt_succ_self _
        case rel =>
         obtain ⟨q1, q2, q3, q4, q5, q8, q7⟩ := HF.out
         exact ⟨y + 1, D2, true, by first | exact congrArg (Value.int .i64) (s8'.trans HZ.out.1) | exact congrArg (Value.int .i64) HZ.out.1, by rw [← q5], q1, q2.set3 true, q3.setCell (show X ≤ (⟨X, 803, none⟩ : Addr).block from Nat.le_refl X) _, HZ.out.2.2.1, HZ.out.2.1⟩
noncomputable def suf219 : Code := fromC 3 (Tryz.f219.body.getD .skip)
theorem ls_tail (X : Nat) (D : List Nat) (nd N k m : Nat) (dp : Int) (ng tr : Bool) (w w0 : World) (u2 u3 u5 u6 u7 u8 u9 u10 u11 u12 u13 u14 u15 u16 u17 u18 u19 u20 u21 u22 u23 u24 u25 u26 u27 u28 u29 u30 u31 u32 u33 u34 u35 u36 u37 u38 u39 u40 u41 u42 u43 u44 u45 u46 u47 u48 u49 u50 u51 u52 u53 u54 u55 u56 u57 u58 u59 u60 u61 u62 u63 u64 u65 u66 u67 u68 u69 u70 u71 u72 u73 u74 u75 u76 u77 u78 u79 u80 u81 u82 u83 u84 u85 u86 u87 u88 u89 u90 u91 u92 u93 u94 u95 u96 u97 u98 u99 u100 u101 u102 u103 u104 u105 u106 u107 u108 u109 u110 u111 u112 u113 u114 u115 u116 u117 u118 u119 u120 u121 u122 u123 u124 u125 u126 u127 u128 u129 u130 u131 u132 u133 u134 u135 u136 : Value) {K : Act → World → Prop}
 (hK : ∀ a w', Code.wp Tryz.prog suf219 (bodyPost Tryz.prog Tryz.f219 fun x w' => LsEnd X D N nd k m dp ng tr w x w') a w' → K a w')
 (hnum : Fl.IsNum D nd N) (hn : nd ≤ 800) (hk2 : k ≤ 60) (hdp : -10000 ≤ dp) (hdp2 : dp ≤ 10000) (hm : nd ≤ m) (hm2 : m ≤ nd + 19) (hm3 : N * 2 ^ k < 10 ^ m) (hm4 : 10 ^ m ≤ 10 * (N * 2 ^ k)) (hX : DcAt w0 X D nd dp ng tr) (hb0 : Below X w w0) :
 K ⟨#[.pointer (some ⟨X, 0, none⟩), .int .u64 (k : Int), u2, u3, .int .i64 ((m : Int) - (nd : Int)), u5, u6, u7, u8, u9, u10, u11, u12, u13, u14, u15, u16, u17, u18, u19, u20, u21, u22, u23, u24, u25, u26, u27, u28, u29, u30, u31, u32, u33, u34, u35, u36, u37, u38, u39, u40, u41, u42, u43, u44, u45, u46, u47, u48, u49, u50, u51, u52, u53, u54, u55, u56, u57, u58, u59, u60, u61, u62, u63, u64, u65, u66, u67, u68, u69, u70, u71, u72, u73, u74, u75, u76, u77, u78, u79, u80, u81, u82, u83, u84, u85, u86, u87, u88, u89, u90, u91, u92, u93, u94, u95, u96, u97, u98, u99, u100, u101, u102, u103, u104, u105, u106, u107, u108, u109, u110, u111, u112, u113, u114, u115, u116, u117, u118, u119, u120, u121, u122, u123, u124, u125, u126, u127, u128, u129, u130, u131, u132, u133, u134, u135, u136], []⟩ w0 := by
 refine hK _ _ ?_
 conv => arg 4; zeta
 conv => arg 2; whnf
 have x0 := hX.c0
 have HX := Lib.hid (And.intro hX hb0)
 have HN := Lib.hid hnum
 have HH := Lib.hid (And.intro hm3 hm4)
 have hQ60 : 2 ^ k ≤ 1152921504606846976 := Nat.le_trans (Nat.pow_le_pow_right (by decide) hk2) (by decide : 2 ^ 60 ≤ 1152921504606846976)
 have hcast : ((2 : Int) ^ k) = ((2 ^ k : Nat) : Int) := by simp
 have HC := Lib.hid hcast
 have HQ := Lib.hid hQ60
 have w1 : IntKind.i64.wrap ((nd : Int) + ((m : Int) - (nd : Int))) = (m : Int) := by have := IntWalk.i64_in ((nd : Int) + ((m : Int) - (nd : Int))) (by omega); rw [this]; omega
 have w2 : IntKind.i64.wrap ((nd : Int) - 1) = (nd : Int) - 1 := IntWalk.i64_in ((nd : Int) - 1) (by omega)
 clear hX hb0 hnum hm3 hm4 hK hQ60 hcast
 go_upto_block 0 with fail
 go_cut [5, 6, 7] (fun t5 t6 t7 wx => t6 = .int .i64 ((m : Int) - (nd : Int)) ∧ t7 = .int .u64 ((Fl.carN N k nd : Nat) : Int) ∧ ∃ (D1 : List Nat) (t1 : Bool), Fl.LSt D N k nd m tr D1 nd t1 ∧ DcAt wx X D1 nd dp ng t1 ∧ Below X w wx)
 case first =>
  go_upto_region 7 with fail
  go_loopg [5, 6, 7] nd (fun f t5 t6 t7 wx => ∃ (i : Nat) (D1 : List Nat) (t1 : Bool), t5 = .int .i64 ((nd : Int) - 1 - (i : Int)) ∧ t6 = .int .i64 ((m : Int) - (i : Int)) ∧ t7 = .int .u64 ((Fl.carN N k i : Nat) : Int) ∧ Fl.LSt D N k nd m tr D1 i t1 ∧ DcAt wx X D1 nd dp ng t1 ∧ Below X w wx ∧ i + f = nd)
  case atStart => exact ⟨0, D, tr, by first | rfl | (congr 1; omega), by first | rfl | (congr 1; omega), by rw [Fl.carN_zero]; rfl, Fl.LSt.start _ _ _ _ _ _, HX.out.1, HX.out.2, by omega⟩
  case round =>
   obtain ⟨i, D1, t1, rfl, rfl, rfl, hst, hW, hbx, hif⟩ := hrel
   cases gk with
   | zero =>
     obtain rfl : i = nd := by omega
     have d0 : decide ((0 : Int) ≤ (i : Int) - 1 - (i : Int)) = false := decide_eq_false (by omega)
     have HS := Lib.hid (And.intro hst (And.intro hW hbx))
     clear hst hW hbx hif x0
     go_wp2_with fail
     go_meet
     exact ⟨rfl, rfl, D1, t1, HS.out.1, HS.out.2.1, HS.out.2.2⟩
   | succ f =>
     have hi : i < nd := by omega
     obtain ⟨ρ, hρ, hρn⟩ : ∃ ρ : Nat, (nd : Int) - 1 - (i : Int) = (ρ : Int) ∧ ρ = nd - 1 - i := ⟨nd - 1 - i, by omega, rfl⟩
     obtain ⟨ω, hω, hωn⟩ : ∃ ω : Nat, (m : Int) - (i : Int) = ((ω + 1 : Nat) : Int) ∧ ω = m - 1 - i := ⟨m - 1 - i, by omega, rfl⟩
     rw [hρ, hω]
     obtain ⟨c, hc, hb, hcc⟩ := HN.out.digit (i := ρ) (by omega)
     have hb1 : D1[ρ]? = some (48 + c) := (hst.left _ (by omega)).trans hb
     have xb := hW.byte hb1
     have HZ := Lib.hid (show (ω : Int) = (m : Int) - ((i + 1 : Nat) : Int) ∧ (ρ : Int) - 1 = (nd : Int) - 1 - ((i + 1 : Nat) : Int) ∧ i + 1 + f = nd ∧ i < m ∧ ρ = nd - 1 - i from ⟨by omega, by omega, by omega, by omega, by omega⟩)
     have DT : ω < 800 → decide ((ω : Int) < 800) = true := fun h => decide_eq_true (by omega)
     have DF : ¬ ω < 800 → decide ((ω : Int) < 800) = false := fun h => decide_eq_false (by omega)
     have j0 : (0 : Int) ≤ (ω : Int) := by omega
     have J1 : ω < 800 → (ω : Int) < 800 := fun h => by omega
     have HL : ω < 800 → ω < D1.length := fun h => by rw [hW.len]; exact h
     have HS : ¬ ω < 800 → ¬ m - 1 - i < 800 := fun h => by rw [← hωn]; exact h
     have HPL : ∀ p, p + i < nd → D1[p]? = D[p]? := hst.left
     have hcN : c = N / 10 ^ i % 10 := by rw [hcc]; congr 2; congr 1; omega
     obtain ⟨k1, k2⟩ := Fl.car_step N k i
     rw [← hcN] at k1 k2
     have hC := Fl.car_lt N k i
     obtain ⟨C, hCC⟩ : ∃ C, Fl.carN N k i = C := ⟨_, rfl⟩
     rw [hCC] at k1 k2 hC ⊢
     obtain ⟨S, hS⟩ : ∃ S, C + c * 2 ^ k = S := ⟨_, rfl⟩
     rw [hS] at k1 k2
     have hQ := HQ.out
     have hcQ : c * 2 ^ k ≤ 9 * 2 ^ k := Nat.mul_le_mul_right _ (by omega)
     have hS64 : S < 18446744073709551616 := by omega
     obtain ⟨q, hq⟩ : ∃ q, S / 10 = q := ⟨_, rfl⟩
     obtain ⟨g, hg⟩ : ∃ g, S % 10 = g := ⟨_, rfl⟩
     rw [hq] at k1
     rw [hg] at k2
     have hg10 : g < 10 := by omega
     have i0 : (0 : Int) ≤ (ρ : Int) := by omega
     have i1 : (ρ : Int) < 800 := by omega
     have d0 : decide ((0 : Int) ≤ (ρ : Int)) = true := decide_eq_true (by omega)
     have s1 : IntKind.u64.wrap (((48 + c : Nat) : Int)) = ((48 + c : Nat) : Int) := by rw [IntKind.wrap_u64]; omega
     have s2 : IntKind.u64.wrap (((48 + c : Nat) : Int) - 48) = (c : Int) := by rw [IntKind.wrap_u64]; omega
     obtain ⟨Z, hZ⟩ : ∃ Z, c * 2 ^ k = Z := ⟨_, rfl⟩
     have s3 : IntKind.u64.wrap ((48 + (c : Int) - 48) * (2 : Int) ^ k) = (Z : Int) := by
      have e1 : (48 + (c : Int) - 48) * (2 : Int) ^ k = (Z : Int) := by
       rw [HC.out, show (48 + (c : Int) - 48) = (c : Int) by omega, ← Int.natCast_mul, hZ]
      rw [e1, IntKind.wrap_u64]; omega
     have s4 : IntKind.u64.wrap ((C : Int) + (Z : Int)) = (S : Int) := by rw [IntKind.wrap_u64]; omega
     have s5 : IntKind.u64.wrap ((S : Int).tdiv 10) = (q : Int) := by
      rw [Int.tdiv_eq_ediv_of_nonneg (by omega), IntKind.wrap_u64]; omega
     have s5' : IntKind.u64.wrap ((S : Int) / 10) = (q : Int) := by rw [IntKind.wrap_u64]; omega
     have s6 : IntKind.u64.wrap (10 * (q : Int)) = 10 * (q : Int) := by rw [IntKind.wrap_u64]; omega
     have s7 : IntKind.u64.wrap ((S : Int) - 10 * (q : Int)) = (g : Int) := by rw [IntKind.wrap_u64]; omega
     have s8 : IntKind.i64.wrap (((ω + 1 : Nat) : Int) - 1) = (ω : Int) := by have := IntWalk.i64_in (((ω + 1 : Nat) : Int) - 1) (by omega); rw [this]; omega
     have s8' : wrap64 (ω : Int) = (ω : Int) := by unfold wrap64; omega
     have s9 : IntKind.i64.wrap ((ρ : Int) - 1) = (ρ : Int) - 1 := IntWalk.i64_in ((ρ : Int) - 1) (by omega)
     have s10 : IntKind.u64.wrap ((g : Int) + 48) = ((g + 48 : Nat) : Int) := by rw [IntKind.wrap_u64]; omega
     have s11 : IntKind.u8.wrap (((g + 48 : Nat) : Int)) = ((48 + g : Nat) : Int) := by rw [IntKind.wrap_u8]; omega
     by_cases hw8 : ω < 800
     · obtain ⟨ob, hob⟩ : ∃ ob, D1[ω]? = some ob := ⟨_, List.getElem?_eq_getElem (HL hw8)⟩
       have xo := hW.byte hob
       have zb := hW.free ω
       have d8 : decide ((ω : Int) < 800) = true := DT hw8
       have d8' : decide (ω < 800) = true := decide_eq_true hw8
       have HJ := Lib.hid (J1 hw8)
       have HF := Lib.hid (And.intro hst (And.intro hW (And.intro hbx (And.intro k1 (And.intro k2 (And.intro hωn hw8))))))
       clear hst hW hbx hif k1 k2 hρn hωn hw8 hob hb hb1 hcc hcN hCC hS hq hg hcQ hS64 hC hQ hρ hω hi hZ DT DF J1 HL HS HPL
       go_upto_region 14 with fail
       have j1 := HJ.out
       go_wp2_with fail
       go_roundg f
       case measure => exact Nat.lt_succ_self _
       case rel =>
        obtain ⟨q1, q2, q3, q5, q6, q8, q9⟩ := HF.out
        refine ⟨i + 1, D1.set ω (48 + g), t1, by first | exact congrArg (Value.int .i64) (s9.trans HZ.out.2.1) | exact congrArg (Value.int .i64) HZ.out.2.1, by first | exact congrArg (Value.int .i64) (s8'.trans HZ.out.1) | exact congrArg (Value.int .i64) HZ.out.1, by rw [← q5], ?_, ?_, ?_, HZ.out.2.2.1⟩
        · have := q1.keep HZ.out.2.2.2.1 hm q2.len (by rw [← q8]; exact q9)
          rw [← q6, ← q8] at this
          exact this
        · first | exact q2.setB q9 _ | (rw [show ((g : Int) + 48) = ((48 + g : Nat) : Int) from Int.add_comm _ _]; exact q2.setB q9 _)
        · exact q3.setCell (show X ≤ (⟨X, ω, none⟩ : Addr).block from Nat.le_refl X) _
     · have d8 : decide ((ω : Int) < 800) = false := DF hw8
       have d8' : decide (ω < 800) = false := decide_eq_false hw8
       have x3 := hW.c3
       have z3 := hW.free 803
       have hsk := hst.skip HZ.out.2.2.2.1 (HS hw8)
       rw [← k2] at hsk
       by_cases hg0 : g = 0
       · subst hg0
         have HF := Lib.hid (And.intro hsk (And.intro hW (And.intro hbx (And.intro k1 hωn))))
         clear hst hW hbx hif k1 k2 hρn hωn hw8 hb hb1 hcc hcN hCC hS hq hg hcQ hS64 hC hQ hρ hω hi hZ hsk DT DF J1 HL HS HPL
         go_wp2_with fail
         go_roundg f
         case measure => exact Nat.lt_succ_self _
         case rel =>
          obtain ⟨q1, q2, q3, q5, q8⟩ := HF.out
          exact ⟨i + 1, D1, t1, by first | exact congrArg (Value.int .i64) (s9.trans HZ.out.2.1) | exact congrArg (Value.int .i64) HZ.out.2.1, by first | exact congrArg (Value.int .i64) (s8'.trans HZ.out.1) | exact congrArg (Value.int .i64) HZ.out.1, by rw [← q5], by simpa using q1, q2, q3, HZ.out.2.2.1⟩
       · have e1 : ((g : Int) != 0) = true := by rw [bne_iff_ne]; exact fun h => hg0 (Int.ofNat.inj h)
         have e1' : (g != 0) = true := by rw [bne_iff_ne]; exact hg0
         rw [e1', Bool.or_true] at hsk
         have HF := Lib.hid (And.intro hsk (And.intro hW (And.intro hbx (And.intro k1 hωn))))
         clear hst hW hbx hif k1 k2 hρn hωn hw8 hb hb1 hcc hcN hCC hS hq hg hcQ hS64 hC hQ hρ hω hi hZ hsk hg0 DT DF J1 HL HS HPL
         go_wp2_with fail
         go_roundg f
         case measure => exact Nat.lt_succ_self _
         case rel =>
          obtain ⟨q1, q2, q3, q5, q8⟩ := HF.out
          exact ⟨i + 1, D1, true, by first | exact congrArg (Value.int .i64) (s9.trans HZ.out.2.1) | exact congrArg (Value.int .i64) HZ.out.2.1, by first | exact congrArg (Value.int .i64) (s8'.trans HZ.out.1) | exact congrArg (Value.int .i64) HZ.out.1, by rw [← q5], q1, q2.set3 true, q3.setCell (show X ≤ (⟨X, 803, none⟩ : Addr).block from Nat.le_refl X) _, HZ.out.2.2.1⟩
 case rest =>
  obtain ⟨rfl, rfl, D1, t1, a1, a2, a3⟩ := hcut
  exact ls_two X D D1 nd N k m dp ng tr t1 w _ _ _ _ _ _ _ _ _ _ _ _ _ _ _ _ _ _ _ _ _ _ _ _ _ _ _ _ _ _ _ _ _ _ _ _ _ _ _ _ _ _ _ _ _ _ _ _ _ _ _ _ _ _ _ _ _ _ _ _ _ _ _ _ _ _ _ _ _ _ _ _ _ _ _ _ _ _ _ _ _ _ _ _ _ _ _ _ _ _ _ _ _ _ _ _ _ _ _ _ _ _ _ _ _ _ _ _ _ _ _ _ _ _ _ _ _ _ _ _ _ _ _ _ _ _ _ _ _ _ _ _ _ _ (by assumption) HN.out hn hk2 hdp hdp2 hm hm2 HH.out.1 HH.out.2 a1 a2 a3
structure ChTab (w : World) (B : Nat × Nat) : Prop where
 ptr : w.cell? ⟨17, 0, none⟩ = some (.slice (some ⟨B.1, B.2, none⟩) 61 61)
 row : ∀ k, 0 < k → k < 61 → w.cell? ⟨B.1, B.2 + k * 2, none⟩ = some (.int .i64 (Fl.chD k : Int)) ∧ ∃ s : ByteArray, w.cell? ⟨B.1, B.2 + k * 2 + 1, none⟩ = some (.string s) ∧ s.data.toList.map (·.toNat) = Fl.chS k
theorem ChTab.on {w w' : World} {B : Nat × Nat} {X : Nat} (h : ChTab w B) (hb : Below X w w') (h1 : 17 < X) (h2 : B.1 < X) : ChTab w' B :=
 ⟨(hb.cell h1).trans h.ptr, fun k h0 hk => by
   obtain ⟨a, s, b, c⟩ := h.row k h0 hk
   exact ⟨(hb.cell h2).trans a, s, (hb.cell h2).trans b, c⟩⟩
theorem l_drew {a W : World} (h : Below a.heap.size a W) : Below a.heap.size a W.drew := h.drew
theorem l_trans {A B C : Prop} {a W W' : World} (h : A ∧ B ∧ C ∧ Below a.heap.size a W) (hb : Below W.heap.size W W') : Below a.heap.size a W' := h.2.2.2.trans (hb.mono h.2.2.2.size)
theorem DcAt.on {w w' : World} {X : Nat} {D : List Nat} {nd dp : Int} {ng tr : Bool} (h : DcAt w X D nd dp ng tr) (hb : Below w.heap.size w w') : DcAt w' X D nd dp ng tr := ⟨(hb.block X h.lt).trans h.blk, h.len⟩
theorem DcAt.reads {w : World} {X nd : Nat} {D : List Nat} {dp : Int} {ng tr : Bool} (h : DcAt w X D nd dp ng tr) (hn : nd ≤ 800) : Reads w w.heap.size (some ⟨X, 0, none⟩) nd (u8s (D.take nd)) := by
 refine ⟨by rw [u8s_len, List.length_take, h.len]; omega, fun _ => ⟨X, 0, rfl, h.lt, fun j u hu => ?_⟩⟩
 obtain ⟨x, hx, rfl⟩ := u8_at hu
 rw [Nat.zero_add]
 refine h.byte ?_
 rw [List.getElem?_take] at hx
 split at hx
 · exact hx
 · cases hx
theorem chS_len {k : Nat} (hk : k ≤ 60) : (Fl.chS k).length ≤ 61 := by
 unfold Fl.chS
 rw [Fl.digB_len]
 omega
theorem lshift_any (X : Nat) (D : List Nat) (nd N k : Nat) (dp : Int) (ng tr : Bool) (hnum : Fl.IsNum D nd N) (htop : 10 ^ nd ≤ 10 * N) (hn : nd ≤ 800) (hk1 : 1 ≤ k) (hk2 : k ≤ 60) (hdp : -10000 ≤ dp) (hdp2 : dp ≤ 10000) (B : Nat × Nat) (w : World) (hT : ChTab w B) (hw : 18 ≤ w.heap.size) (hB : B.1 < w.heap.size) (hX : DcAt w X D nd dp ng tr) :
 Calls Tryz.prog 219 #[.pointer (some ⟨X, 0, none⟩), .int .u64 (k : Int)] w (LsEnd X D N nd k (Fl.lenL D nd k) dp ng tr w) := by
 have x0 := hX.c0
 have y0 := hT.ptr
 obtain ⟨y1, S, y2, hS⟩ := hT.row k hk1 (by omega)
 have i0 : (0 : Int) ≤ (k : Int) := by omega
 have i1 : (k : Int) < 61 := by omega
 have n0 : (0 : Int) ≤ (nd : Int) := by omega
 have n1 : (nd : Int) ≤ 800 := by omega
 obtain ⟨m, hm⟩ : ∃ m, Fl.lenL D nd k = m := ⟨_, rfl⟩
 obtain ⟨l1, l2⟩ := Fl.lenL_bounds (D := D) (nd := nd) hk1 hk2
 obtain ⟨l3, l4⟩ := Fl.left_len hnum htop hk1 hk2
 obtain ⟨c1, _⟩ := Fl.ch_ok k hk1 hk2
 obtain ⟨δ, hδ⟩ : ∃ δ, Fl.chD k = δ := ⟨_, rfl⟩
 obtain ⟨R, hR⟩ : ∃ R, ltP (D.take nd) (Fl.chS k) = R := ⟨_, rfl⟩
 have hmR : m = nd + δ - (if R = true then 1 else 0) := by rw [← hm, ← hR, ← hδ]; rfl
 rw [hm] at l1 l2 l3 l4 ⊢
 rw [hδ] at y1 c1
 have hw17 : 17 < w.heap.size := hw
 have hXw := hX.lt
 have HC := Lib.hid (show ∀ W, Below w.heap.size w W → W.cell? ⟨X, 800, none⟩ = some (.int .i64 nd) ∧ W.cell? ⟨17, 0, none⟩ = some (.slice (some ⟨B.1, B.2, none⟩) 61 61) ∧ W.cell? ⟨B.1, B.2 + k * 2 + 1, none⟩ = some (.string S) ∧ Below w.heap.size w W from
  fun W hb => ⟨(hb.cell hXw).trans x0, (hb.cell hw17).trans y0, (hb.cell hB).trans y2, hb⟩)
 have hS61 : S.size ≤ 61 := by
  have h1 := chS_len hk2
  rw [← hS] at h1
  simpa using h1
 have PL := Lib.hid (show ∀ W, Below w.heap.size w W → Calls Tryz.prog 222 #[.slice (some ⟨X, 0, none⟩) nd 800, .string S] W fun x w' => x = .returned (.bool R) ∧ Below W.heap.size W w' from fun W hb => by
  have h1 := hX.on hb
  have := prefix_less (some ⟨X, 0, none⟩) nd 800 (D.take nd) S (by omega) (by omega) (fun x hx => by have := hnum.mem x hx; omega) W (h1.reads hn)
  rwa [hS, hR] at this)
 have HX := Lib.hid hX
 have HN := Lib.hid hnum
 have HM := Lib.hid (And.intro hmR (And.intro l3 l4))
 have hd2 : Below w.heap.size w w := Below.refl _ _
 clear hX hT hnum htop hR hδ hm hS hmR l3 l4
 go_enter Tryz.func219, Tryz.ntmps219
 go_upto_region 1 with fail
 go_region_held3 (fun W => W.cell? ⟨X, 800, none⟩ = some (.int .i64 nd) ∧ W.cell? ⟨17, 0, none⟩ = some (.slice (some ⟨B.1, B.2, none⟩) 61 61) ∧ W.cell? ⟨B.1, B.2 + k * 2 + 1, none⟩ = some (.string S) ∧ Below w.heap.size w W)
  ((refine HC.out _ ?_; first | assumption | exact l_drew hd2 | exact l_drew (by assumption)))
  (first | (go_at_call 222; refine (PL.out _ (by first | assumption | exact Below.refl _ _ | exact l_drew (by assumption) | exact l_drew (Below.refl _ _))).mono ?_; rintro e w3 ⟨rfl, hb3⟩; have hb3' := l_trans (by assumption) hb3))
 cases R with
 | true =>
   have w2 : IntKind.i64.wrap ((δ : Int) - 1) = (m : Int) - (nd : Int) := by
    have h1 := HM.out.1
    rw [if_pos rfl] at h1
    rw [IntWalk.i64_in ((δ : Int) - 1) (by omega)]
    omega
   rename (∀ (a : Act) (w_1 : World), Code.wp Tryz.prog (Code.cond _ _ _) _ a w_1 → _) => hc
   rename (∀ (a : Act) (w_1 : World), Code.wp Tryz.prog (Code.seq _ _) _ a w_1 → _) => hr
   refine hc _ _ ?_
   refine wp_cond_true rfl ?_
   have HR := Lib.hid hr
   clear hr hc
   go_wp2_with fail
   have hr := HR.out
   exact ls_tail X D nd N k m dp ng tr w _ _ _ _ _ _ _ _ _ _ _ _ _ _ _ _ _ _ _ _ _ _ _ _ _ _ _ _ _ _ _ _ _ _ _ _ _ _ _ _ _ _ _ _ _ _ _ _ _ _ _ _ _ _ _ _ _ _ _ _ _ _ _ _ _ _ _ _ _ _ _ _ _ _ _ _ _ _ _ _ _ _ _ _ _ _ _ _ _ _ _ _ _ _ _ _ _ _ _ _ _ _ _ _ _ _ _ _ _ _ _ _ _ _ _ _ _ _ _ _ _ _ _ _ _ _ _ _ _ _ _ _ _ _ _ hr HN.out hn hk2 hdp hdp2 l1 l2 HM.out.2.1 HM.out.2.2 (HX.out.on hb3') (hb3'.mono (Nat.le_of_lt hXw))
 | false =>
   have w2 : (δ : Int) = (m : Int) - (nd : Int) := by
    have h1 := HM.out.1
    rw [if_neg (by decide)] at h1
    omega
   rw [w2]
   rename (∀ (a : Act) (w_1 : World), Code.wp Tryz.prog (Code.cond _ _ _) _ a w_1 → _) => hc
   rename (∀ (a : Act) (w_1 : World), Code.wp Tryz.prog (Code.seq _ _) _ a w_1 → _) => hr
   refine hc _ _ ?_
   refine wp_cond_false rfl ?_
   refine wp_skip ?_
   exact ls_tail X D nd N k m dp ng tr w _ _ _ _ _ _ _ _ _ _ _ _ _ _ _ _ _ _ _ _ _ _ _ _ _ _ _ _ _ _ _ _ _ _ _ _ _ _ _ _ _ _ _ _ _ _ _ _ _ _ _ _ _ _ _ _ _ _ _ _ _ _ _ _ _ _ _ _ _ _ _ _ _ _ _ _ _ _ _ _ _ _ _ _ _ _ _ _ _ _ _ _ _ _ _ _ _ _ _ _ _ _ _ _ _ _ _ _ _ _ _ _ _ _ _ _ _ _ _ _ _ _ _ _ _ _ _ _ _ _ _ _ _ _ _ hr HN.out hn hk2 hdp hdp2 l1 l2 HM.out.2.1 HM.out.2.2 (HX.out.on hb3') (hb3'.mono (Nat.le_of_lt hXw))
theorem shift_left (X : Nat) (D : List Nat) (nd N n : Nat) (dp : Int) (ng tr : Bool) (hnum : Fl.IsNum D nd N) (htop : 10 ^ nd ≤ 10 * N) (hnd : 0 < nd) (hn : nd ≤ 800) (hk1 : 1 ≤ n) (hk2 : n ≤ 60) (hdp : -10000 ≤ dp) (hdp2 : dp ≤ 10000) (B : Nat × Nat) (w : World) (hT : ChTab w B) (hw : 18 ≤ w.heap.size) (hB : B.1 < w.heap.size) (hX : DcAt w X D nd dp ng tr) :
 Calls Tryz.prog 214 #[.pointer (some ⟨X, 0, none⟩), .int .i64 (n : Int)] w (LsEnd X D N nd n (Fl.lenL D nd n) dp ng tr w) := by
 have x0 := hX.c0
 have HX := Lib.hid hX
 have HN := Lib.hid hnum
 have HT := Lib.hid hT
 have HH := Lib.hid htop
 have e0 : ((nd : Int) == 0) = false := by rw [beq_eq_false_iff_ne]; omega
 have e0' : (nd == 0) = false := by rw [beq_eq_false_iff_ne]; omega
 have d1 : decide ((0 : Int) < (n : Int)) = true := decide_eq_true (by omega)
 have d1' : decide (0 < n) = true := decide_eq_true (by omega)
 have d3 : decide ((60 : Int) < (n : Int)) = false := decide_eq_false (by omega)
 have d3' : decide (60 < n) = false := decide_eq_false (by omega)
 have w2 : IntKind.u64.wrap ((n : Int)) = (n : Int) := by rw [IntKind.wrap_u64]; omega
 clear hX hnum hT htop
 go_enter Tryz.func214, Tryz.ntmps214
 go_wp2_with fail
 go_loopg [1] 0 (fun f t1 wx => t1 = .int .i64 (n : Int) ∧ wx = w)
 case atStart => exact ⟨rfl, rfl⟩
 case round =>
  obtain ⟨rfl, rfl⟩ := hrel
  go_wp2_with fail
  refine (lshift_any X D nd N n dp ng tr HN.out HH.out hn hk1 hk2 hdp hdp2 B _ HT.out hw hB HX.out).mono ?_
  rintro e w1 h1
  obtain ⟨rfl, h2⟩ := h1
  have HE := Lib.hid h2
  clear h2
  go_wp2_with fail
  exact ⟨rfl, .tuple #[], results_none rfl _ _ _, rfl, HE.out⟩
end Go.Proofs.YtjapgpmoojfhnaaGreatDoor
