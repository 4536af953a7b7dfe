/- RoundedInteger of the library's decimal. rightShift of the library's decimal: behind its first loop. rightShift of the library's decimal. -/
import Derived.Test.YtjapgpmoojfhnaaGreatDoorB28
set_option maxHeartbeats 16000000
set_option maxRecDepth 100000
set_option linter.unusedSimpArgs false
set_option linter.unusedVariables false
namespace Go.Proofs.YtjapgpmoojfhnaaGreatDoor
open Go.RowKit Go.Lib
theorem Fl.pre_le {N nd i j : Nat} (h : i ≤ j) : Fl.preN N nd i ≤ Fl.preN N nd j := by
 obtain ⟨z, rfl⟩ : ∃ z, j = i + z := ⟨j - i, by omega⟩
 exact Fl.pre_mono N nd i z
theorem Fl.int_pre (N nd : Nat) (dp : Int) (h : 0 ≤ dp) : Fl.intQ N nd dp = Fl.preN N nd dp.toNat := by
 unfold Fl.intQ Fl.preN
 rw [if_neg (by omega)]
 rcases Nat.lt_trichotomy dp.toNat nd with h1 | h1 | h1
 · rw [if_pos h1, if_pos (Nat.le_of_lt h1)]
 · rw [if_neg (by omega), if_pos (by omega), h1, Nat.sub_self, Nat.pow_zero, Nat.div_one, Nat.mul_one]
 · rw [if_neg (by omega), if_neg (by omega)]
theorem rint_any (X : Nat) (D : List Nat) (nd N : Nat) (dp : Int) (ng tr : Bool) (hnum : Fl.IsNum D nd N) (hn : nd ≤ 800) (hdp : dp ≤ 16) (hlo : -10000 ≤ dp) (hbig : Fl.rndN D N nd dp tr ≤ 9007199254740992) (w : World) (hX : DcAt w X D nd dp ng tr) :
 Calls Tryz.prog 215 #[.pointer (some ⟨X, 0, none⟩)] w fun x w' => x = .returned (.int .u64 (Fl.rndN D N nd dp tr : Nat)) ∧ w' = w := by
 have x0 := hX.c0
 have x1 := hX.c1
 have h48 : ∀ i, i < nd → 48 ≤ D.getD i 0 := fun i hi => by
  obtain ⟨c, _, hc, _⟩ := hnum.digit hi
  rw [List.getD_eq_getElem?_getD, hc]
  exact Nat.le_add_right _ _
 have hD : ∀ i, i < nd → D.getD i 0 < 256 := fun i hi => by
  obtain ⟨c, hc9, hc, _⟩ := hnum.digit hi
  rw [List.getD_eq_getElem?_getD, hc]
  show 48 + c < 256
  omega
 obtain ⟨d, hd⟩ : ∃ d : Nat, d = dp.toNat := ⟨_, rfl⟩
 obtain ⟨m1, hm1⟩ : ∃ m1 : Nat, m1 = min d nd := ⟨_, rfl⟩
 have hpre : ∀ i, i ≤ d → Fl.preN N nd i ≤ 9007199254740992 := fun i hi => by
  rcases Int.lt_or_le dp 0 with h0 | h0
  · obtain rfl : i = 0 := by omega
    rw [Fl.pre_zero hnum.1]
    exact Nat.zero_le _
  · have h1 := Fl.int_pre N nd dp h0
    rw [← hd] at h1
    have h2 : Fl.intQ N nd dp ≤ 9007199254740992 := Nat.le_trans (Nat.le_add_right _ _) hbig
    exact Nat.le_trans (Fl.pre_le hi) (by omega)
 have d20 : decide (20 < dp) = false := decide_eq_false (by omega)
 have HP := Lib.hid hpre
 have HN := Lib.hid hnum
 have H4 := Lib.hid h48
 have HB := Lib.hid hbig
 have HD := Lib.hid hD
 have HX := Lib.hid hX
 clear hpre hnum h48 hbig hD hX
 go_enter Tryz.func215, Tryz.ntmps215
 go_wp2_with fail
 go_loopg [3, 4] m1 (fun f t3 t4 wx => ∃ i : Nat, t3 = .int .i64 (i : Int) ∧ t4 = .int .u64 ((Fl.preN N nd i : Nat) : Int) ∧ i + f = m1 ∧ wx = w)
 case atStart => exact ⟨0, rfl, by rw [Fl.pre_zero HN.out.1]; rfl, by omega, rfl⟩
 case round =>
  obtain ⟨i, rfl, rfl, hif, rfl⟩ := hrel
  cases gk with
  | zero =>
    obtain ⟨R, hR⟩ : ∃ R, (decide (0 ≤ dp) && rupN D nd tr d) = R := ⟨_, rfl⟩
    have hcall : Calls Tryz.prog 221 #[.pointer (some ⟨X, 0, none⟩), .int .i64 dp] wr fun x w' => x = .returned (.bool R) ∧ w' = wr := by
     rcases Int.lt_or_le dp 0 with h0 | h0
     · rw [← hR, decide_eq_false (by omega : ¬ 0 ≤ dp), Bool.false_and]
       exact rup_neg X D nd dp dp ng tr (.inl h0) wr HX.out
     · have h1 := rup_any X D nd d dp ng tr hn HD.out H4.out wr HX.out
       rw [← hR, decide_eq_true h0, Bool.true_and]
       rwa [show ((d : Nat) : Int) = dp by omega] at h1
    have hfin : Fl.rndN D N nd dp tr = Fl.preN N nd d + (if R = true then 1 else 0) := by
     unfold Fl.rndN
     rcases Int.lt_or_le dp 0 with h0 | h0
     · rw [← hR, decide_eq_false (by omega : ¬ 0 ≤ dp), Bool.false_and, if_neg (fun h => by omega), if_neg (by decide), show d = 0 by omega, Fl.pre_zero HN.out.1]
       unfold Fl.intQ
       rw [if_pos h0]
     · rw [Fl.int_pre N nd dp h0, ← hd, ← hR, decide_eq_true h0, Bool.true_and]
       by_cases hr : rupN D nd tr d = true
       · rw [if_pos hr, if_pos ⟨h0, hr⟩]
       · rw [if_neg hr, if_neg (fun h => hr h.2)]
    have HC := Lib.hid hcall
    have HG := Lib.hid hfin
    have HL := Lib.hid (show (i < d → nd ≤ i) ∧ i ≤ d from ⟨fun h => by omega, by omega⟩)
    have HR := Lib.hid hR
    clear hcall hfin hR
    by_cases c1 : (i : Int) < dp
    · have e1 : decide ((i : Int) < dp) = true := decide_eq_true c1
      have e2 : decide ((i : Int) < (nd : Int)) = false := decide_eq_false (by omega)
      have e2' : decide (i < nd) = false := decide_eq_false (by omega)
      clear c1 hif
      go_wp2_with fail
      go_loopg [3, 4] (d - i) (fun f t3 t4 wx => ∃ y : Nat, t3 = .int .i64 (y : Int) ∧ t4 = .int .u64 ((Fl.preN N nd y : Nat) : Int) ∧ y + f = d ∧ i ≤ y ∧ wx = wr)
      case atStart => exact ⟨i, rfl, rfl, by have := HL.out.2; omega, Nat.le_refl _, rfl⟩
      case round =>
       obtain ⟨y, rfl, rfl, hyf, hiy, rfl⟩ := hrel
       cases gk with
       | zero =>
         have e5 : decide ((y : Int) < dp) = false := decide_eq_false (by omega)
         obtain rfl : y = d := by omega
         clear hyf hiy
         go_wp2_with fail
         refine (HC.out).mono ?_
         rintro e w1 ⟨rfl, rfl⟩
         have hp := HP.out y (Nat.le_refl _)
         obtain ⟨P, hP⟩ : ∃ P, Fl.preN N nd y = P := ⟨_, rfl⟩
         have hG := HG.out
         rw [hP] at hp hG ⊢
         have HG2 := Lib.hid hG
         have w1 : IntKind.u64.wrap ((P : Int) + 1) = ((P + 1 : Nat) : Int) := by rw [IntKind.wrap_u64]; omega
         clear hG hp hP
         cases R with
         | false =>
           go_wp2_with fail
           go_ret
           exact ⟨by rw [HG2.out]; rfl, rfl⟩
         | true =>
           go_wp2_with fail
           go_ret
           exact ⟨by rw [HG2.out]; rfl, rfl⟩
       | succ g =>
         have e5 : decide ((y : Int) < dp) = true := decide_eq_true (by omega)
         have hnx := Fl.pre_high (N := N) (n := nd) (t := y) (by have := HL.out.1; omega)
         have hp := HP.out (y + 1) (by omega)
         obtain ⟨P, hP⟩ : ∃ P, Fl.preN N nd y = P := ⟨_, rfl⟩
         rw [hP] at hnx ⊢
         rw [hnx] at hp
         have w1 : IntKind.i64.wrap ((y : Int) + 1) = ((y + 1 : Nat) : Int) := by have := IntWalk.i64_in ((y : Int) + 1) (by omega); rw [this]; omega
         have w2 : IntKind.u64.wrap ((P : Int) * 10) = ((10 * P : Nat) : Int) := by rw [IntKind.wrap_u64]; omega
         have w2' : IntKind.u64.wrap (10 * (P : Int)) = ((10 * P : Nat) : Int) := by rw [IntKind.wrap_u64]; omega
         have HF := Lib.hid (And.intro hnx (And.intro hyf (And.intro hp hiy)))
         clear hnx hyf hp hP hiy
         go_wp2_with fail
         go_roundg g
         case measure => exact Nat.lt_succ_self _
         case rel => exact ⟨y + 1, by first | rfl | rw [w1], by rw [HF.out.1]; congr 1, by have := HF.out.2.1; omega, by have := HF.out.2.2.2; omega, rfl⟩
    · have e1 : decide ((i : Int) < dp) = false := decide_eq_false c1
      clear c1 hif
      go_wp2_with fail
      go_loopg [3, 4] (d - i) (fun f t3 t4 wx => ∃ y : Nat, t3 = .int .i64 (y : Int) ∧ t4 = .int .u64 ((Fl.preN N nd y : Nat) : Int) ∧ y + f = d ∧ i ≤ y ∧ wx = wr)
      case atStart => exact ⟨i, rfl, rfl, by have := HL.out.2; omega, Nat.le_refl _, rfl⟩
      case round =>
       obtain ⟨y, rfl, rfl, hyf, hiy, rfl⟩ := hrel
       cases gk with
       | zero =>
         have e5 : decide ((y : Int) < dp) = false := decide_eq_false (by omega)
         obtain rfl : y = d := by omega
         clear hyf hiy
         go_wp2_with fail
         refine (HC.out).mono ?_
         rintro e w1 ⟨rfl, rfl⟩
         have hp := HP.out y (Nat.le_refl _)
         obtain ⟨P, hP⟩ : ∃ P, Fl.preN N nd y = P := ⟨_, rfl⟩
         have hG := HG.out
         rw [hP] at hp hG ⊢
         have HG2 := Lib.hid hG
         have w1 : IntKind.u64.wrap ((P : Int) + 1) = ((P + 1 : Nat) : Int) := by rw [IntKind.wrap_u64]; omega
         clear hG hp hP
         cases R with
         | false =>
           go_wp2_with fail
           go_ret
           exact ⟨by rw [HG2.out]; rfl, rfl⟩
         | true =>
           go_wp2_with fail
           go_ret
           exact ⟨by rw [HG2.out]; rfl, rfl⟩
       | succ g =>
         have e5 : decide ((y : Int) < dp) = true := decide_eq_true (by omega)
         have hnx := Fl.pre_high (N := N) (n := nd) (t := y) (by have := HL.out.1; omega)
         have hp := HP.out (y + 1) (by omega)
         obtain ⟨P, hP⟩ : ∃ P, Fl.preN N nd y = P := ⟨_, rfl⟩
         rw [hP] at hnx ⊢
         rw [hnx] at hp
         have w1 : IntKind.i64.wrap ((y : Int) + 1) = ((y + 1 : Nat) : Int) := by have := IntWalk.i64_in ((y : Int) + 1) (by omega); rw [this]; omega
         have w2 : IntKind.u64.wrap ((P : Int) * 10) = ((10 * P : Nat) : Int) := by rw [IntKind.wrap_u64]; omega
         have w2' : IntKind.u64.wrap (10 * (P : Int)) = ((10 * P : Nat) : Int) := by rw [IntKind.wrap_u64]; omega
         have HF := Lib.hid (And.intro hnx (And.intro hyf (And.intro hp hiy)))
         clear hnx hyf hp hP hiy
         go_wp2_with fail
         go_roundg g
         case measure => exact Nat.lt_succ_self _
         case rel => exact ⟨y + 1, by first | rfl | rw [w1], by rw [HF.out.1]; congr 1, by have := HF.out.2.1; omega, by have := HF.out.2.2.2; omega, rfl⟩
  | succ f =>
    have e1 : decide ((i : Int) < dp) = true := decide_eq_true (by omega)
    have e2 : decide ((i : Int) < (nd : Int)) = true := decide_eq_true (by omega)
    have e2' : decide (i < nd) = true := decide_eq_true (by omega)
    obtain ⟨c, hc, hb, hcc⟩ := HN.out.digit (i := i) (by omega)
    have xb := HX.out.byte hb
    have hp := HP.out i (by omega)
    have hnext := Fl.rs_take (N := N) (nd := nd) (r := i) (by omega) hcc
    obtain ⟨P, hP⟩ : ∃ P, Fl.preN N nd i = P := ⟨_, rfl⟩
    rw [hP] at hp hnext ⊢
    have i0 : (0 : Int) ≤ (i : Int) := by omega
    have i1 : (i : Int) < 800 := by omega
    have w1 : IntKind.i64.wrap ((i : Int) + 1) = ((i + 1 : Nat) : Int) := by have := IntWalk.i64_in ((i : Int) + 1) (by omega); rw [this]; omega
    have w2 : IntKind.u64.wrap ((P : Int) * 10) = ((10 * P : Nat) : Int) := by rw [IntKind.wrap_u64]; omega
    have w3 : IntKind.u8.wrap (((48 + c : Nat) : Int) - 48) = (c : Int) := by rw [IntKind.wrap_u8]; omega
    have w4 : IntKind.u64.wrap ((c : Int)) = (c : Int) := by rw [IntKind.wrap_u64]; omega
    have w5 : IntKind.u64.wrap (((10 * P : Nat) : Int) + (c : Int)) = ((10 * P + c : Nat) : Int) := by rw [IntKind.wrap_u64]; omega
    have HF := Lib.hid (And.intro hnext (And.intro hif (And.intro hp hc)))
    clear hnext hif hp hP hcc hb
    go_wp2_with fail
    go_roundg f
    case measure => exact Nat.lt_succ_self _
    case rel => exact ⟨i + 1, rfl, by rw [← HF.out.1]; congr 1; rw [IntKind.wrap_u64]; have := HF.out.2.2; omega, by have := HF.out.2.1; omega, rfl⟩
def hdC : Code → Nat
 | .seq a _ => hdC a
 | .region k _ _ => k
 | _ => 100000
def fromC (n : Nat) : Code → Code
 | .seq a b => if hdC a == n then .seq a b else fromC n b
 | c => c
noncomputable def suf220 : Code := fromC 13 (Tryz.f220.body.getD .skip)
def RsEnd (X : Nat) (D : List Nat) (N nd k : Nat) (dp : Int) (ng tr : Bool) (w : World) (x : Ending) (w' : World) : Prop :=
 x = .returned (.tuple #[]) ∧ ∃ D1 r wd t1, Fl.RSt D N k nd r tr D1 wd t1 ∧ Fl.preN N nd r < 2 ^ k ∧ 2 ^ k ≤ Fl.preN N nd (r + 1) ∧ Fl.preN N nd (r + wd) % 2 ^ k = 0 ∧ nd ≤ r + wd ∧ 0 < wd ∧ wd ≤ nd + k + 2 ∧ r ≤ nd + 20 ∧ DcAt w' X D1 (trimN D1 (min wd 800)) (dpT (trimN D1 (min wd 800)) (dp - r)) ng t1 ∧ Below X w w'
theorem rs_tail (X : Nat) (D : List Nat) (nd N k r : Nat) (dp : Int) (ng tr : Bool) (w : World) (u2 u3 u7 u8 u9 u10 u11 u12 u13 u14 u15 u16 u17 u18 u19 u20 u21 u22 u23 u24 u25 u26 u27 u28 u29 u30 u31 u32 u33 u34 u35 u36 u37 u38 u39 u40 u41 u42 u43 u44 u45 u46 u47 u48 u49 u50 u51 u52 u53 u54 u55 u56 u57 u58 u59 u60 u61 u62 u63 u64 u65 u66 u67 u68 u69 u70 u71 u72 u73 u74 u75 u76 u77 u78 u79 u80 u81 u82 u83 u84 u85 u86 u87 u88 u89 u90 u91 u92 u93 u94 u95 u96 u97 u98 u99 u100 u101 u102 u103 u104 u105 u106 u107 u108 u109 u110 u111 u112 u113 u114 u115 u116 u117 u118 u119 u120 u121 u122 u123 u124 u125 u126 u127 u128 u129 : Value) {K : Act → World → Prop}
 (hK : ∀ a w', Code.wp Tryz.prog suf220 (bodyPost Tryz.prog Tryz.f220 fun x w' => RsEnd X D N nd k dp ng tr w x w') a w' → K a w')
 (hnum : Fl.IsNum D nd N) (hn : nd ≤ 800) (hk1 : 1 ≤ k) (hk2 : k ≤ 60) (hdp : -10000 ≤ dp) (hdp2 : dp ≤ 10000) (hr : r ≤ nd + 20) (hr1 : Fl.preN N nd r < 2 ^ k) (hr2 : 2 ^ k ≤ Fl.preN N nd (r + 1)) (h0 : N % 10 ≠ 0) (hX : DcAt w X D nd dp ng tr) :
 K ⟨#[.pointer (some ⟨X, 0, none⟩), .int .u64 (k : Int), u2, u3, .int .i64 ((r + 1 : Nat) : Int), .int .i64 0, .int .u64 ((Fl.preN N nd (r + 1) : Nat) : Int), u7, u8, u9, u10, u11, u12, u13, u14, u15, u16, u17, u18, u19, u20, u21, u22, u23, u24, u25, u26, u27, u28, u29, u30, u31, u32, u33, u34, u35, u36, u37, u38, u39, u40, u41, u42, u43, u44, u45, u46, u47, u48, u49, u50, u51, u52, u53, u54, u55, u56, u57, u58, u59, u60, u61, u62, u63, u64, u65, u66, u67, u68, u69, u70, u71, u72, u73, u74, u75, u76, u77, u78, u79, u80, u81, u82, u83, u84, u85, u86, u87, u88, u89, u90, u91, u92, u93, u94, u95, u96, u97, u98, u99, u100, u101, u102, u103, u104, u105, u106, u107, u108, u109, u110, u111, u112, u113, u114, u115, u116, u117, u118, u119, u120, u121, u122, u123, u124, u125, u126, u127, u128, u129], []⟩ w := by
 refine hK _ _ ?_
 conv => arg 4; zeta
 conv => arg 2; whnf
 have x1 := hX.c1
 have z1 := hX.free 801
 have HX := Lib.hid hX
 have HN := Lib.hid hnum
 have HH := Lib.hid (And.intro hr1 (And.intro hr2 h0))
 have w1 : IntKind.i64.wrap (((r + 1 : Nat) : Int) - 1) = (r : Int) := by have := IntWalk.i64_in (((r + 1 : Nat) : Int) - 1) (by omega); rw [this]; omega
 have w2 : IntKind.i64.wrap (dp - (r : Int)) = dp - (r : Int) := IntWalk.i64_in (dp - (r : Int)) (by omega)
 clear hX hnum hr1 hr2 h0 hK
 go_upto_region 14 with fail
 have hA : DcAt (w.setCell ⟨X, 801, none⟩ (.int .i64 (dp - r))) X D nd (dp - r) ng tr ∧ Below X w (w.setCell ⟨X, 801, none⟩ (.int .i64 (dp - r))) := ⟨HX.out.set1 _, (Below.refl X w).setCell (show X ≤ (⟨X, 801, none⟩ : Addr).block from Nat.le_refl X) _⟩
 generalize w.setCell ⟨X, 801, none⟩ (.int .i64 (dp - r)) = wA at hA ⊢
 have x0 := hA.1.c0
 have HA := Lib.hid hA
 clear hA x1 z1
 have hQ60 : 2 ^ k ≤ 1152921504606846976 := Nat.le_trans (Nat.pow_le_pow_right (by decide) hk2) (by decide : 2 ^ 60 ≤ 1152921504606846976)
 have hQ1 : 0 < 2 ^ k := Nat.pow_pos (by decide)
 have hcast : ((2 : Int) ^ k) = ((2 ^ k : Nat) : Int) := by simp
 have m1 : IntKind.u64.wrap ((2 : Int) ^ k) = ((2 ^ k : Nat) : Int) := by rw [hcast, IntKind.wrap_u64]; omega
 have m2 : IntKind.u64.wrap (((2 ^ k : Nat) : Int) - 1) = ((2 ^ k - 1 : Nat) : Int) := by rw [IntKind.wrap_u64]; omega
 obtain ⟨MK, hMK⟩ : ∃ MK : Nat, 2 ^ k - 1 = MK := ⟨_, rfl⟩
 rw [hMK] at m2
 have HM := Lib.hid hMK
 have HC := Lib.hid hcast
 have HQ := Lib.hid (And.intro hQ60 hQ1)
 have m12 : IntKind.u64.wrap (IntKind.u64.wrap ((2 : Int) ^ k) - 1) = (MK : Int) := by rw [m1, m2]
 clear m1 m2 hMK hcast hQ60 hQ1
 go_upto_region 15 with fail
 go_loopg [4, 5, 6] (nd - (r + 1)) (fun f t4 t5 t6 wx => ∃ (wd : Nat) (D1 : List Nat), t4 = .int .i64 ((r + 1 + wd : Nat) : Int) ∧ t5 = .int .i64 (wd : Int) ∧ t6 = .int .u64 ((Fl.remN N nd k (r + wd + 1) : Nat) : Int) ∧ Fl.RSt D N k nd r tr D1 wd tr ∧ DcAt wx X D1 nd (dp - r) ng tr ∧ Below X w wx ∧ r + 1 + wd + f = max nd (r + 1))
 case atStart => exact ⟨0, D, rfl, rfl, by rw [Nat.add_zero, Fl.rs_first HH.out.1], Fl.RSt.start _ _ _ _ _ _, HA.out.1, HA.out.2, by omega⟩
 case round =>
  obtain ⟨wd, D1, rfl, rfl, rfl, hst, hW, hbx, hwf⟩ := hrel
  have x0 := hW.c0
  cases gk with
  | zero =>
    have hge : nd ≤ r + 1 + wd := by omega
    have d1 : decide (((r + 1 + wd : Nat) : Int) < (nd : Int)) = false := decide_eq_false (by omega)
    have d1' : decide (r + 1 + wd < nd) = false := decide_eq_false (by omega)
    have d1c : decide ((r : Int) + 1 + (wd : Int) < (nd : Int)) = false := decide_eq_false (by omega)
    have hpos : Fl.remN N nd k (r + wd + 1) ≠ 0 := Fl.rs_pos HH.out.2.2 (Nat.pos_of_ne_zero fun e => by
     have h1 := HN.out
     rw [e] at h1
     have := h1.zero
     have := HH.out.2.2
     omega) HH.out.1 HH.out.2.1 (by omega)
    have hwle : wd ≤ nd := by omega
    have HS := Lib.hid (And.intro hst (And.intro hW (And.intro hbx (And.intro hge (And.intro hpos hwle)))))
    clear hst hW hbx hwf hge hpos hwle
    go_wp2_with fail
    clear x0
    go_loopg [5, 6] (nd + k + 2 - wd) (fun f t5 t6 wx => ∃ (wc W : Nat) (D2 : List Nat) (t2 : Bool), t5 = .int .i64 (W : Int) ∧ t6 = .int .u64 ((Fl.remN N nd k (r + wc + 1) : Nat) : Int) ∧ W = min wc 800 ∧ Fl.RSt D N k nd r tr D2 wc t2 ∧ DcAt wx X D2 nd (dp - r) ng t2 ∧ Below X w wx ∧ wd ≤ wc ∧ wc + f = nd + k + 2 ∧ (wc = wd ∨ nd ≤ r + wc))
    case atStart => exact ⟨wd, wd, D1, tr, rfl, rfl, by have := HS.out.2.2.2.2.2; omega, HS.out.1, HS.out.2.1, HS.out.2.2.1, Nat.le_refl _, by have := HS.out.2.2.2.2.2; omega, .inl rfl⟩
    case round =>
     obtain ⟨wc, W, D2, t2, rfl, rfl, hWc, hst, hW, hbx, hle, hwf, hor⟩ := hrel
     by_cases hz : Fl.remN N nd k (r + wc + 1) = 0
     · rw [hz]
       have x0 := hW.c0
       have z0 := hW.free 800
       have HE := Lib.hid (And.intro hst (And.intro hW (And.intro hbx (And.intro hle (And.intro hwf (And.intro hor (And.intro hz hWc)))))))
       clear hst hW hbx hle hwf hor hz hWc
       go_wp2_with fail
       obtain ⟨a1, a2, a3, a4, a5, a6, a7, a8⟩ := HE.out
       refine (dctrim_any X D2 W (dp - r) ng t2 (by omega) _ (a2.set0 _)).mono ?_
       rintro e w1 ⟨rfl, h1, h2⟩
       have hw2 : Below X w w1 := (a3.setCell (show X ≤ (⟨X, 800, none⟩ : Addr).block from Nat.le_refl X) _).trans h2
       have hne : wc ≠ wd := fun e => HS.out.2.2.2.2.1 (by rw [← e]; exact a7)
       have hnd : nd ≤ r + wc := a6.resolve_left hne
       have hend := Fl.rs_end (N := N) (nd := nd) (k := k) (t := r + wc - 1) (by omega) (by rw [show r + wc - 1 + 2 = r + wc + 1 by omega]; exact a7)
       rw [show r + wc - 1 + 1 = r + wc by omega] at hend
       rw [a8] at h1
       have HR := Lib.hid (show RsEnd X D N nd k dp ng tr w (.returned (.tuple #[])) w1 from ⟨rfl, D2, r, wc, t2, a1, HH.out.1, HH.out.2.1, hend, hnd, by omega, by omega, hr, h1, hw2⟩)
       clear a1 a2 a3 a4 a5 a6 a7 a8 h1 h2 hw2 hend hnd hne
       go_wp2_with fail
       exact ⟨rfl, .tuple #[], results_none rfl _ _ _, rfl, HR.out.2⟩
     · have hwlt : wc < nd + k := by
        rcases Nat.lt_or_ge wc (nd + k) with h | h
        · exact h
        · exfalso
          have h1 := Fl.rs_stop (N := N) (nd := nd) (k := k) (t := r + wc - 1) (by have := HH.out.2.1; have := HQ.out.2; omega)
          rw [show r + wc - 1 + 2 = r + wc + 1 by omega] at h1
          exact hz h1
       obtain ⟨f, rfl⟩ : ∃ f, gk = f + 1 := ⟨gk - 1, by omega⟩
       obtain ⟨hg1, hg2⟩ := Fl.rs_digit N nd k r wc
       have hnx := Fl.rs_high (N := N) (nd := nd) (k := k) (t := r + wc) (by have := HS.out.2.2.2.1; omega)
       have hP64 := Fl.rs_fits (N := N) (nd := nd) (t := r + wc) hk2
       obtain ⟨P, hP⟩ : ∃ P, Fl.remN N nd k (r + wc + 1) = P := ⟨_, rfl⟩
       rw [hP] at hg1 hg2 hnx hP64 hz ⊢
       obtain ⟨g, hg⟩ : ∃ g, P / 2 ^ k = g := ⟨_, rfl⟩
       obtain ⟨R, hR⟩ : ∃ R, P % 2 ^ k = R := ⟨_, rfl⟩
       have hRlt : R < 1152921504606846976 := by rw [← hR]; exact Nat.lt_of_lt_of_le (Nat.mod_lt _ HQ.out.2) HQ.out.1
       rw [hg] at hg1 hg2
       rw [hR] at hnx
       have s1 : (P : Int) / (2 : Int) ^ k = (g : Int) := by rw [HC.out, ← hg]; exact (Int.natCast_ediv P (2 ^ k)).symm
       have s2 : bits .and .u64 (P : Int) (MK : Int) = (R : Int) := by
        rw [u64_and_nat P MK hP64 (by have := HM.out; have := HQ.out; omega), ← HM.out, Nat.and_two_pow_sub_one_eq_mod, hR]
       have s0 : decide ((0 : Int) < (P : Int)) = true := decide_eq_true (by omega)
       have s0' : decide (0 < P) = true := decide_eq_true (by omega)
       have s8 : IntKind.u64.wrap ((R : Int) * 10) = ((10 * R : Nat) : Int) := by rw [IntKind.wrap_u64]; omega
       have hor2 : wc + 1 = wd ∨ nd ≤ r + (wc + 1) := .inr (by have := HS.out.2.2.2.1; omega)
       by_cases hw8 : wc < 800
       · obtain rfl : W = wc := by omega
         obtain ⟨ob, hob⟩ : ∃ ob, D2[W]? = some ob := ⟨_, List.getElem?_eq_getElem (by rw [hW.len]; omega)⟩
         have xo := hW.byte hob
         have zb := hW.free W
         have d8 : decide ((W : Int) < 800) = true := decide_eq_true (by omega)
         have d8' : decide (W < 800) = true := decide_eq_true hw8
         have j0 : (0 : Int) ≤ (W : Int) := by omega
         have j1 : (W : Int) < 800 := by omega
         have s3 : IntKind.u64.wrap ((g : Int) + 48) = ((g + 48 : Nat) : Int) := by rw [IntKind.wrap_u64]; omega
         have s4 : IntKind.u8.wrap (((g + 48 : Nat) : Int)) = ((48 + g : Nat) : Int) := by rw [IntKind.wrap_u8]; omega
         have s5 : IntKind.i64.wrap ((W : Int) + 1) = ((W + 1 : Nat) : Int) := by have := IntWalk.i64_in ((W : Int) + 1) (by omega); rw [this]; omega
         have HF := Lib.hid (And.intro hst (And.intro hW (And.intro hbx (And.intro hwf (And.intro hg1 (And.intro hnx (And.intro hle (And.intro hor2 hw8))))))))
         clear hst hW hbx hwf hg1 hnx hg hP hR hP64 hob hle hor hor2 hw8 hWc hwlt hz
         go_wp2_with fail
         go_roundg f
         case measure => exact Nat.lt_succ_self _
         case rel =>
          obtain ⟨q1, q2, q3, q4, q5, q6, q7, q8, q9⟩ := HF.out
          refine ⟨W + 1, W + 1, D2.set W (48 + g), t2, by congr 1, ?_, by omega, ?_, ?_, ?_, by omega, by omega, ?_⟩
          · rw [show r + (W + 1) + 1 = r + W + 2 by omega, q6]
            congr 1
          · have := q1.keep q2.len q9
            rwa [q5] at this
          · rw [show ((g : Int) + 48) = ((48 + g : Nat) : Int) by omega]
            exact q2.setB q9 _
          · exact q3.setCell (show X ≤ (⟨X, W, none⟩ : Addr).block from Nat.le_refl X) _
          · exact q8.elim (fun h => by omega) .inr
       · obtain rfl : W = 800 := by omega
         have x3 := hW.c3
         have z3 := hW.free 803
         by_cases hg0 : g = 0
         · subst hg0
           have HF := Lib.hid (And.intro hst (And.intro hW (And.intro hbx (And.intro hwf (And.intro hg1 (And.intro hnx (And.intro hle (And.intro hor2 hw8))))))))
           clear hst hW hbx hwf hg1 hnx hg hP hR hP64 hle hor hor2 hw8 hWc hwlt hz
           go_wp2_with fail
           go_roundg f
           case measure => exact Nat.lt_succ_self _
           case rel =>
            obtain ⟨q1, q2, q3, q4, q5, q6, q7, q8, q9⟩ := HF.out
            refine ⟨wc + 1, 800, D2, t2, rfl, ?_, by omega, ?_, q2, q3, by omega, by omega, ?_⟩
            · rw [show r + (wc + 1) + 1 = r + wc + 2 by omega, q6]
              congr 1
            · have := q1.skip q9
              rw [q5] at this
              simpa using this
            · exact q8.elim (fun h => by omega) .inr
         · have dg : decide ((0 : Int) < (g : Int)) = true := decide_eq_true (by omega)
           have dg' : decide (0 < g) = true := decide_eq_true (by omega)
           have HF := Lib.hid (And.intro hst (And.intro hW (And.intro hbx (And.intro hwf (And.intro hg1 (And.intro hnx (And.intro hle (And.intro hor2 (And.intro hw8 hg0)))))))))
           clear hst hW hbx hwf hg1 hnx hg hP hR hP64 hle hor hor2 hw8 hWc hwlt hz hg0
           go_wp2_with fail
           go_roundg f
           case measure => exact Nat.lt_succ_self _
           case rel =>
            obtain ⟨q1, q2, q3, q4, q5, q6, q7, q8, q9, q10⟩ := HF.out
            refine ⟨wc + 1, 800, D2, true, rfl, ?_, by omega, ?_, q2.set3 true, q3.setCell (show X ≤ (⟨X, 803, none⟩ : Addr).block from Nat.le_refl X) _, by omega, by omega, ?_⟩
            · rw [show r + (wc + 1) + 1 = r + wc + 2 by omega, q6]
              congr 1
            · have := q1.skip q9
              rw [q5, show (g != 0) = true by rw [bne_iff_ne]; exact q10, Bool.or_true] at this
              exact this
            · exact q8.elim (fun h => by omega) .inr
  | succ f =>
    have hlt : r + 1 + wd < nd := by omega
    obtain ⟨c, hc, hb, hcc⟩ := HN.out.digit hlt
    have hb1 : D1[r + 1 + wd]? = some (48 + c) := (hst.left _ (by omega)).trans hb
    have xb := hW.byte hb1
    obtain ⟨ob, hob⟩ : ∃ ob, D1[wd]? = some ob := ⟨_, List.getElem?_eq_getElem (by rw [hW.len]; omega)⟩
    have xo := hW.byte hob
    have zb := hW.free wd
    have d1 : decide (((r + 1 + wd : Nat) : Int) < (nd : Int)) = true := decide_eq_true (by omega)
    have d1' : decide (r + 1 + wd < nd) = true := decide_eq_true hlt
    have d1c : decide ((r : Int) + 1 + (wd : Int) < (nd : Int)) = true := decide_eq_true (by omega)
    have i0 : (0 : Int) ≤ ((r + 1 + wd : Nat) : Int) := by omega
    have i1 : ((r + 1 + wd : Nat) : Int) < 800 := by omega
    have j0 : (0 : Int) ≤ (wd : Int) := by omega
    have j1 : (wd : Int) < 800 := by omega
    obtain ⟨hg1, hg2⟩ := Fl.rs_digit N nd k r wd
    have hnx := Fl.rs_low (N := N) (nd := nd) (k := k) (t := r + wd) (c := c) (by omega) (by rw [hcc, show nd - 1 - (r + 1 + wd) = nd - 1 - (r + wd + 1) by omega])
    have hP64 := Fl.rs_fits (N := N) (nd := nd) (t := r + wd) hk2
    obtain ⟨P, hP⟩ : ∃ P, Fl.remN N nd k (r + wd + 1) = P := ⟨_, rfl⟩
    rw [hP] at hg1 hg2 hnx hP64 ⊢
    obtain ⟨g, hg⟩ : ∃ g, P / 2 ^ k = g := ⟨_, rfl⟩
    obtain ⟨R, hR⟩ : ∃ R, P % 2 ^ k = R := ⟨_, rfl⟩
    have hRlt : R < 1152921504606846976 := by rw [← hR]; exact Nat.lt_of_lt_of_le (Nat.mod_lt _ HQ.out.2) HQ.out.1
    rw [hg] at hg1 hg2
    rw [hR] at hnx
    have s1 : (P : Int) / (2 : Int) ^ k = (g : Int) := by rw [HC.out, ← hg]; exact (Int.natCast_ediv P (2 ^ k)).symm
    have s2 : bits .and .u64 (P : Int) (MK : Int) = (R : Int) := by
     rw [u64_and_nat P MK hP64 (by have := HM.out; have := HQ.out; omega), ← HM.out, Nat.and_two_pow_sub_one_eq_mod, hR]
    have s3 : IntKind.u64.wrap ((g : Int) + 48) = ((g + 48 : Nat) : Int) := by rw [IntKind.wrap_u64]; omega
    have s4 : IntKind.u8.wrap (((g + 48 : Nat) : Int)) = ((48 + g : Nat) : Int) := by rw [IntKind.wrap_u8]; omega
    have s5 : IntKind.i64.wrap ((wd : Int) + 1) = ((wd + 1 : Nat) : Int) := by have := IntWalk.i64_in ((wd : Int) + 1) (by omega); rw [this]; omega
    have s6 : IntKind.i64.wrap (((r + 1 + wd : Nat) : Int) + 1) = ((r + 1 + (wd + 1) : Nat) : Int) := by have := IntWalk.i64_in (((r + 1 + wd : Nat) : Int) + 1) (by omega); rw [this]; omega
    have s7 : IntKind.u64.wrap (((48 + c : Nat) : Int)) = ((48 + c : Nat) : Int) := by rw [IntKind.wrap_u64]; omega
    have s8 : IntKind.u64.wrap ((R : Int) * 10) = ((10 * R : Nat) : Int) := by rw [IntKind.wrap_u64]; omega
    have s9 : IntKind.u64.wrap (((10 * R : Nat) : Int) + ((48 + c : Nat) : Int)) = ((10 * R + (48 + c) : Nat) : Int) := by rw [IntKind.wrap_u64]; omega
    have s10 : IntKind.u64.wrap (((10 * R + (48 + c) : Nat) : Int) - 48) = ((10 * R + c : Nat) : Int) := by rw [IntKind.wrap_u64]; omega
    have HF := Lib.hid (And.intro hst (And.intro hW (And.intro hbx (And.intro hwf (And.intro hg1 (And.intro hnx (And.intro hg hc)))))))
    clear hst hW hbx hwf hg1 hnx hg hP hR hb hb1 hcc hlt hP64 hob
    go_wp2_with fail
    go_roundg f
    case measure => exact Nat.lt_succ_self _
    case rel =>
     obtain ⟨q1, q2, q3, q4, q5, q6, q7, q8⟩ := HF.out
     refine ⟨wd + 1, D1.set wd (48 + g), by congr 1, by congr 1, ?_, ?_, ?_, ?_, by omega⟩
     · rw [show r + (wd + 1) + 1 = r + wd + 2 by omega, q6]
       congr 1
       omega
     · have := q1.keep q2.len (by omega)
       rwa [q5] at this
     · rw [show ((g : Int) + 48) = ((48 + g : Nat) : Int) by omega]
       exact q2.setB (by omega) _
     · exact q3.setCell (show X ≤ (⟨X, wd, none⟩ : Addr).block from Nat.le_refl X) _
theorem rshift_any (X : Nat) (D : List Nat) (nd N k : Nat) (dp : Int) (ng tr : Bool) (hnum : Fl.IsNum D nd N) (hn : nd ≤ 800) (hk1 : 1 ≤ k) (hk2 : k ≤ 60) (hdp : -10000 ≤ dp) (hdp2 : dp ≤ 10000) (h0 : N % 10 ≠ 0) (w : World) (hX : DcAt w X D nd dp ng tr) :
 Calls Tryz.prog 220 #[.pointer (some ⟨X, 0, none⟩), .int .u64 (k : Int)] w (RsEnd X D N nd k dp ng tr w) := by
 have x0 := hX.c0
 have hQ60 : 2 ^ k ≤ 1152921504606846976 := Nat.le_trans (Nat.pow_le_pow_right (by decide) hk2) (by decide : 2 ^ 60 ≤ 1152921504606846976)
 have hQ1 : 0 < 2 ^ k := Nat.pow_pos (by decide)
 have hcast : ((2 : Int) ^ k) = ((2 ^ k : Nat) : Int) := by simp
 have HC := Lib.hid hcast
 have HQ := Lib.hid (And.intro hQ60 hQ1)
 have HN := Lib.hid hnum
 have HX := Lib.hid hX
 have H0 := Lib.hid h0
 have hNpos : 0 < N := Nat.pos_of_ne_zero fun e => h0 (by rw [e])
 have HNP := Lib.hid hNpos
 clear hcast hQ60 hQ1 hnum hX h0 hNpos
 go_enter Tryz.func220, Tryz.ntmps220
 go_upto_block 0 with fail
 go_cut [4, 6] (fun t4 t6 wx => ∃ r : Nat, t4 = .int .i64 ((r + 1 : Nat) : Int) ∧ t6 = .int .u64 ((Fl.preN N nd (r + 1) : Nat) : Int) ∧ Fl.preN N nd r < 2 ^ k ∧ 2 ^ k ≤ Fl.preN N nd (r + 1) ∧ r ≤ nd + 20 ∧ wx = w)
 case first =>
  go_wp2_with fail
  go_loopg [4, 6] nd (fun f t4 t6 wx => ∃ i : Nat, t4 = .int .i64 (i : Int) ∧ t6 = .int .u64 ((Fl.preN N nd i : Nat) : Int) ∧ i + f = nd ∧ (0 < i → Fl.preN N nd (i - 1) < 2 ^ k) ∧ wx = w)
  case atStart => exact ⟨0, rfl, by rw [Fl.pre_zero HN.out.1]; rfl, by omega, fun h => absurd h (Nat.lt_irrefl 0), rfl⟩
  case round =>
   obtain ⟨i, rfl, rfl, hif, hpr, rfl⟩ := hrel
   obtain ⟨P, hP⟩ : ∃ P, Fl.preN N nd i = P := ⟨_, rfl⟩
   rw [hP]
   obtain ⟨q, hq⟩ : ∃ q, P / 2 ^ k = q := ⟨_, rfl⟩
   have s1 : (P : Int) / (2 : Int) ^ k = (q : Int) := by rw [HC.out, ← hq]; exact (Int.natCast_ediv P (2 ^ k)).symm
   by_cases hz : P < 2 ^ k
   · have hq0 : q = 0 := by rw [← hq]; exact Nat.div_eq_of_lt hz
     subst hq0
     have hP60 : P < 1152921504606846976 := Nat.lt_of_lt_of_le hz HQ.out.1
     cases gk with
     | zero =>
       obtain rfl : i = nd := by omega
       have hPN : P = N := by rw [← hP, Fl.pre_all (Nat.le_refl _), Nat.sub_self, Nat.pow_zero, Nat.mul_one]
       have d1 : decide ((i : Int) ≤ (i : Int)) = true := decide_eq_true (Int.le_refl _)
       have d2 : ((P : Int) == 0) = false := by rw [beq_eq_false_iff_ne]; have := HNP.out; omega
       have d2' : (P == 0) = false := by rw [beq_eq_false_iff_ne]; have := HNP.out; omega
       have HZ := Lib.hid (And.intro hz (And.intro hPN hP))
       clear hif hpr hz hPN hP hP60 hq
       go_wp2_with fail
       go_loopg [4, 6] 20 (fun f t4 t6 wx => ∃ y : Nat, t4 = .int .i64 (y : Int) ∧ t6 = .int .u64 ((Fl.preN N i y : Nat) : Int) ∧ i ≤ y ∧ y + f = i + 20 ∧ (y = i ∨ Fl.preN N i (y - 1) < 2 ^ k) ∧ wx = wr)
       case atStart => exact ⟨i, rfl, by rw [HZ.out.2.2], Nat.le_refl _, rfl, .inl rfl, rfl⟩
       case round =>
        obtain ⟨y, rfl, rfl, hiy, hyf, hyp, rfl⟩ := hrel
        obtain ⟨T, hT⟩ : ∃ T, Fl.preN N i y = T := ⟨_, rfl⟩
        rw [hT]
        obtain ⟨q, hq⟩ : ∃ q, T / 2 ^ k = q := ⟨_, rfl⟩
        have s1 : (T : Int) / (2 : Int) ^ k = (q : Int) := by rw [HC.out, ← hq]; exact (Int.natCast_ediv T (2 ^ k)).symm
        by_cases hz : T < 2 ^ k
        · have hq0 : q = 0 := by rw [← hq]; exact Nat.div_eq_of_lt hz
          subst hq0
          have hT60 : T < 1152921504606846976 := Nat.lt_of_lt_of_le hz HQ.out.1
          have hgk : gk ≠ 0 := fun e => by
           have h1 : T = N * 10 ^ 20 := by rw [← hT, Fl.pre_all hiy, show y - i = 20 by omega]
           have h2 : 1 * 10 ^ 20 ≤ N * 10 ^ 20 := Nat.mul_le_mul_right _ HNP.out
           omega
          obtain ⟨f, rfl⟩ : ∃ f, gk = f + 1 := ⟨gk - 1, by omega⟩
          have hnx := Fl.pre_high (N := N) (n := i) (t := y) hiy
          have s2 : IntKind.u64.wrap ((T : Int) * 10) = ((10 * T : Nat) : Int) := by rw [IntKind.wrap_u64]; omega
          have s3 : IntKind.i64.wrap ((y : Int) + 1) = ((y + 1 : Nat) : Int) := by have := IntWalk.i64_in ((y : Int) + 1) (by omega); rw [this]; omega
          have HF := Lib.hid (And.intro hnx (And.intro hT (And.intro hz (And.intro hiy hyf))))
          clear hnx hT hz hiy hyf hyp hq hT60 hgk
          go_wp2_with fail
          go_roundg f
          case measure => exact Nat.lt_succ_self _
          case rel =>
           obtain ⟨q1, q2, q3, q4, q5⟩ := HF.out
           exact ⟨y + 1, by congr 1, by rw [q1, q2]; congr 1, by omega, by omega, .inr (by rw [Nat.add_sub_cancel, q2]; exact q3), rfl⟩
        · have hq1 : 0 < q := by rw [← hq]; exact Nat.div_pos (by omega) HQ.out.2
          have e1 : ((q : Int) == 0) = false := by rw [beq_eq_false_iff_ne]; omega
          have e1' : (q == 0) = false := by rw [beq_eq_false_iff_ne]; omega
          have HF := Lib.hid (And.intro hT (And.intro hz (And.intro hiy (And.intro hyf hyp))))
          clear hT hz hiy hyf hyp hq hq1
          go_wp2_with fail
          go_meet
          obtain ⟨q1, q2, q3, q4, q5⟩ := HF.out
          have hne : y ≠ i := fun e => by
           rw [e, HZ.out.2.2] at q1
           have := HZ.out.1
           omega
          have hy1 : y - 1 + 1 = y := by omega
          exact ⟨y - 1, by rw [hy1], by rw [hy1, q1], q5.resolve_left hne, by rw [hy1, q1]; omega, by omega, rfl⟩
     | succ f =>
       have hlt : i < nd := by omega
       obtain ⟨c, hc, hb, hcc⟩ := HN.out.digit hlt
       have xb := HX.out.byte hb
       have d1 : decide ((nd : Int) ≤ (i : Int)) = false := decide_eq_false (by omega)
       have d1' : decide (nd ≤ i) = false := decide_eq_false (by omega)
       have i0 : (0 : Int) ≤ (i : Int) := by omega
       have i1 : (i : Int) < 800 := by omega
       have hnx := Fl.rs_take (N := N) (nd := nd) (r := i) hlt hcc
       rw [hP] at hnx
       have s2 : IntKind.u64.wrap ((P : Int) * 10) = ((10 * P : Nat) : Int) := by rw [IntKind.wrap_u64]; omega
       have s3 : IntKind.i64.wrap ((i : Int) + 1) = ((i + 1 : Nat) : Int) := by have := IntWalk.i64_in ((i : Int) + 1) (by omega); rw [this]; omega
       have s7 : IntKind.u64.wrap (((48 + c : Nat) : Int)) = ((48 + c : Nat) : Int) := by rw [IntKind.wrap_u64]; omega
       have s9 : IntKind.u64.wrap (((10 * P : Nat) : Int) + ((48 + c : Nat) : Int)) = ((10 * P + (48 + c) : Nat) : Int) := by rw [IntKind.wrap_u64]; omega
       have s10 : IntKind.u64.wrap (((10 * P + (48 + c) : Nat) : Int) - 48) = ((10 * P + c : Nat) : Int) := by rw [IntKind.wrap_u64]; omega
       have HF := Lib.hid (And.intro hnx (And.intro hP (And.intro hz (And.intro hif hc))))
       clear hnx hP hz hif hpr hq hb hcc hlt hP60
       go_wp2_with fail
       go_roundg f
       case measure => exact Nat.lt_succ_self _
       case rel =>
        obtain ⟨q1, q2, q3, q4, q5⟩ := HF.out
        have hqq := HQ.out.1
        exact ⟨i + 1, by congr 1, by rw [← q1]; congr 1; rw [IntKind.wrap_u64, IntKind.wrap_u64]; omega, by omega, fun _ => (by rw [Nat.add_sub_cancel, q2]; exact q3), rfl⟩
   · have hq1 : 0 < q := by rw [← hq]; exact Nat.div_pos (by omega) HQ.out.2
     have e1 : ((q : Int) == 0) = false := by rw [beq_eq_false_iff_ne]; omega
     have e1' : (q == 0) = false := by rw [beq_eq_false_iff_ne]; omega
     have HF := Lib.hid (And.intro hP (And.intro hz (And.intro hif hpr)))
     clear hP hz hif hpr hq hq1
     go_wp2_with fail
     go_meet
     obtain ⟨q1, q2, q3, q4⟩ := HF.out
     have hi0 : i ≠ 0 := fun e => by
      rw [e, Fl.pre_zero HN.out.1] at q1
      have := HQ.out.2
      omega
     have hy1 : i - 1 + 1 = i := by omega
     exact ⟨i - 1, by rw [hy1], by rw [hy1, q1], q4 (by omega), by rw [hy1, q1]; omega, by omega, rfl⟩
 case rest =>
  obtain ⟨r, rfl, rfl, hr1, hr2, hr, rfl⟩ := hcut
  exact rs_tail X D nd N k r dp ng tr _ _ _ _ _ _ _ _ _ _ _ _ _ _ _ _ _ _ _ _ _ _ _ _ _ _ _ _ _ _ _ _ _ _ _ _ _ _ _ _ _ _ _ _ _ _ _ _ _ _ _ _ _ _ _ _ _ _ _ _ _ _ _ _ _ _ _ _ _ _ _ _ _ _ _ _ _ _ _ _ _ _ _ _ _ _ _ _ _ _ _ _ _ _ _ _ _ _ _ _ _ _ _ _ _ _ _ _ _ _ _ _ _ _ _ _ _ _ _ _ _ _ _ _ _ _ (by assumption) HN.out hn hk1 hk2 hdp hdp2 hr hr1 hr2 H0.out HX.out
end Go.Proofs.YtjapgpmoojfhnaaGreatDoor
