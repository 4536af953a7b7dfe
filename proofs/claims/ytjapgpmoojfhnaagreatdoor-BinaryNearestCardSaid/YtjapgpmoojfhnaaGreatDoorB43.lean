/- ref.Nearest: the rounding, and the end. -/
import Derived.Test.YtjapgpmoojfhnaaGreatDoorB42
set_option maxHeartbeats 16000000
set_option maxRecDepth 100000
set_option linter.unusedSimpArgs false
set_option linter.unusedVariables false
namespace Go.Proofs.YtjapgpmoojfhnaaGreatDoor
open Go.RowKit Go.Lib
theorem ne_five (g : Bool) (S : ByteArray) (E : Int) (u v X F P4 P5 P6 P7 P9 P10 P11 : Nat) (k : Int) (K : Nat) (w w0 : World) (u0 u13 u14 u15 u16 u17 u18 u19 u20 u21 u22 u23 u24 u25 u26 u27 u28 u29 u30 u31 u32 u33 u34 u35 u36 u37 u38 u39 u40 u41 u42 u43 u44 u45 u46 u47 u48 u49 u50 u51 u52 u53 u54 u55 u56 u57 u58 u59 u60 u61 u62 u63 u64 u65 u66 u67 u68 u69 u70 u71 u72 u73 u74 u75 u76 u77 u78 u79 u80 u81 u82 u83 u84 u85 u86 u87 u88 u89 u90 u91 u92 u93 u94 u95 u96 u97 u98 u99 u100 u101 u102 u103 u104 u105 u106 u107 u108 u109 u110 u111 u112 u113 u114 u115 u116 u117 u118 u119 u120 u121 u122 u123 u124 u125 u126 u127 u128 u129 u130 u131 u132 u133 u134 u135 u136 u137 u138 u139 u140 u141 u142 u143 u144 u145 u146 u147 u148 u149 u150 u151 u152 u153 u154 u155 u156 u157 u158 u159 u160 u161 u162 u163 u164 u165 u166 u167 : Value) {Q : Ending → World → Prop} {K0 : Act → World → Prop}
 (hK : ∀ a w', Code.wp Tryz.prog suf42e (bodyPost Tryz.prog Tryz.f42 Q) a w' → K0 a w')
 (hQ : ∀ x w', NeEnd g (Fl.shN u k) (Fl.shD v k) K X w x w' → Q x w')
 (hk : k = (K : Int) - 1074) (hK0 : -1400 ≤ k ∧ k ≤ 1400) (hq : Fl.shN u k / Fl.shD v k < 9007199254740992) (hlo : K = 0 ∨ 4503599627370496 ≤ Fl.shN u k / Fl.shD v k) (hu : 0 < u) (hv : 0 < v) (hT : 2 * Fl.shD v k < 10 ^ 2000) (h : NeC w X F P4 P5 P6 P7 P9 P10 P11 g S E u v k w0) :
 K0 ⟨#[u0, .pointer (some ⟨X, 0, none⟩), .pointer (some ⟨F, 0, none⟩), .bool false, .pointer (some ⟨P4, 0, none⟩), .pointer (some ⟨P5, 0, none⟩), .pointer (some ⟨P6, 0, none⟩), .pointer (some ⟨P7, 0, none⟩), .int .i64 k, .pointer (some ⟨P9, 0, none⟩), .pointer (some ⟨P10, 0, none⟩), .pointer (some ⟨P11, 0, none⟩), .int .u64 ((Fl.shN u k / Fl.shD v k : Nat) : Int), u13, u14, u15, u16, u17, u18, u19, u20, u21, u22, u23, u24, u25, u26, u27, u28, u29, u30, u31, u32, u33, u34, u35, u36, u37, u38, u39, u40, u41, u42, u43, u44, u45, u46, u47, u48, u49, u50, u51, u52, u53, u54, u55, u56, u57, u58, u59, u60, u61, u62, u63, u64, u65, u66, u67, u68, u69, u70, u71, u72, u73, u74, u75, u76, u77, u78, u79, u80, u81, u82, u83, u84, u85, u86, u87, u88, u89, u90, u91, u92, u93, u94, u95, u96, u97, u98, u99, u100, u101, u102, u103, u104, u105, u106, u107, u108, u109, u110, u111, u112, u113, u114, u115, u116, u117, u118, u119, u120, u121, u122, u123, u124, u125, u126, u127, u128, u129, u130, u131, u132, u133, u134, u135, u136, u137, u138, u139, u140, u141, u142, u143, u144, u145, u146, u147, u148, u149, u150, u151, u152, u153, u154, u155, u156, u157, u158, u159, u160, u161, u162, u163, u164, u165, u166, u167], []⟩ w0 := by
 refine hK _ _ ?_
 conv => arg 4; zeta
 conv => arg 2; whnf
 have hb0 := Fl.shD_pos hv k
 have ha0 : 0 < Fl.shN u k := by
  unfold Fl.shN
  split
  · exact hu
  · exact Nat.mul_pos hu (Nat.two_pow_pos _)
 obtain ⟨A10, n10, c10, hi10⟩ := h.i10
 obtain ⟨A11, n11, c11, hi11⟩ := h.i11
 have HH := Lib.hid h
 have hbd := at_block h.a.bd 0 _ rfl
 have hxf := h.a.xf
 have hf4 := h.o4
 have hlt10 := hi10.lt
 have ho10 : F < P10 := by have := h.o4; have := h.o5; have := h.o6; have := h.o7; have := h.o9; have := h.o10; omega
 clear h
 obtain ⟨a, ha⟩ : ∃ a, Fl.shN u k = a := ⟨_, rfl⟩
 obtain ⟨b, hb⟩ : ∃ b, Fl.shD v k = b := ⟨_, rfl⟩
 rw [ha, hb] at hq hlo hi10 ⊢
 rw [hb] at hT hb0 hi11
 rw [ha] at ha0
 have HAB := Lib.hid (And.intro ha hb)
 clear ha hb
 have hrb : a % b < b := Nat.mod_lt a hb0
 have hl10 : n10 ≤ 2000 := by rw [hi10.len]; exact few (Nat.le_of_lt hrb) (by omega)
 have hl11 : n11 ≤ 2000 := by rw [hi11.len]; exact few (Nat.le_refl b) (by omega)
 have AD := Lib.hid (fun W (hW : Below w0.heap.size w0 W) => add_ri A10 A10 n10 n10 c10 c10 (a % b) (a % b) W (hi10.rd.on hW) (hi10.rd.on hW) hl10 hl10)
 have CM := Lib.hid (fun W (hW : Below w0.heap.size w0 W) A5 m5 c5 (hr5 : Reads W W.heap.size A5 m5 (u8s (Fl.digL (a % b + a % b)))) => cmp88_ri A5 A11 m5 n11 c5 c11 (a % b + a % b) b W hr5 (hi11.rd.on hW) (by have e := hr5.1; rw [u8s_len] at e; rw [← e]; exact few (show a % b + a % b ≤ 2 * b by omega) hT) hl11)
 have H1 := Lib.hid hi11
 have H0 := Lib.hid hi10
 have q0 := hi10.c0
 have q1 := hi10.c1
 have r0 := hi11.c0
 have r1 := hi11.c1
 have HQ := Lib.hid (And.intro hk (And.intro hK0 (And.intro hq (And.intro hlo (And.intro ha0 (And.intro hb0 hxf))))))
 have HQQ := Lib.hid hQ
 clear hK hQ hk hK0 hq hlo hu hv hT hb0 ha0 hi10 hi11 hrb hl10 hl11 hxf hf4 hlt10 ho10 hbd
 go_upto_region 25 with fail
 go_cut [14] (fun t wx => t = .int .i64 (cmpN (a % b + a % b) b) ∧ Below w0.heap.size w0 wx)
 case first =>
  go_region_with (first
   | (go_at_call 89; refine (AD.out _ (by first | exact Below.refl _ _ | exact (Below.refl _ _).drew)).mono ?_; rintro y w5 ⟨⟨A5, m5, c5, hc5, ha5, hr5, rfl⟩, hb5⟩; have hb5' : Below w0.heap.size w0 w5 := (by first | exact hb5 | exact below_drew1 hb5); have i5 := H1.out.on hb5'; have y0 := i5.c0; have y1 := i5.c1)
   | (go_at_call 88; refine (CM.out _ (by first | exact hb5' | exact hb5'.drew) A5 m5 c5 (by first | exact hr5 | exact hr5.drew)).mono ?_; rintro y w6 ⟨rfl, hb6⟩; have hb6' : Below w0.heap.size w0 w6 := b_trans hb5' (by first | exact hb6 | exact below_drew1 hb6)))
  all_goals
   go_wp2_with fail
   go_meet
   exact ⟨rfl, by first | exact hb6' | exact hb6'.drew⟩
 case rest =>
  obtain ⟨rfl, hb1⟩ := hcut
  obtain ⟨wb, hwb⟩ : ∃ W, W = wc := ⟨_, rfl⟩
  subst hwb
  have HN := Lib.hid (HH.out.on hb1)
  obtain ⟨hk, hK0, hq, hlo, ha0, hb0, hxf⟩ := HQ.out
  obtain ⟨m, hm⟩ : ∃ m, Fl.rndQ a b = m := ⟨_, rfl⟩
  have hrn := hm
  unfold Fl.rndQ at hrn
  obtain ⟨q, hqq⟩ : ∃ q, a / b = q := ⟨_, rfl⟩
  obtain ⟨r, hrr⟩ : ∃ r, a % b = r := ⟨_, rfl⟩
  rw [hqq] at hrn hq hlo ⊢
  rw [hrr] at hrn ⊢
  have hmq : q ≤ m ∧ m ≤ q + 1 := by
   rw [← hrn]
   split <;> omega
  have hg1 : IntKind.u64.wrap ((q : Int) + 1) = ((q + 1 : Nat) : Int) := by rw [IntKind.wrap_u64]; omega
  have HM := Lib.hid (And.intro hm (And.intro hqq (And.intro hrr hmq)))
  have HL := Lib.hid (And.intro hk (And.intro hK0 (And.intro hq (And.intro hlo (And.intro ha0 (And.intro hb0 hxf))))))
  clear hb1 hk hK0 hq hlo ha0 hb0 hxf hm hqq hrr hmq q0 q1 r0 r1
  obtain ⟨cv, hcv⟩ : ∃ cv, cmpN (r + r) b = cv := ⟨_, rfl⟩
  rw [hcv]
  obtain ⟨up, hup⟩ : ∃ up, decide (q < m) = up := ⟨_, rfl⟩
  have HU := Lib.hid hup
  go_upto_region 26 with fail
  go_cut [140] (fun t wx => t = .bool up ∧ wx = wb)
  case first =>
   rcases Nat.lt_trichotomy (r + r) b with h | h | h
   · rw [cmpN_lt h] at hcv
     have c1 : decide (0 < cv) = false := decide_eq_false (by omega)
     have c2 : (cv == 0) = false := by rw [beq_eq_false_iff_ne]; omega
     rw [if_neg (by omega)] at hrn
     obtain rfl : up = false := by rw [← hup]; exact decide_eq_false (by omega)
     clear h hup hrn hcv
     go_wp2_with fail
     go_meet
     exact ⟨rfl, rfl⟩
   · rw [h, cmpN_eq] at hcv
     have c1 : decide (0 < cv) = false := decide_eq_false (by omega)
     have c2 : (cv == 0) = true := by rw [beq_iff_eq]; omega
     by_cases ho : q % 2 = 1
     · have d1 : (q : Int) % 2 = 1 := by omega
       have d2 : Int.tmod (q : Int) 2 = 1 := by rw [Int.tmod_eq_emod_of_nonneg (by omega)]; exact d1
       rw [if_pos (.inr ⟨by omega, ho⟩)] at hrn
       obtain rfl : up = true := by rw [← hup]; exact decide_eq_true (by omega)
       clear h ho hup hrn hcv
       go_wp2_with fail
       go_meet
       exact ⟨rfl, rfl⟩
     · have d1 : (q : Int) % 2 = 0 := by omega
       have d2 : Int.tmod (q : Int) 2 = 0 := by rw [Int.tmod_eq_emod_of_nonneg (by omega)]; exact d1
       rw [if_neg (by omega)] at hrn
       obtain rfl : up = false := by rw [← hup]; exact decide_eq_false (by omega)
       clear h ho hup hrn hcv
       go_wp2_with fail
       go_meet
       exact ⟨rfl, rfl⟩
   · rw [cmpN_gt h] at hcv
     have c1 : decide (0 < cv) = true := decide_eq_true (by omega)
     rw [if_pos (.inl (by omega))] at hrn
     obtain rfl : up = true := by rw [← hup]; exact decide_eq_true (by omega)
     clear h hup hrn hcv
     go_wp2_with fail
     go_meet
     exact ⟨rfl, rfl⟩
  case rest =>
  obtain ⟨rfl, hww⟩ := hcut
  obtain rfl := hww.symm
  clear hrn hcv
  go_upto_if 140 with fail
  go_cut [12] (fun t wx => t = .int .u64 (m : Int) ∧ wx = wb)
  case first =>
   cases up with
   | true =>
     have e1 : q + 1 = m := by have := of_decide_eq_true HU.out; have := HM.out.2.2.2; omega
     have E := Lib.hid e1
     clear hup e1
     go_wp2_with fail
     go_meet
     exact ⟨by rw [← E.out]; rfl, rfl⟩
   | false =>
     have e1 : q = m := by have := of_decide_eq_false HU.out; have := HM.out.2.2.2; omega
     have E := Lib.hid e1
     clear hup e1
     go_wp2_with fail
     go_meet
     exact ⟨by rw [E.out], rfl⟩
  case rest =>
   obtain ⟨rfl, hww⟩ := hcut
   obtain rfl := hww.symm
   clear hg1 hup
   have x0 := at_block HN.out.a.bd 0 _ rfl
   go_upto_region 28 with fail
   go_cut [15] (fun t wx => ∃ Z c' e', t = .pointer (some ⟨Z, 0, none⟩) ∧ wx.heap[Z]? = some (.cells #[.int .i64 0, .bool g, .int .u64 (c' : Nat), .int .i64 e'] 24 (0, 0)) ∧ NeC w X F P4 P5 P6 P7 P9 P10 P11 g S E u v k wx ∧ ((m = 0 ∧ c' = 0 ∧ e' = 0) ∨ (0 < m ∧ ∃ z : Nat, m = c' * 2 ^ z ∧ c' % 2 = 1 ∧ z < 64 ∧ e' = k + (z : Int))))
   case first =>
    by_cases hm0 : m = 0
    · subst hm0
      have OZ := Lib.hid (fun W => odd_zero g k W)
      go_wp2_with fail
      refine (OZ.out _).mono ?_
      rintro x w3 ⟨rfl, hb3⟩
      have HB3 := Lib.hid hb3
      clear hb3
      go_wp2_with fail
      go_meet
      exact ⟨w3.heap.size, 0, 0, rfl, heap_alloc_new w3 _, (HN.out.on HB3.out).on ((Below.refl _ _).alloc (Nat.le_refl _) _), .inl (by first | exact ⟨rfl, rfl, rfl⟩ | simp)⟩
    · have hm64 : m < 18446744073709551616 := by have := HL.out.2.2.1; have := HM.out.2.2.2; omega
      obtain ⟨c, z, hc, hz, hmc⟩ := ne_odd (by omega) hm64
      have OD := fun W => odd_wide g c z k W hc hz (by rw [← hmc]; exact hm64) (by have := HL.out.2.1; omega)
      rw [← hmc] at OD
      have OD := Lib.hid OD
      have HC := Lib.hid (And.intro hc (And.intro hz (And.intro hmc hm0)))
      clear hc hz hmc hm0 hm64
      go_wp2_with fail
      refine (OD.out _).mono ?_
      rintro x w3 ⟨rfl, hb3⟩
      have HB3 := Lib.hid hb3
      clear hb3
      go_wp2_with fail
      go_meet
      exact ⟨w3.heap.size, c, k + (z : Int), rfl, heap_alloc_new w3 _, (HN.out.on HB3.out).on ((Below.refl _ _).alloc (Nat.le_refl _) _), .inr ⟨by have := HC.out.2.2.2; omega, z, HC.out.2.2.1, HC.out.1, HC.out.2.1, rfl⟩⟩
   case rest =>
    obtain ⟨Z, c, e, rfl, hz, hN2, hcase⟩ := hcut
    obtain ⟨w2, hw2⟩ : ∃ W, W = wc := ⟨_, rfl⟩
    subst hw2
    obtain ⟨hk, hK0, hq, hlo, ha0, hb0, hxf⟩ := HL.out
    obtain ⟨hm, hqq, hrr, hmq⟩ := HM.out
    obtain ⟨A1, n1, c1, hi1⟩ := hN2.i10
    have hlen := hi1.len
    rw [HAB.out.1, HAB.out.2] at hlen
    have hKm : K = 0 ∨ 4503599627370496 ≤ m := by omega
    have hm53 : m ≤ 9007199254740992 := by omega
    obtain ⟨bl, hbl⟩ : ∃ bl, Lib.bitLen c = bl := ⟨_, rfl⟩
    obtain ⟨ov, hov⟩ : ∃ ov, decide (0 < c ∧ 1024 < e + (bl : Int)) = ov := ⟨_, rfl⟩
    have hc64 : c < 18446744073709551616 := by
     rcases hcase with ⟨_, h, _⟩ | ⟨_, z, h, _⟩
     · omega
     · have : c ≤ c * 2 ^ z := Nat.le_mul_of_pos_right _ (Nat.two_pow_pos z)
       omega
    have hover : 0 < m → (k + (Lib.bitLen m : Nat) ≤ 1024 ↔ K * 4503599627370496 + m < 9218868437227405312) := fun h => Fl.ref_over hk h hm53 hKm
    have hfin := Lib.hid (show (ov = true → NeRes g a b K (.returned (.tuple #[.agg #[.int .i64 1, .bool g, .int .u64 0, .int .i64 0], .bool false]))) ∧ (ov = false → NeRes g a b K (.returned (.tuple #[.agg #[.int .i64 0, .bool g, .int .u64 (c : Int), .int .i64 e], .bool ((n1 : Int) == 0)]))) from by
     rcases hcase with ⟨h0, hc0, he0⟩ | ⟨h0, z, hmc, hc1, hz64, he⟩
     · refine ⟨fun h => ?_, fun _ => ?_⟩
       · rw [← hov] at h
         have := of_decide_eq_true h
         omega
       · have hK00 : K = 0 := by omega
         have hz0 := NeRes.zero (g := g) (by rw [hm]; exact h0) hK00 ha0
         have hab : a % b ≠ 0 := fun h => by
          have h2 := Nat.div_add_mod a b
          rw [h, hqq, show q = 0 by omega, Nat.mul_zero] at h2
          omega
         have hn1 : ((n1 : Int) == 0) = false := by
          rw [beq_eq_false_iff_ne]
          have := (Fl.digL_facts hab).1
          omega
         rw [hn1, hc0, he0]
         exact hz0
     · have hbl2 : Lib.bitLen m = bl + z := by rw [← hbl, hmc]; exact Fl.bitLen_shift (by omega) z (by rw [← hmc]; omega)
       have ho := hover h0
       rw [hbl2] at ho
       refine ⟨fun h => ?_, fun h => ?_⟩
       · rw [← hov] at h
         have h3 := of_decide_eq_true h
         refine NeRes.inf (fun h4 => ?_)
         rw [hm] at h4
         have := ho.2 h4
         omega
       · rw [← hov] at h
         have h3 := of_decide_eq_false h
         have h4 : K * 4503599627370496 + m < 9218868437227405312 := ho.1 (by omega)
         obtain ⟨f1, f2⟩ := Fl.ref_fin hm53 hKm hmc hc1 h4
         rw [he]
         exact NeRes.fin (by rw [hm]; exact h0) (by rw [hm]; exact h4) (by rw [hm]; exact f1) (by rw [hm, f2, hk]) hlen)
    have hcase2 : c ≠ 0 → -2000 ≤ e ∧ e ≤ 2000 := fun h => by
     rcases hcase with ⟨_, h1, _⟩ | ⟨_, z, _, _, h2, h3⟩
     · exact absurd h1 h
     · omega
    have hbl64 : c ≠ 0 → bl ≤ 64 := fun h => by
     rw [← hbl]
     exact (Fl.bitLen_le (t := 64) (by omega) hc64).2 (Nat.lt_of_lt_of_le hc64 (by decide))
    have BL := fun W => bitlen_any c W hc64
    rw [hbl] at BL
    have BL := Lib.hid BL
    have b0 := at_block hz 0 _ rfl
    have b1 := at_block hz 1 _ rfl
    have b2 := at_block hz 2 _ rfl
    have b3 := at_block hz 3 _ rfl
    have HN2 := Lib.hid hN2
    have HZ := Lib.hid hz
    have HI := Lib.hid hi1
    have HOV := Lib.hid hov
    have HCC := Lib.hid (And.intro hcase2 hbl64)
    clear hz hN2 hi1 hlen hKm hm53 hbl hc64 hover hcase hcase2 hbl64 hov hk hK0 hq hlo ha0 hb0 hxf hm hqq hrr hmq x0
    go_upto_region 29 with fail
    go_cut [159] (fun t wx => t = .bool ov ∧ Below w2.heap.size w2 wx)
    case first =>
     by_cases hc0 : c = 0
     · subst hc0
       obtain rfl : ov = false := by rw [← HOV.out]; exact decide_eq_false (fun h => absurd h.1 (by decide))
       go_quiet (fail)
       rename_i nq _
       go_wp2_with fail
       go_meet
       exact ⟨rfl, below_drewN (Below.refl _ _) nq⟩
     · obtain ⟨hh1, hh2⟩ := HCC.out.1 hc0
       have hh3 := HCC.out.2 hc0
       have d1 : decide ((0 : Int) < (c : Int)) = true := decide_eq_true (by omega)
       have d2 : decide (0 < c) = true := decide_eq_true (by omega)
       have d3 : IntKind.i64.wrap (e + (bl : Int)) = e + (bl : Int) := IntWalk.i64_in _ (by omega)
       have d4 : decide (1024 < e + (bl : Int)) = ov := by
        rw [← HOV.out]
        exact decide_eq_decide.2 ⟨fun h => ⟨by omega, h⟩, fun h => h.2⟩
       clear hc0 hh1 hh2 hh3
       go_region_with (go_at_call 69; refine (BL.out _).mono ?_; rintro y w5 ⟨rfl, rfl⟩)
       all_goals
        go_wp2_with fail
        go_meet
        exact ⟨rfl, by first | exact Below.refl _ _ | exact (Below.refl _ _).drew⟩
    case rest =>
     obtain ⟨rfl, hb3⟩ := hcut
     obtain ⟨w3, hw3⟩ : ∃ W, W = wc := ⟨_, rfl⟩
     subst hw3
     have hN3 := HN2.out.on hb3
     have hz3 := (hb3.block Z (lt_of_block HZ.out)).trans HZ.out
     have hi3 := HI.out.on hb3
     clear b0 b1 b2 b3
     have b0 := at_block hz3 0 _ rfl
     have b1 := at_block hz3 1 _ rfl
     have b2 := at_block hz3 2 _ rfl
     have b3 := at_block hz3 3 _ rfl
     have x0 := at_block hN3.a.bd 0 _ rfl
     have y0 := at_block hN3.a.bf 0 _ rfl
     have y1 := at_block hN3.a.bf 1 _ rfl
     have y2 := at_block hN3.a.bf 2 _ rfl
     have y3 := at_block hN3.a.bf 3 _ rfl
     have f0 := free_block hN3.a.bf 0
     have f1 := free_block hN3.a.bf 1
     have f2 := free_block hN3.a.bf 2
     have f3 := free_block hN3.a.bf 3
     have z1 := hi3.c1
     have HBF := Lib.hid (fun v0 v1 v2 v3 => below_four hN3.a.bel (Nat.le_of_lt hN3.a.xf) v0 v1 v2 v3)
     have hneF : ¬ P10 = F := by have := hN3.o4; have := hN3.o5; have := hN3.o6; have := hN3.o7; have := hN3.o9; have := hN3.o10; omega
     clear hN3 hz3 hi3 hb3
     cases ov with
     | true =>
       go_wp2_with fail
       refine bodyPost_ret (v := .tuple #[.agg #[.int .i64 1, .bool g, .int .u64 0, .int .i64 0], .bool false]) (by simp [results, Tryz.results42, go_sem, y0, y1, y2, y3]) rfl ?_
       refine HQQ.out _ _ ⟨?_, HBF.out _ _ _ _⟩
       rw [HAB.out.1, HAB.out.2]
       exact hfin.out.1 (by first | rfl | trivial)
     | false =>
       go_upto_region 31 with fail
       go_region_with (fail)
       all_goals
        go_wp2_with fail
        refine bodyPost_ret (v := .tuple #[.agg #[.int .i64 0, .bool g, .int .u64 (c : Int), .int .i64 e], .bool ((n1 : Int) == 0)]) (by simp [results, Tryz.results42, go_sem, y0, y1, y2, y3]) rfl ?_
        refine HQQ.out _ _ ⟨?_, by first | exact HBF.out _ _ _ _ | exact (HBF.out _ _ _ _).drew⟩
        rw [HAB.out.1, HAB.out.2]
        exact hfin.out.2 (by first | rfl | trivial)
end Go.Proofs.YtjapgpmoojfhnaaGreatDoor
