/- Bits of every canonical text, at the three formats; at another size. FromBits at the format half. FromBits at the format single. FromBits at the format double. awake: the examples of the chapter. parse at strings that are no canonical texts. What the functions answer at strings that are no canonical texts; Parts at those that are. The reference's Valid and number: canonical integers. -/
import Derived.Test.YtjapgpmoojfhnaaGreatDoorB17
import Derived.Lib.AtoiAllCases
set_option maxHeartbeats 16000000
set_option maxRecDepth 100000
set_option linter.unusedSimpArgs false
set_option linter.unusedVariables false
namespace Go.Proofs.YtjapgpmoojfhnaaGreatDoor
open Go.RowKit Go.Lib
def Fl.bitsR (f : Ieee.Format) (b : Nat) : Nat × Bool :=
 if 9218868437227405312 < b % 9223372036854775808 then (f.infRung + f.binade / 2, true) else
 if b % 9223372036854775808 = 9218868437227405312 then ((if 9223372036854775808 ≤ b then f.signWeight else 0) + f.infRung, true) else
 if b % 9223372036854775808 = 0 then ((if 9223372036854775808 ≤ b then f.signWeight else 0), true) else
 ((if 9223372036854775808 ≤ b then f.signWeight else 0) + f.nearest false (Fl.om (b % 9223372036854775808)) (Fl.oe (b % 9223372036854775808)), Fl.exP f (Fl.om (b % 9223372036854775808)) (Fl.oe (b % 9223372036854775808)))
theorem binbits_nan16 (b : Nat) (hn : 9218868437227405312 < b % 9223372036854775808) (w : World) (hL : Laid w) :
 Calls Tryz.prog 27 #[.string ⟨(Fl.txt b).toArray⟩, .int .i64 16] w fun x w' => x = .returned (.tuple #[.int .u64 32256, .bool true, .int .i64 0]) ∧ Below w.heap.size w w' := by
 have ht : Fl.txt b = [110, 97, 110] := by unfold Fl.txt; rw [if_pos hn]
 have PA := Lib.hid (fun W => parse_nan W)
 have OF := Lib.hid (fun W hW => of_16 W hW)
 have o1 : (FloatKind.f64.format.order 9221120237041090561 9221120237041090561 != some Ordering.eq) = true := by rw [ord_self (by decide)]; decide
 have q1 : bits .or .u64 31744 512 = (32256 : Int) := by decide
 have HL := Lib.hid hL
 rw [ht]
 clear hL hn ht
 go_enter Tryz.func27, Tryz.ntmps27
 go_wp2_with fail
 refine (PA.out _).mono ?_
 rintro x w1 ⟨rfl, hb1⟩
 go_wp2_with fail
 have hL1 := HL.out.on hb1
 refine (OF.out _ hL1).mono ?_
 rintro x w2 ⟨rfl, hb2⟩
 go_upto_region 5 with fail
 obtain ⟨w3, Y, hw3, hY, hb3, hcells⟩ := box_three 16 11 (-24) w2
 rw [hw3, hY]
 have hc12 := hb1.trans (hb2.mono hb1.size)
 have hc13 := hc12.trans (hb3.mono hc12.size)
 obtain ⟨x0, x1, x2, hd3⟩ := hcells w3 (Below.refl _ _)
 clear hcells hw3 hY hb1 hb2 hb3 hc12 hL1 hd3
 have HB3 := Lib.hid hc13
 clear hc13
 go_wp2_with fail
 refine bodyPost_ret (v := .tuple #[.int .u64 32256, .bool true, .int .i64 0]) (by simp [results, Tryz.results27, go_sem]) rfl ?_
 exact ⟨rfl, HB3.out⟩
theorem binbits_spec16 (b : Nat) (hb : b < 18446744073709551616) (hn : b % 9223372036854775808 = 0 ∨ b % 9223372036854775808 = 9218868437227405312) (w : World) (hL : Laid w) :
 Calls Tryz.prog 27 #[.string ⟨(Fl.txt b).toArray⟩, .int .i64 16] w fun x w' => x = .returned (.tuple #[.int .u64 (((if 9223372036854775808 ≤ b then 32768 else 0) + (if b % 9223372036854775808 = 0 then 0 else 31744) : Nat) : Int), .bool true, .int .i64 0]) ∧ Below w.heap.size w w' := by
 have hcan : Fl.canonW b = b := canon_self (by omega)
 have PA := fun W hW => parse_txt b hb W hW
 rw [hcan] at PA
 have PA := Lib.hid PA
 have OF := Lib.hid (fun W hW => of_16 W hW)
 have SB := Lib.hid (fun W => signbit_any b W hb)
 have II := Lib.hid (fun W => isinf_any b W hb)
 have o1 := ord_self hb
 rw [decide_eq_false (by omega)] at o1
 have o2 : (FloatKind.f64.format.order b 0 == some Ordering.eq) = decide (b % 9223372036854775808 = 0) := by
  rcases hn with h | h
  · exact ord_zero hb (by omega)
  · show (Ieee.Datum.order (Ieee.double.read b) (Ieee.double.read 0) == some Ordering.eq) = _
    rw [decide_eq_false (by omega), read_inf' hb h, read_num 0 (by decide)]
    cases decide (9223372036854775808 ≤ b) <;> rfl
 obtain ⟨sb, hsb⟩ : ∃ sb, decide (9223372036854775808 ≤ b) = sb := ⟨_, rfl⟩
 obtain ⟨sg, hsg⟩ : ∃ sg : Nat, (if 9223372036854775808 ≤ b then 32768 else 0) = sg := ⟨_, rfl⟩
 obtain ⟨zb, hzb⟩ : ∃ zb, decide (b % 9223372036854775808 = 0) = zb := ⟨_, rfl⟩
 obtain ⟨ad, had⟩ : ∃ ad : Nat, (if b % 9223372036854775808 = 0 then 0 else 31744) = ad := ⟨_, rfl⟩
 rw [hsb] at SB
 rw [hsg, had]
 rw [hzb] at o2
 have hii : (b % 9223372036854775808 == 9218868437227405312) = !zb := by
  rw [← hzb]
  rcases hn with h | h
  · rw [h]; decide
  · rw [h]; decide
 rw [hii] at II
 have HSG := Lib.hid (show (sb = true → sg = 32768) ∧ (sb = false → sg = 0) by
  rw [← hsb, ← hsg]
  by_cases h : 9223372036854775808 ≤ b
  · rw [if_pos h, decide_eq_true h]; exact ⟨fun _ => rfl, fun h => (nomatch h)⟩
  · rw [if_neg h, decide_eq_false h]; exact ⟨fun h => (nomatch h), fun _ => rfl⟩)
 have HZB := Lib.hid (show (zb = true → ad = 0) ∧ (zb = false → ad = 31744) by
  rw [← hzb, ← had]
  by_cases h : b % 9223372036854775808 = 0
  · rw [if_pos h, decide_eq_true h]; exact ⟨fun _ => rfl, fun h => (nomatch h)⟩
  · rw [if_neg h, decide_eq_false h]; exact ⟨fun h => (nomatch h), fun _ => rfl⟩)
 have hsgc : sg = 0 ∨ sg = 32768 := by rw [← hsg]; split <;> omega
 have o5 : bits .or .u64 (sg : Int) 31744 = ((sg + 31744 : Nat) : Int) := or_sign sg 31744 15 (by decide) (by decide) hsgc
 obtain ⟨Y2, hY2⟩ : ∃ Y2, sg + 31744 = Y2 := ⟨_, rfl⟩
 rw [hY2] at o5
 have HY2 := Lib.hid hY2
 have HL := Lib.hid hL
 clear hcan hb hn hL hsb hsg hzb had hii hsgc hY2
 go_enter Tryz.func27, Tryz.ntmps27
 go_wp2_with fail
 refine (PA.out _ HL.out).mono ?_
 rintro x w1 ⟨rfl, hb1⟩
 go_wp2_with fail
 have hL1 := HL.out.on hb1
 refine (OF.out _ hL1).mono ?_
 rintro x w2 ⟨rfl, hb2⟩
 go_upto_region 5 with fail
 obtain ⟨w3, Y, hw3, hY, hb3, hcells⟩ := box_three 16 11 (-24) w2
 rw [hw3, hY]
 have hc12 := hb1.trans (hb2.mono hb1.size)
 have hc13 := hc12.trans (hb3.mono hc12.size)
 obtain ⟨x0, x1, x2, hd3⟩ := hcells w3 (Below.refl _ _)
 clear hcells hw3 hY hb1 hb2 hb3 hc12 hL1 hd3
 have HB3 := Lib.hid hc13
 clear hc13
 go_wp2_with fail
 refine (SB.out _).mono ?_
 rintro x w4 ⟨rfl, rfl⟩
 go_upto_if 52 with fail
 go_cut [12] (fun s wx => s = .int .u64 (sg : Int) ∧ wx = w4)
 case first =>
  cases sb with
  | true =>
    have E := Lib.hid (HSG.out.1 rfl)
    go_wp2_with fail
    go_meet
    exact ⟨by rw [E.out]; rfl, rfl⟩
  | false =>
    have E := Lib.hid (HSG.out.2 rfl)
    go_wp2_with fail
    go_meet
    exact ⟨by rw [E.out]; rfl, rfl⟩
 case rest =>
  obtain ⟨rfl, hw⟩ := hcut
  subst hw
  obtain ⟨w3, hw3⟩ : ∃ W, W = wc := ⟨_, rfl⟩
  subst hw3
  cases zb with
  | true =>
    have E := Lib.hid (HZB.out.1 rfl)
    go_wp2_with fail
    refine bodyPost_ret (v := .tuple #[.int .u64 (sg : Int), .bool true, .int .i64 0]) (by simp [results, Tryz.results27, go_sem]) rfl ?_
    exact ⟨by rw [E.out]; simp, HB3.out⟩
  | false =>
    have E := Lib.hid (HZB.out.2 rfl)
    go_wp2_with fail
    refine (II.out _).mono ?_
    rintro x w5 ⟨rfl, rfl⟩
    go_wp2_with fail
    refine bodyPost_ret (v := .tuple #[.int .u64 (Y2 : Int), .bool true, .int .i64 0]) (by simp [results, Tryz.results27, go_sem]) rfl ?_
    exact ⟨by rw [E.out, HY2.out], HB3.out⟩
theorem binbits_any16 (b : Nat) (hb : b < 18446744073709551616) (w : World) (hL : Laid w) :
 Calls Tryz.prog 27 #[.string ⟨(Fl.txt b).toArray⟩, .int .i64 16] w fun x w' => x = .returned (.tuple #[.int .u64 ((Fl.bitsR Fl.half b).1 : Int), .bool (Fl.bitsR Fl.half b).2, .int .i64 0]) ∧ Below w.heap.size w w' := by
 obtain ⟨d1, d2, d3, d4, d5⟩ := Fl.half_is
 unfold Fl.bitsR
 rw [d1, d2, d5]
 by_cases h1 : 9218868437227405312 < b % 9223372036854775808
 · rw [if_pos h1]
   exact binbits_nan16 b h1 w hL
 · rw [if_neg h1]
   by_cases h2 : b % 9223372036854775808 = 9218868437227405312
   · rw [if_pos h2]
     have h := binbits_spec16 b hb (.inr h2) w hL
     rw [if_neg (show ¬ b % 9223372036854775808 = 0 by omega)] at h
     exact h
   · rw [if_neg h2]
     by_cases h3 : b % 9223372036854775808 = 0
     · rw [if_pos h3]
       have h := binbits_spec16 b hb (.inl h3) w hL
       rw [if_pos h3, Nat.add_zero] at h
       exact h
     · rw [if_neg h3]
       exact binbits16 b hb w (by omega) (by omega) hL
theorem frombits64 (b : Nat) (hb : b < 18446744073709551616) (w : World) (hL : Laid w) :
 Calls Tryz.prog 25 #[.int .u64 (b : Int), .int .i64 64] w fun x w' => x = .returned (.tuple #[.string ⟨(Fl.txt (Fl.wideW Ieee.double b)).toArray⟩, .int .i64 0]) ∧ Below w.heap.size w w' := by
 have OF := Lib.hid (fun W hW => of_64 W hW)
 obtain ⟨d1, d2, d3, d4, d5⟩ := Fl.double_is
 have hfm : Fl.Fmt Ieee.double := by unfold Fl.Fmt; simp
 obtain ⟨v1, v2, v3⟩ := Fl.wideW_mod hfm b
 obtain ⟨F, hF⟩ : ∃ F, b % 4503599627370496 = F := ⟨_, rfl⟩
 obtain ⟨Q, hQ⟩ : ∃ Q, b / 4503599627370496 = Q := ⟨_, rfl⟩
 obtain ⟨E, hE⟩ : ∃ E, Q % 2048 = E := ⟨_, rfl⟩
 obtain ⟨r, hr⟩ : ∃ r, b % 9223372036854775808 = r := ⟨_, rfl⟩
 obtain ⟨sb, hsb⟩ : ∃ sb, decide (9223372036854775808 ≤ b) = sb := ⟨_, rfl⟩
 obtain ⟨S, hS⟩ : ∃ S, b / 9223372036854775808 = S := ⟨_, rfl⟩
 rw [d5, hr] at v1
 rw [d5] at v2
 obtain ⟨W0, hW0⟩ : ∃ W0, Fl.wideW Ieee.double b = W0 := ⟨_, rfl⟩
 rw [hW0] at v1 v2 v3 ⊢
 have g1 : bits .and .u64 (b : Int) 4503599627370495 = (F : Int) := by
  have h1 := u64_and_nat b 4503599627370495 (by omega) (by decide)
  have e : b &&& 4503599627370495 = b % 4503599627370496 := Nat.and_two_pow_sub_one_eq_mod b 52
  rw [e, hF] at h1
  exact h1
 have g2 : (b : Int) / 4503599627370496 = (Q : Int) := by omega
 have g3 : bits .and .u64 (Q : Int) 2047 = (E : Int) := by
  have h1 := u64_and_nat Q 2047 (by omega) (by decide)
  have e : Q &&& 2047 = Q % 2048 := Nat.and_two_pow_sub_one_eq_mod Q 11
  rw [e, hE] at h1
  exact h1
 have g4 : ((S : Int) == 1) = sb := by
  rw [← hsb]
  by_cases h : 9223372036854775808 ≤ b
  · rw [decide_eq_true h, beq_iff_eq]; omega
  · rw [decide_eq_false h, beq_eq_false_iff_ne]; omega
 have g5 : (b : Int) / 9223372036854775808 = (S : Int) := by omega
 have hrE : r = E * 4503599627370496 + F := by omega
 have hFb : F < 4503599627370496 := by omega
 have hEb : E < 2048 := by omega
 have HL := Lib.hid hL
 by_cases hnan : 9218868437227405312 < r
 · have ht : Fl.txt W0 = [110, 97, 110] := by
    unfold Fl.txt
    rw [if_pos (by rw [v1, Fl.wide_nan (by rw [d1]; exact hnan)]; decide)]
   rw [ht]
   have k1 : ((E : Int) == 2047) = true := by rw [beq_iff_eq]; omega
   have k2 : ((F : Int) != 0) = true := by rw [bne_iff_ne]; omega
   have k3 : ((F : Int) == 0) = false := by rw [beq_eq_false_iff_ne]; omega
   have hEe : E = 2047 := by omega
   subst hEe
   clear hL d1 d2 d3 d4 d5 hfm v1 v2 v3 hF hQ hE hr hsb hS hW0 hrE hFb hEb hnan ht hb
   go_enter Tryz.func25, Tryz.ntmps25
   go_wp2_with fail
   refine (OF.out _ HL.out).mono ?_
   rintro x w2 ⟨rfl, hb2⟩
   go_upto_region 2 with fail
   obtain ⟨w3, Y, hw3, hY, hb3, hcells⟩ := box_three 64 53 (-1074) w2
   rw [hw3, hY]
   have hc13 := hb2.trans (hb3.mono hb2.size)
   obtain ⟨x0, x1, x2, hd3⟩ := hcells w3 (Below.refl _ _)
   clear hcells hw3 hY hb2 hb3 hd3
   have HB3 := Lib.hid hc13
   clear hc13
   go_wp2_with fail
   go_quiet (fail)
   go_wp2_with fail
   go_ret2
   exact ⟨rfl, below_drewN HB3.out _⟩
 · obtain ⟨R, hR⟩ : ∃ R, Fl.wide Ieee.double r = R := ⟨_, rfl⟩
   have hRW : W0 = R + (if sb = true then 9223372036854775808 else 0) := by
    rw [← hW0, ← hR, ← hr, ← d5, ← hsb]
    unfold Fl.wideW
    rw [d5]
    simp
   have hR63 : R < 9223372036854775808 := by rw [← hR]; exact Fl.wide_lt hfm r
   have TX := Lib.hid (fun W hW => text_any W0 v3 W hW)
   have CS := fun W => copysign_any R 13830554455654793216 W (by omega) (by decide)
   rw [Nat.mod_eq_of_lt hR63, show 13830554455654793216 / 9223372036854775808 * 9223372036854775808 = 9223372036854775808 by decide] at CS
   have IN := Lib.hid (fun W => inf_any 1 W (by decide))
   have CS := Lib.hid CS
   have HRW := Lib.hid hRW
   have HX := Lib.hid (And.intro hrE (And.intro hFb (And.intro hEb (And.intro hnan (And.intro hR (And.intro d1 (And.intro d2 (And.intro d3 (And.intro d4 hfm)))))))))
   clear hL d1 d2 d3 d4 d5 hfm v1 v2 v3 hF hQ hE hr hsb hS hW0 hrE hFb hEb hnan hb hR hRW hR63
   go_enter Tryz.func25, Tryz.ntmps25
   go_wp2_with fail
   refine (OF.out _ HL.out).mono ?_
   rintro x w2 ⟨rfl, hb2⟩
   go_upto_region 2 with fail
   obtain ⟨w3, Y, hw3, hY, hb3, hcells⟩ := box_three 64 53 (-1074) w2
   rw [hw3, hY]
   have hc13 := hb2.trans (hb3.mono hb2.size)
   have hL3 := (HL.out.on hb2).on hb3
   obtain ⟨x0, x1, x2, hd3⟩ := hcells w3 (Below.refl _ _)
   have HC := Lib.hid hcells
   clear hcells hw3 hY hb2 hb3
   have HB3 := Lib.hid hc13
   have HL3 := Lib.hid hL3
   clear hc13 hL3
   go_wp2_with fail
   go_quiet (fail)
   obtain ⟨wq, hwq⟩ : ∃ wq, w3.drewN nq = wq := ⟨_, rfl⟩
   obtain ⟨y0, y1, y2, hdq⟩ := HC.out wq (by rw [← hwq]; exact below_drewN hd3 _)
   have HBq := Lib.hid (show Below w.heap.size w wq by rw [← hwq]; exact below_drewN HB3.out _)
   have HLq := Lib.hid (show Laid wq by rw [← hwq]; exact HL3.out.on (below_drewN (Below.refl _ _) _))
   rw [hwq]
   clear hwq x0 x1 x2 hd3
   go_upto_block 0 with fail
   go_cut [12] (fun s wx => s = .float .f64 R ∧ Below wq.heap.size wq wx)
   case first =>
    obtain ⟨hrE, hFb, hEb, hnan, hR, d1, d2, d3, d4, hfm⟩ := HX.out
    by_cases hi : E = 2047
    · have hF0 : F = 0 := by omega
      have hRv : R = 9218868437227405312 := by rw [← hR, show r = Ieee.Format.infRung Ieee.double by rw [d1]; omega]; exact Fl.wide_inf
      subst hi
      subst hF0
      have HRV := Lib.hid hRv
      clear hrE hFb hEb hnan hR d1 d2 d3 d4 hfm hRv
      go_wp2_with fail
      refine (IN.out _).mono ?_
      rintro x w4 ⟨rfl, rfl⟩
      go_wp2_with fail
      go_meet
      exact ⟨by rw [HRV.out], Below.refl _ _⟩
    · have k1 : ((E : Int) == 2047) = false := by rw [beq_eq_false_iff_ne]; omega
      by_cases h0 : E = 0
      · by_cases hF0 : F = 0
        · have hRv : R = 0 := by rw [← hR, show r = 0 by omega]; exact Fl.wide_zero hfm
          subst h0
          subst hF0
          have HRV := Lib.hid hRv
          have LZ := Lib.hid (fun W => ldexp_zero (-1074) W)
          have cv : floatOfInt FloatKind.f64 0 = 0 := by decide
          clear hrE hFb hEb hnan hR d1 d2 d3 d4 hfm hRv hi
          go_wp2_with fail
          refine (LZ.out _).mono ?_
          rintro x w4 ⟨rfl, rfl⟩
          go_wp2_with fail
          go_meet
          exact ⟨by rw [HRV.out], Below.refl _ _⟩
        · have hrF : r = F := by omega
          obtain ⟨s1, s2, s3⟩ := Fl.wide_is hfm (r := r) (by omega) (by rw [d1]; omega)
          rw [hR] at s1 s2 s3
          have e1 : Fl.rmag Ieee.double r = F := by unfold Fl.rmag; rw [d2, if_pos (by omega)]; exact hrF
          have e2 : Fl.rplace Ieee.double r = -1074 := by unfold Fl.rplace; rw [d2, if_pos (by omega), d3]
          rw [e1, e2] at s3
          have LD := fun W => ldexp_any F (-1074) R W (by omega) (by omega) (by omega) s1 s2 s3
          have cv := cvt_nat F (by omega) (by omega)
          obtain ⟨f0, hf0⟩ : ∃ f0, Fl.wordN F = f0 := ⟨_, rfl⟩
          rw [hf0] at cv LD
          have LD := Lib.hid LD
          subst h0
          clear hrE hFb hEb hnan hR d1 d2 d3 d4 hfm hi hrF s1 s2 s3 e1 e2 hf0 hF0
          go_wp2_with fail
          refine (LD.out _).mono ?_
          rintro x w4 ⟨rfl, rfl⟩
          go_wp2_with fail
          go_meet
          exact ⟨rfl, Below.refl _ _⟩
      · have k2 : ((E : Int) == 0) = false := by rw [beq_eq_false_iff_ne]; omega
        obtain ⟨M, hM⟩ : ∃ M, 4503599627370496 + F = M := ⟨_, rfl⟩
        obtain ⟨p, hp⟩ : ∃ p : Int, -1074 + (E : Int) - 1 = p := ⟨_, rfl⟩
        obtain ⟨s1, s2, s3⟩ := Fl.wide_is hfm (r := r) (by omega) (by rw [d1]; omega)
        rw [hR] at s1 s2 s3
        have hdiv : r / 4503599627370496 = E := by omega
        have hmod : r % 4503599627370496 = F := by omega
        have e1 : Fl.rmag Ieee.double r = M := by unfold Fl.rmag; rw [d2, if_neg (by omega), hmod]; exact hM
        have e2 : Fl.rplace Ieee.double r = p := by unfold Fl.rplace; rw [d2, if_neg (by omega), d3, hdiv]; omega
        rw [e1, e2] at s3
        have LD := fun W => ldexp_any M p R W (by omega) (by omega) (by omega) s1 s2 s3
        have cv := cvt_nat M (by omega) (by omega)
        obtain ⟨f0, hf0⟩ : ∃ f0, Fl.wordN M = f0 := ⟨_, rfl⟩
        rw [hf0] at cv LD
        have LD := Lib.hid LD
        have q1 : bits .or .u64 (F : Int) 4503599627370496 = (M : Int) := by rw [← hM]; exact or_bit F 52 (by decide) (by omega)
        have q1b : bits .or .u64 (F : Int) (IntKind.u64.wrap 4503599627370496) = (M : Int) := q1
        have q2 : IntKind.i64.wrap (E : Int) = (E : Int) := IntWalk.i64_in _ (by omega)
        have q3 : IntKind.i64.wrap (-1074 + (E : Int)) = -1074 + (E : Int) := IntWalk.i64_in _ (by omega)
        have q4 : IntKind.i64.wrap (-1074 + (E : Int) - 1) = p := by rw [hp]; exact IntWalk.i64_in _ (by omega)
        clear hrE hFb hEb hnan hR d1 d2 d3 d4 hfm hi hdiv hmod hM hp s1 s2 s3 e1 e2 hf0 h0
        go_wp2_with fail
        go_region_held3 (fun W => W.cell? ⟨Y, 0, none⟩ = some (.int .i64 64) ∧ W.cell? ⟨Y, 1, none⟩ = some (.int .i64 53) ∧ W.cell? ⟨Y, 2, none⟩ = some (.int .i64 (-1074)) ∧ Below w3.heap.size w3 W)
         ((refine HC.out _ ?_; first | assumption | exact b_drew hdq | exact b_drew (by assumption)))
         (first | (go_at_call 63; refine (LD.out _).mono ?_; rintro x w4 ⟨rfl, rfl⟩))
        go_wp2_with fail
        go_meet
        exact ⟨rfl, b_drew (Below.refl _ _)⟩
   case rest =>
    obtain ⟨rfl, hbx⟩ := hcut
    have hLx := HLq.out.on hbx
    have hbE := HBq.out.trans (hbx.mono HBq.out.size)
    have HBE := Lib.hid hbE
    have HLE := Lib.hid hLx
    clear hbE hLx hbx y0 y1 y2 hdq
    cases sb with
    | true =>
      have e : W0 = R + 9223372036854775808 := by rw [HRW.out, if_pos rfl]
      rw [← e] at CS
      clear e
      go_wp2_with fail
      refine (CS.out _).mono ?_
      rintro x w4 ⟨rfl, rfl⟩
      go_wp2_with fail
      refine (TX.out _ HLE.out).mono ?_
      rintro x w5 ⟨rfl, hb5⟩
      go_wp2_with fail
      go_ret2
      exact ⟨rfl, HBE.out.trans (hb5.mono HBE.out.size)⟩
    | false =>
      have e : W0 = R := by rw [HRW.out, if_neg (by simp)]; rfl
      subst e
      go_wp2_with fail
      refine (TX.out _ HLE.out).mono ?_
      rintro x w5 ⟨rfl, hb5⟩
      go_wp2_with fail
      go_ret2
      exact ⟨rfl, HBE.out.trans (hb5.mono HBE.out.size)⟩
theorem wideW_double {b : Nat} (hb : b < 18446744073709551616) (h : b % 9223372036854775808 ≤ 9218868437227405312) : Fl.wideW Ieee.double b = b := by
 unfold Fl.wideW
 rw [Fl.double_is.2.2.2.2, Fl.wide_double h]
 split <;> omega
theorem awake_any (w : World) (hL : Laid w) : Calls Tryz.prog 16 #[] w fun x w' => x = .returned (.bool true) ∧ Below w.heap.size w w' := by
 have FB : ∀ W, Laid W → Calls Tryz.prog 25 #[.int .u64 4609434218613702656, .int .i64 64] W fun x w' => x = .returned (.tuple #[.string ⟨#[51, 112, 45, 49]⟩, .int .i64 0]) ∧ Below W.heap.size W w' := fun W hW => by
  have h := frombits64 4609434218613702656 (by decide) W hW
  rw [wideW_double (by decide) (by decide), show Fl.txt 4609434218613702656 = [51, 112, 45, 49] by kernel_rfl] at h
  exact h
 have BI : ∀ W, Laid W → Calls Tryz.prog 27 #[.string ⟨#[49, 112, 49, 54]⟩, .int .i64 16] W fun x w' => x = .returned (.tuple #[.int .u64 31744, .bool false, .int .i64 0]) ∧ Below W.heap.size W w' := fun W hW => by
  have h := binbits_any16 4679240012837945344 (by decide) W hW
  rw [show Fl.txt 4679240012837945344 = [49, 112, 49, 54] by kernel_rfl, show (Fl.bitsR Fl.half 4679240012837945344).1 = 31744 by kernel_rfl, show (Fl.bitsR Fl.half 4679240012837945344).2 = false by kernel_rfl] at h
  exact h
 have SH : ∀ W, Laid W → Calls Tryz.prog 36 #[.string ⟨#[49, 112, 45, 49, 48, 55, 52]⟩] W fun x w' => x = .returned (.tuple #[.string ⟨#[53, 101, 45, 51, 50, 52]⟩, .int .i64 0]) ∧ Below W.heap.size W w' := fun W hW => by
  have h := shortest_one W hW
  rw [txt_one] at h
  exact h
 have V1 : ∀ W, Laid W → Calls Tryz.prog 34 #[.string ⟨#[45, 48, 112, 48]⟩] W fun x w' => x = .returned (.bool true) ∧ Below W.heap.size W w' := fun W _ => by
  have h := parse_zero 9223372036854775808 (by decide) W (by decide)
  rw [show Fl.txt 9223372036854775808 = [45, 48, 112, 48] by kernel_rfl] at h
  exact valid_of _ _ _ W h
 have V2 : ∀ W, Laid W → Calls Tryz.prog 34 #[.string ⟨#[50, 112, 48]⟩] W fun x w' => x = .returned (.bool false) ∧ Below W.heap.size W w' := fun W hW => valid_of _ _ _ W (parse_two W hW)
 have FB := Lib.hid FB
 have BI := Lib.hid BI
 have SH := Lib.hid SH
 have V1 := Lib.hid V1
 have V2 := Lib.hid V2
 have HL := Lib.hid hL
 clear hL
 go_enter Tryz.func16, Tryz.ntmps16
 go_wp2_with fail
 refine (FB.out _ HL.out).mono ?_
 rintro x w1 ⟨rfl, hb1⟩
 go_wp2_with fail
 refine (BI.out _ (HL.out.on hb1)).mono ?_
 rintro x w2 ⟨rfl, hb2⟩
 have hb2 := b_trans hb1 hb2
 go_wp2_with fail
 refine (SH.out _ (HL.out.on hb2)).mono ?_
 rintro x w3 ⟨rfl, hb3⟩
 have hb3 := b_trans hb2 hb3
 go_wp2_with fail
 refine (V1.out _ (HL.out.on hb3)).mono ?_
 rintro x w4 ⟨rfl, hb4⟩
 have hb4 := b_trans hb3 hb4
 go_wp2_with fail
 refine (V2.out _ (HL.out.on hb4)).mono ?_
 rintro x w5 ⟨rfl, hb5⟩
 have hb5 := b_trans hb4 hb5
 go_wp2_with fail
 go_ret
 exact ⟨rfl, hb5⟩
theorem ba_of (s : ByteArray) : (⟨s.data.toList.toArray⟩ : ByteArray) = s := by cases s; simp
theorem ba_size (s : ByteArray) : s.size = s.data.toList.length := by rw [Array.length_toList]; rfl
theorem ba_list' {s : ByteArray} {m : List UInt8} (h : s.data.toList ≠ m) : (s.toList == m) = false := by
 have := ba_list h
 rwa [ba_of] at this
theorem ord_neg {b : Nat} (hb : b < 18446744073709551616) (h0 : 0 < b % 9223372036854775808) (hr : b % 9223372036854775808 < 9218868437227405312) : (FloatKind.f64.format.order b 0 == some Ordering.lt) = decide (9223372036854775808 ≤ b) := by
 rw [order_key hb (by decide) (by omega) (by decide)]
 have k0 : Fl.key 0 = 0 := by decide
 rw [k0]
 unfold Fl.key Fl.skey
 by_cases h : 9223372036854775808 ≤ b
 · rw [decide_eq_true h, if_pos rfl, Int.compare_eq_lt.2 (by omega)]; rfl
 · rw [decide_eq_false h, if_neg (by simp), Int.compare_eq_gt.2 (by omega)]; rfl
end Go.Proofs.YtjapgpmoojfhnaaGreatDoor
namespace Go.Proofs.YtjapgpmoojfhnaaGreatDoor
open Go.RowKit Go.Lib
namespace Fl
def isD (b : UInt8) : Bool := decide (48 ≤ b.toNat) && decide (b.toNat ≤ 57)
def at1 (l : List UInt8) : Nat := if l.head? = some 45 then 1 else 0
def vB (l : List UInt8) : Bool := !(l.length == at1 l) && !((l[at1 l]? == some 48) && decide (1 < l.length)) && (l.drop (at1 l)).all isD
def numV (l : List UInt8) : Nat := l.foldl (fun n b => 10 * n + (b.toNat - 48)) 0
theorem numV_snoc (l : List UInt8) (b : UInt8) : numV (l ++ [b]) = 10 * numV l + (b.toNat - 48) := by simp [numV]
theorem at1_le (l : List UInt8) : at1 l ≤ l.length := by
 unfold at1
 cases l with
 | nil => simp
 | cons c l => split <;> simp
theorem numV_dec : ∀ (n : Nat) (t : List UInt8), t.length = n + 1 → (∀ b ∈ t, 48 ≤ b.toNat ∧ b.toNat ≤ 57) → (t.head? = some 48 → n = 0) → decDigits (numV t) = t ∧ (n ≠ 0 → numV t ≠ 0) ∧ numV t < 10 ^ (n + 1)
 | 0, t, hl, hd, _ => by
   match t, hl with
   | [b], _ =>
     obtain ⟨h1, h2⟩ := hd b (by simp)
     have e : numV [b] = b.toNat - 48 := by simp [numV]
     rw [e, decDigits_one (by omega)]
     refine ⟨?_, fun h => absurd rfl h, by omega⟩
     congr 1
     apply UInt8.toNat_inj.1
     rw [UInt8.toNat_ofNat']
     omega
 | n + 1, t, hl, hd, h0 => by
   obtain ⟨t', b, rfl⟩ : ∃ t' b, t = t' ++ [b] := ⟨t.dropLast, t.getLast (by intro h; rw [h] at hl; simp at hl), (List.dropLast_concat_getLast _).symm⟩
   have hl' : t'.length = n + 1 := by simpa using hl
   obtain ⟨h1, h2⟩ := hd b (by simp)
   have hh : t'.head? = (t' ++ [b]).head? := by
    cases t' with
    | nil => simp at hl'
    | cons c r => rfl
   obtain ⟨a1, a2, a3⟩ := numV_dec n t' hl' (fun x hx => hd x (by simp [hx])) (fun h => by rw [hh] at h; have := h0 h; omega)
   have hne : numV t' ≠ 0 := by
    by_cases hn : n = 0
    · subst hn
      match t', hl' with
      | [c], _ =>
        intro hz
        have hc := hd c (by simp)
        have e : numV [c] = c.toNat - 48 := by simp [numV]
        rw [e] at hz
        have hc48 : c = 48 := UInt8.toNat_inj.1 (by show c.toNat = 48; omega)
        have := h0 (by rw [hc48]; rfl)
        omega
    · exact a2 hn
   rw [numV_snoc]
   refine ⟨?_, fun _ => by omega, by rw [Nat.pow_succ]; omega⟩
   rw [decDigits, dif_neg (by omega), show (10 * numV t' + (b.toNat - 48)) / 10 = numV t' by omega, show (10 * numV t' + (b.toNat - 48)) % 10 = b.toNat - 48 by omega, a1]
   congr 2
   apply UInt8.toNat_inj.1
   rw [UInt8.toNat_ofNat']
   omega
def numI (l : List UInt8) : Int := if at1 l = 1 then -(numV (l.drop 1) : Int) else (numV l : Int)
theorem vB_digits {l : List UInt8} (h : vB l = true) : (l.drop (at1 l)).length ≠ 0 ∧ (∀ b ∈ l.drop (at1 l), 48 ≤ b.toNat ∧ b.toNat ≤ 57) ∧ ((l.drop (at1 l)).head? = some 48 → l.length ≤ 1) := by
 unfold vB at h
 simp only [Bool.and_eq_true, Bool.not_eq_true', List.all_eq_true] at h
 obtain ⟨⟨h1, h2⟩, h3⟩ := h
 rw [beq_eq_false_iff_ne] at h1
 have hle := at1_le l
 refine ⟨by rw [List.length_drop]; omega, fun b hb => ?_, fun hh => ?_⟩
 · have := h3 b hb
   simpa [isD] using this
 · rw [List.head?_drop] at hh
   rw [hh] at h2
   simp at h2
   omega
theorem vB_itoa {l : List UInt8} (h : vB l = true) : l = itoa (numI l) ∧ (l.length ≤ 18 → numI l < 1000000000000000000 ∧ -1000000000000000000 < numI l) := by
 obtain ⟨h1, h2, h3⟩ := vB_digits h
 obtain ⟨n, hn⟩ : ∃ n, (l.drop (at1 l)).length = n + 1 := ⟨(l.drop (at1 l)).length - 1, by omega⟩
 have hle := at1_le l
 have hlen : l.length = at1 l + (n + 1) := by rw [List.length_drop] at hn; omega
 obtain ⟨a1, a2, a3⟩ := numV_dec n _ hn h2 (fun hh => by have := h3 hh; omega)
 have hbd : l.length ≤ 18 → numV (l.drop (at1 l)) < 1000000000000000000 := fun h18 =>
  Nat.lt_of_lt_of_le a3 (Nat.le_trans (Nat.pow_le_pow_right (by decide) (show n + 1 ≤ 18 by omega)) (by decide))
 unfold numI
 by_cases hm : at1 l = 1
 · rw [if_pos hm]
   rw [hm] at a1 a2 a3 hn h3 hlen hbd
   have hl : l = 45 :: l.drop 1 := by
    cases l with
    | nil => simp at hn
    | cons c r =>
      unfold at1 at hm
      split at hm
      · rename_i hc
        simp at hc
        rw [hc]; rfl
      · cases hm
   have hpos : numV (l.drop 1) ≠ 0 := by
    by_cases hn0 : n = 0
    · intro hz
      rw [hz, decDigits_one (by decide)] at a1
      have := h3 (by rw [← a1]; rfl)
      omega
    · exact a2 hn0
   refine ⟨?_, fun h18 => by have := hbd h18; omega⟩
   unfold itoa
   rw [if_pos (by omega), show (-(numV (l.drop 1) : Int)).natAbs = numV (l.drop 1) by omega, a1]
   exact hl
 · have h0 : at1 l = 0 := by
    unfold at1 at hm ⊢
    split
    · rename_i hc
      rw [if_pos hc] at hm
      exact absurd rfl hm
    · rfl
   rw [if_neg hm]
   rw [h0, List.drop_zero] at a1
   rw [h0, List.drop_zero] at hbd
   refine ⟨?_, fun h18 => by have := hbd h18; omega⟩
   unfold itoa
   rw [if_neg (by omega), Int.toNat_natCast, a1]
theorem dec_head (u : Nat) : (decDigits u).head? = some 48 → (decDigits u).length = 1 := by
 intro h
 by_cases h0 : u = 0
 · subst h0; rw [decDigits_one (by decide)]; rfl
 · obtain ⟨b1, _, b3, ⟨t, b4, b5⟩, b6⟩ := digL_facts h0
   rw [b6, List.head?_map, List.head?_reverse, List.getLast?_eq_getElem?, b4] at h
   have ht : t < 10 := b3 t (List.mem_of_getElem? b4)
   have h' : UInt8.ofNat (48 + t) = 48 := Option.some.inj h
   have := congrArg UInt8.toNat h'
   rw [Dc.dig_toNat ht] at this
   have e : (48 : UInt8).toNat = 48 := rfl
   omega
theorem itoa_vB (v : Int) : vB (itoa v) = true := by
 have key : ∀ u, (decDigits u).length ≠ 0 ∧ (decDigits u).all isD = true := fun u => by
  refine ⟨fun h => Dc.dec_ne u (List.eq_nil_of_length_eq_zero h), List.all_eq_true.2 fun b hb => ?_⟩
  have := Dc.dec_mem u b hb
  simp [isD, this.1, this.2]
 have hno : ∀ u, (decDigits u).head? ≠ some 45 := fun u h => by
  cases hd : decDigits u with
  | nil => exact Dc.dec_ne u hd
  | cons c l =>
    rw [hd] at h
    have := Dc.dec_mem u c (by rw [hd]; simp)
    simp at h
    rw [h] at this
    exact absurd this.1 (by decide)
 unfold itoa
 by_cases h : v < 0
 · rw [if_pos h]
   obtain ⟨k1, k2⟩ := key v.natAbs
   have hh := dec_head v.natAbs
   have hz : decDigits v.natAbs ≠ [48] := fun he => by
    obtain ⟨_, _, b3, ⟨t, b4, b5⟩, b6⟩ := digL_facts (u := v.natAbs) (by omega)
    rw [b6] at he
    have hl : (digL v.natAbs).length = 1 := by have := congrArg List.length he; simpa using this
    match hd : digL v.natAbs, hl with
    | [x], _ =>
      rw [hd] at he b4 b3
      simp at b4
      subst b4
      have he' : [UInt8.ofNat (48 + x)] = [48] := he
      have := congrArg UInt8.toNat (List.cons.inj he').1
      rw [Dc.dig_toNat (b3 x (by simp))] at this
      have e : (48 : UInt8).toNat = 48 := rfl
      omega
   unfold vB
   have e1 : at1 (45 :: decDigits v.natAbs) = 1 := rfl
   rw [e1]
   simp only [List.drop_succ_cons, List.drop_zero, k2, Bool.and_true, List.length_cons, List.getElem?_cons_succ]
   cases hd : decDigits v.natAbs with
   | nil => exact absurd hd (Dc.dec_ne _)
   | cons c l =>
     have hc : c ≠ 48 := fun hc => by
      rw [hd, hc] at hh
      have := hh rfl
      simp at this
      rw [hd, hc, this] at hz
      exact hz rfl
     simp [hc]
 · rw [if_neg h]
   obtain ⟨k1, k2⟩ := key v.toNat
   have hh := dec_head v.toNat
   unfold vB
   have e1 : at1 (decDigits v.toNat) = 0 := if_neg (hno _)
   rw [e1]
   simp only [List.drop_zero, k2, Bool.and_true]
   cases hd : decDigits v.toNat with
   | nil => exact absurd hd (Dc.dec_ne _)
   | cons c l =>
     rw [hd] at hh
     simp at hh ⊢
     by_cases hc : c = 48
     · exact .inr (hh hc)
     · exact .inl hc
end Fl
end Go.Proofs.YtjapgpmoojfhnaaGreatDoor
