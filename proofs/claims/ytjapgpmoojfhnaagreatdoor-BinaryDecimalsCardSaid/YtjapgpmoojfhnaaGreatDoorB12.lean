/- FromBits at the format double. awake: the examples of the chapter. parse at strings that are no canonical texts. What the functions answer at strings that are no canonical texts; Parts at those that are. -/
import Derived.Test.YtjapgpmoojfhnaaGreatDoorB09
import Derived.Test.YtjapgpmoojfhnaaGreatDoorB11
import Derived.Lib.AtoiAllCases
namespace Go.Proofs.YtjapgpmoojfhnaaGreatDoor
open Go.RowKit Go.Lib

set_option maxHeartbeats 4000000 in
set_option maxRecDepth 100000 in
theorem frombits64 (b : Nat) (hb : b < 18446744073709551616) (w : World) (hL : Laid w) :
    Calls Tryz.prog 25 #[.int .u64 (b : Int), .int .i64 64] w fun x w' => x = .returned (.tuple #[.string ⟨(Fl.txt (Fl.wideW Ieee.double b)).toArray⟩, .int .i64 0]) ∧ Below w.heap.size w w' := by
  have OF := Lib.hid (fun W hW => of_64 W hW)
  obtain ⟨d1, d2, d3, d4, d5⟩ := Fl.double_is
  have hfm : Fl.Fmt Ieee.double := by unfold Fl.Fmt; simp
  obtain ⟨v1, v2, v3⟩ := Fl.wideW_mod hfm b
  obtain ⟨F, hF⟩ : ∃ F, b % 4503599627370496 = F := ⟨_, rfl⟩
  obtain ⟨Q, hQ⟩ : ∃ Q, b / 4503599627370496 = Q := ⟨_, rfl⟩
  obtain ⟨E, hE⟩ : ∃ E, Q % 2048 = E := ⟨_, rfl⟩
  obtain ⟨r, hr⟩ : ∃ r, b % 9223372036854775808 = r := ⟨_, rfl⟩
  obtain ⟨sb, hsb⟩ : ∃ sb, decide (9223372036854775808 ≤ b) = sb := ⟨_, rfl⟩
  obtain ⟨S, hS⟩ : ∃ S, b / 9223372036854775808 = S := ⟨_, rfl⟩
  rw [d5, hr] at v1
  rw [d5] at v2
  obtain ⟨W0, hW0⟩ : ∃ W0, Fl.wideW Ieee.double b = W0 := ⟨_, rfl⟩
  rw [hW0] at v1 v2 v3 ⊢
  have g1 : bits .and .u64 (b : Int) 4503599627370495 = (F : Int) := by
    have h1 := u64_and_nat b 4503599627370495 (by omega) (by decide)
    have e : b &&& 4503599627370495 = b % 4503599627370496 := Nat.and_two_pow_sub_one_eq_mod b 52
    rw [e, hF] at h1
    exact h1
  have g2 : (b : Int) / 4503599627370496 = (Q : Int) := by omega
  have g3 : bits .and .u64 (Q : Int) 2047 = (E : Int) := by
    have h1 := u64_and_nat Q 2047 (by omega) (by decide)
    have e : Q &&& 2047 = Q % 2048 := Nat.and_two_pow_sub_one_eq_mod Q 11
    rw [e, hE] at h1
    exact h1
  have g4 : ((S : Int) == 1) = sb := by
    rw [← hsb]
    by_cases h : 9223372036854775808 ≤ b
    · rw [decide_eq_true h, beq_iff_eq]; omega
    · rw [decide_eq_false h, beq_eq_false_iff_ne]; omega
  have g5 : (b : Int) / 9223372036854775808 = (S : Int) := by omega
  have hrE : r = E * 4503599627370496 + F := by omega
  have hFb : F < 4503599627370496 := by omega
  have hEb : E < 2048 := by omega
  have HL := Lib.hid hL
  by_cases hnan : 9218868437227405312 < r
  · have ht : Fl.txt W0 = [110, 97, 110] := by
      unfold Fl.txt
      rw [if_pos (by rw [v1, Fl.wide_nan (by rw [d1]; exact hnan)]; decide)]
    rw [ht]
    have k1 : ((E : Int) == 2047) = true := by rw [beq_iff_eq]; omega
    have k2 : ((F : Int) != 0) = true := by rw [bne_iff_ne]; omega
    have k3 : ((F : Int) == 0) = false := by rw [beq_eq_false_iff_ne]; omega
    have hEe : E = 2047 := by omega
    subst hEe
    clear hL d1 d2 d3 d4 d5 hfm v1 v2 v3 hF hQ hE hr hsb hS hW0 hrE hFb hEb hnan ht hb
    go_enter Tryz.func25, Tryz.ntmps25
    go_wp2_with fail
    refine (OF.out _ HL.out).mono ?_
    rintro x w2 ⟨rfl, hb2⟩
    go_upto_region 2 with fail
    obtain ⟨w3, Y, hw3, hY, hb3, hcells⟩ := box_three 64 53 (-1074) w2
    rw [hw3, hY]
    have hc13 := hb2.trans (hb3.mono hb2.size)
    obtain ⟨x0, x1, x2, hd3⟩ := hcells w3 (Below.refl _ _)
    clear hcells hw3 hY hb2 hb3 hd3
    have HB3 := Lib.hid hc13
    clear hc13
    go_wp2_with fail
    go_quiet (fail)
    go_wp2_with fail
    go_ret2
    exact ⟨rfl, below_drewN HB3.out _⟩
  · obtain ⟨R, hR⟩ : ∃ R, Fl.wide Ieee.double r = R := ⟨_, rfl⟩
    have hRW : W0 = R + (if sb = true then 9223372036854775808 else 0) := by
      rw [← hW0, ← hR, ← hr, ← d5, ← hsb]
      unfold Fl.wideW
      rw [d5]
      simp
    have hR63 : R < 9223372036854775808 := by rw [← hR]; exact Fl.wide_lt hfm r
    have TX := Lib.hid (fun W hW => text_any W0 v3 W hW)
    have CS := fun W => copysign_any R 13830554455654793216 W (by omega) (by decide)
    rw [Nat.mod_eq_of_lt hR63, show 13830554455654793216 / 9223372036854775808 * 9223372036854775808 = 9223372036854775808 by decide] at CS
    have IN := Lib.hid (fun W => inf_any 1 W (by decide))
    have CS := Lib.hid CS
    have HRW := Lib.hid hRW
    have HX := Lib.hid (And.intro hrE (And.intro hFb (And.intro hEb (And.intro hnan (And.intro hR (And.intro d1 (And.intro d2 (And.intro d3 (And.intro d4 hfm)))))))))
    clear hL d1 d2 d3 d4 d5 hfm v1 v2 v3 hF hQ hE hr hsb hS hW0 hrE hFb hEb hnan hb hR hRW hR63
    go_enter Tryz.func25, Tryz.ntmps25
    go_wp2_with fail
    refine (OF.out _ HL.out).mono ?_
    rintro x w2 ⟨rfl, hb2⟩
    go_upto_region 2 with fail
    obtain ⟨w3, Y, hw3, hY, hb3, hcells⟩ := box_three 64 53 (-1074) w2
    rw [hw3, hY]
    have hc13 := hb2.trans (hb3.mono hb2.size)
    have hL3 := (HL.out.on hb2).on hb3
    obtain ⟨x0, x1, x2, hd3⟩ := hcells w3 (Below.refl _ _)
    have HC := Lib.hid hcells
    clear hcells hw3 hY hb2 hb3
    have HB3 := Lib.hid hc13
    have HL3 := Lib.hid hL3
    clear hc13 hL3
    go_wp2_with fail
    go_quiet (fail)
    obtain ⟨wq, hwq⟩ : ∃ wq, w3.drewN nq = wq := ⟨_, rfl⟩
    obtain ⟨y0, y1, y2, hdq⟩ := HC.out wq (by rw [← hwq]; exact below_drewN hd3 _)
    have HBq := Lib.hid (show Below w.heap.size w wq by rw [← hwq]; exact below_drewN HB3.out _)
    have HLq := Lib.hid (show Laid wq by rw [← hwq]; exact HL3.out.on (below_drewN (Below.refl _ _) _))
    rw [hwq]
    clear hwq x0 x1 x2 hd3
    go_upto_block 0 with fail
    go_cut [12] (fun s wx => s = .float .f64 R ∧ Below wq.heap.size wq wx)
    case first =>
      obtain ⟨hrE, hFb, hEb, hnan, hR, d1, d2, d3, d4, hfm⟩ := HX.out
      by_cases hi : E = 2047
      · have hF0 : F = 0 := by omega
        have hRv : R = 9218868437227405312 := by rw [← hR, show r = Ieee.Format.infRung Ieee.double by rw [d1]; omega]; exact Fl.wide_inf
        subst hi
        subst hF0
        have HRV := Lib.hid hRv
        clear hrE hFb hEb hnan hR d1 d2 d3 d4 hfm hRv
        go_wp2_with fail
        refine (IN.out _).mono ?_
        rintro x w4 ⟨rfl, rfl⟩
        go_wp2_with fail
        go_meet
        exact ⟨by rw [HRV.out], Below.refl _ _⟩
      · have k1 : ((E : Int) == 2047) = false := by rw [beq_eq_false_iff_ne]; omega
        by_cases h0 : E = 0
        · by_cases hF0 : F = 0
          · have hRv : R = 0 := by rw [← hR, show r = 0 by omega]; exact Fl.wide_zero hfm
            subst h0
            subst hF0
            have HRV := Lib.hid hRv
            have LZ := Lib.hid (fun W => ldexp_zero (-1074) W)
            have cv : floatOfInt FloatKind.f64 0 = 0 := by decide
            clear hrE hFb hEb hnan hR d1 d2 d3 d4 hfm hRv hi
            go_wp2_with fail
            refine (LZ.out _).mono ?_
            rintro x w4 ⟨rfl, rfl⟩
            go_wp2_with fail
            go_meet
            exact ⟨by rw [HRV.out], Below.refl _ _⟩
          · have hrF : r = F := by omega
            obtain ⟨s1, s2, s3⟩ := Fl.wide_is hfm (r := r) (by omega) (by rw [d1]; omega)
            rw [hR] at s1 s2 s3
            have e1 : Fl.rmag Ieee.double r = F := by unfold Fl.rmag; rw [d2, if_pos (by omega)]; exact hrF
            have e2 : Fl.rplace Ieee.double r = -1074 := by unfold Fl.rplace; rw [d2, if_pos (by omega), d3]
            rw [e1, e2] at s3
            have LD := fun W => ldexp_any F (-1074) R W (by omega) (by omega) (by omega) s1 s2 s3
            have cv := cvt_nat F (by omega) (by omega)
            obtain ⟨f0, hf0⟩ : ∃ f0, Fl.wordN F = f0 := ⟨_, rfl⟩
            rw [hf0] at cv LD
            have LD := Lib.hid LD
            subst h0
            clear hrE hFb hEb hnan hR d1 d2 d3 d4 hfm hi hrF s1 s2 s3 e1 e2 hf0 hF0
            go_wp2_with fail
            refine (LD.out _).mono ?_
            rintro x w4 ⟨rfl, rfl⟩
            go_wp2_with fail
            go_meet
            exact ⟨rfl, Below.refl _ _⟩
        · have k2 : ((E : Int) == 0) = false := by rw [beq_eq_false_iff_ne]; omega
          obtain ⟨M, hM⟩ : ∃ M, 4503599627370496 + F = M := ⟨_, rfl⟩
          obtain ⟨p, hp⟩ : ∃ p : Int, -1074 + (E : Int) - 1 = p := ⟨_, rfl⟩
          obtain ⟨s1, s2, s3⟩ := Fl.wide_is hfm (r := r) (by omega) (by rw [d1]; omega)
          rw [hR] at s1 s2 s3
          have hdiv : r / 4503599627370496 = E := by omega
          have hmod : r % 4503599627370496 = F := by omega
          have e1 : Fl.rmag Ieee.double r = M := by unfold Fl.rmag; rw [d2, if_neg (by omega), hmod]; exact hM
          have e2 : Fl.rplace Ieee.double r = p := by unfold Fl.rplace; rw [d2, if_neg (by omega), d3, hdiv]; omega
          rw [e1, e2] at s3
          have LD := fun W => ldexp_any M p R W (by omega) (by omega) (by omega) s1 s2 s3
          have cv := cvt_nat M (by omega) (by omega)
          obtain ⟨f0, hf0⟩ : ∃ f0, Fl.wordN M = f0 := ⟨_, rfl⟩
          rw [hf0] at cv LD
          have LD := Lib.hid LD
          have q1 : bits .or .u64 (F : Int) 4503599627370496 = (M : Int) := by rw [← hM]; exact or_bit F 52 (by decide) (by omega)
          have q1b : bits .or .u64 (F : Int) (IntKind.u64.wrap 4503599627370496) = (M : Int) := q1
          have q2 : IntKind.i64.wrap (E : Int) = (E : Int) := IntWalk.i64_in _ (by omega)
          have q3 : IntKind.i64.wrap (-1074 + (E : Int)) = -1074 + (E : Int) := IntWalk.i64_in _ (by omega)
          have q4 : IntKind.i64.wrap (-1074 + (E : Int) - 1) = p := by rw [hp]; exact IntWalk.i64_in _ (by omega)
          clear hrE hFb hEb hnan hR d1 d2 d3 d4 hfm hi hdiv hmod hM hp s1 s2 s3 e1 e2 hf0 h0
          go_wp2_with fail
          go_region_held3 (fun W => W.cell? ⟨Y, 0, none⟩ = some (.int .i64 64) ∧ W.cell? ⟨Y, 1, none⟩ = some (.int .i64 53) ∧ W.cell? ⟨Y, 2, none⟩ = some (.int .i64 (-1074)) ∧ Below w3.heap.size w3 W)
            ((refine HC.out _ ?_; first | assumption | exact b_drew hdq | exact b_drew (by assumption)))
            (first | (go_at_call 63; refine (LD.out _).mono ?_; rintro x w4 ⟨rfl, rfl⟩))
          go_wp2_with fail
          go_meet
          exact ⟨rfl, b_drew (Below.refl _ _)⟩
    case rest =>
      obtain ⟨rfl, hbx⟩ := hcut
      have hLx := HLq.out.on hbx
      have hbE := HBq.out.trans (hbx.mono HBq.out.size)
      have HBE := Lib.hid hbE
      have HLE := Lib.hid hLx
      clear hbE hLx hbx y0 y1 y2 hdq
      cases sb with
      | true =>
        have e : W0 = R + 9223372036854775808 := by rw [HRW.out, if_pos rfl]
        rw [← e] at CS
        clear e
        go_wp2_with fail
        refine (CS.out _).mono ?_
        rintro x w4 ⟨rfl, rfl⟩
        go_wp2_with fail
        refine (TX.out _ HLE.out).mono ?_
        rintro x w5 ⟨rfl, hb5⟩
        go_wp2_with fail
        go_ret2
        exact ⟨rfl, HBE.out.trans (hb5.mono HBE.out.size)⟩
      | false =>
        have e : W0 = R := by rw [HRW.out, if_neg (by simp)]; rfl
        subst e
        go_wp2_with fail
        refine (TX.out _ HLE.out).mono ?_
        rintro x w5 ⟨rfl, hb5⟩
        go_wp2_with fail
        go_ret2
        exact ⟨rfl, HBE.out.trans (hb5.mono HBE.out.size)⟩
end Go.Proofs.YtjapgpmoojfhnaaGreatDoor

namespace Go.Proofs.YtjapgpmoojfhnaaGreatDoor
open Go.RowKit Go.Lib

theorem wideW_double {b : Nat} (hb : b < 18446744073709551616) (h : b % 9223372036854775808 ≤ 9218868437227405312) : Fl.wideW Ieee.double b = b := by
  unfold Fl.wideW
  rw [Fl.double_is.2.2.2.2, Fl.wide_double h]
  split <;> omega
set_option maxHeartbeats 1000000 in
set_option maxRecDepth 100000 in
theorem awake_any (w : World) (hL : Laid w) : Calls Tryz.prog 16 #[] w fun x w' => x = .returned (.bool true) ∧ Below w.heap.size w w' := by
  have FB : ∀ W, Laid W → Calls Tryz.prog 25 #[.int .u64 4609434218613702656, .int .i64 64] W fun x w' => x = .returned (.tuple #[.string ⟨#[51, 112, 45, 49]⟩, .int .i64 0]) ∧ Below W.heap.size W w' := fun W hW => by
    have h := frombits64 4609434218613702656 (by decide) W hW
    rw [wideW_double (by decide) (by decide), show Fl.txt 4609434218613702656 = [51, 112, 45, 49] by kernel_rfl] at h
    exact h
  have BI : ∀ W, Laid W → Calls Tryz.prog 27 #[.string ⟨#[49, 112, 49, 54]⟩, .int .i64 16] W fun x w' => x = .returned (.tuple #[.int .u64 31744, .bool false, .int .i64 0]) ∧ Below W.heap.size W w' := fun W hW => by
    have h := binbits_any16 4679240012837945344 (by decide) W hW
    rw [show Fl.txt 4679240012837945344 = [49, 112, 49, 54] by kernel_rfl, show (Fl.bitsR Fl.half 4679240012837945344).1 = 31744 by kernel_rfl, show (Fl.bitsR Fl.half 4679240012837945344).2 = false by kernel_rfl] at h
    exact h
  have SH : ∀ W, Laid W → Calls Tryz.prog 36 #[.string ⟨#[49, 112, 45, 49, 48, 55, 52]⟩] W fun x w' => x = .returned (.tuple #[.string ⟨#[53, 101, 45, 51, 50, 52]⟩, .int .i64 0]) ∧ Below W.heap.size W w' := fun W hW => by
    have h := shortest_one W hW
    rw [txt_one] at h
    exact h
  have V1 : ∀ W, Laid W → Calls Tryz.prog 34 #[.string ⟨#[45, 48, 112, 48]⟩] W fun x w' => x = .returned (.bool true) ∧ Below W.heap.size W w' := fun W _ => by
    have h := parse_zero 9223372036854775808 (by decide) W (by decide)
    rw [show Fl.txt 9223372036854775808 = [45, 48, 112, 48] by kernel_rfl] at h
    exact valid_of _ _ _ W h
  have V2 : ∀ W, Laid W → Calls Tryz.prog 34 #[.string ⟨#[50, 112, 48]⟩] W fun x w' => x = .returned (.bool false) ∧ Below W.heap.size W w' := fun W hW => valid_of _ _ _ W (parse_two W hW)
  have FB := Lib.hid FB
  have BI := Lib.hid BI
  have SH := Lib.hid SH
  have V1 := Lib.hid V1
  have V2 := Lib.hid V2
  have HL := Lib.hid hL
  clear hL
  go_enter Tryz.func16, Tryz.ntmps16
  go_wp2_with fail
  refine (FB.out _ HL.out).mono ?_
  rintro x w1 ⟨rfl, hb1⟩
  go_wp2_with fail
  refine (BI.out _ (HL.out.on hb1)).mono ?_
  rintro x w2 ⟨rfl, hb2⟩
  have hb2 := b_trans hb1 hb2
  go_wp2_with fail
  refine (SH.out _ (HL.out.on hb2)).mono ?_
  rintro x w3 ⟨rfl, hb3⟩
  have hb3 := b_trans hb2 hb3
  go_wp2_with fail
  refine (V1.out _ (HL.out.on hb3)).mono ?_
  rintro x w4 ⟨rfl, hb4⟩
  have hb4 := b_trans hb3 hb4
  go_wp2_with fail
  refine (V2.out _ (HL.out.on hb4)).mono ?_
  rintro x w5 ⟨rfl, hb5⟩
  have hb5 := b_trans hb4 hb5
  go_wp2_with fail
  go_ret
  exact ⟨rfl, hb5⟩
end Go.Proofs.YtjapgpmoojfhnaaGreatDoor

namespace Go.Proofs.YtjapgpmoojfhnaaGreatDoor
open Go.RowKit Go.Lib

/-- What fits asks. -/
def Fl.Fits (m : Nat) (e : Int) : Prop := m % 2 = 1 ∧ Lib.bitLen m ≤ 53 ∧ -1074 ≤ e ∧ e ≤ 1023 ∧ e + (Lib.bitLen m : Int) ≤ 1024
set_option maxHeartbeats 1000000 in
set_option maxRecDepth 100000 in
theorem fits_false (m : Nat) (e : Int) (w : World) (hm : m < 18446744073709551616) (hn : ¬ Fl.Fits m e) : Calls Tryz.prog 83 #[.int .u64 (m : Int), .int .i64 e] w fun x w' => x = .returned (.bool false) ∧ w' = w := by
  have LN := fun W => Tryz.bits_Len64 (m : Int) W (by omega) (by omega)
  rw [Int.toNat_natCast] at LN
  unfold Fl.Fits at hn
  obtain ⟨L, hL⟩ : ∃ L, Lib.bitLen m = L := ⟨_, rfl⟩
  rw [hL] at LN hn
  have LN := Lib.hid LN
  obtain ⟨q, hq⟩ : ∃ q, m % 2 = q := ⟨_, rfl⟩
  have g1 : (m : Int) % 2 = (q : Int) := by omega
  have g2 : Int.tmod (m : Int) 2 = (q : Int) := by rw [Int.tmod_eq_emod_of_nonneg (by omega)]; exact g1
  rw [hq] at hn
  clear hm hL hq
  by_cases h1 : q = 1
  · subst h1
    by_cases h2 : L ≤ 53
    · have c2 : decide (L ≤ 53) = true := decide_eq_true h2
      have c2b : decide ((L : Int) ≤ 53) = true := decide_eq_true (by omega)
      by_cases h3 : -1074 ≤ e
      · have c3 : decide (-1074 ≤ e) = true := decide_eq_true h3
        by_cases h4 : e ≤ 1023
        · have c4 : decide (e ≤ 1023) = true := decide_eq_true h4
          have g3 : IntKind.i64.wrap (e + (L : Int)) = e + (L : Int) := IntWalk.i64_in _ (by omega)
          have c5 : decide (e + (L : Int) ≤ 1024) = false := decide_eq_false (by omega)
          clear hn h2 h3 h4
          go_enter Tryz.func83, Tryz.ntmps83
          go_wp2_with fail
          refine (LN.out _).mono ?_
          rintro x w1 ⟨rfl, rfl⟩
          go_wp2_with fail
          go_ret
          exact ⟨rfl, rfl⟩
        · have c4 : decide (e ≤ 1023) = false := decide_eq_false h4
          clear hn h2 h3 h4
          go_enter Tryz.func83, Tryz.ntmps83
          go_wp2_with fail
          refine (LN.out _).mono ?_
          rintro x w1 ⟨rfl, rfl⟩
          go_wp2_with fail
          go_ret
          exact ⟨rfl, rfl⟩
      · have c3 : decide (-1074 ≤ e) = false := decide_eq_false h3
        clear hn h2 h3
        go_enter Tryz.func83, Tryz.ntmps83
        go_wp2_with fail
        refine (LN.out _).mono ?_
        rintro x w1 ⟨rfl, rfl⟩
        go_wp2_with fail
        go_ret
        exact ⟨rfl, rfl⟩
    · have c2 : decide (L ≤ 53) = false := decide_eq_false h2
      have c2b : decide ((L : Int) ≤ 53) = false := decide_eq_false (by omega)
      clear hn h2
      go_enter Tryz.func83, Tryz.ntmps83
      go_wp2_with fail
      refine (LN.out _).mono ?_
      rintro x w1 ⟨rfl, rfl⟩
      go_wp2_with fail
      go_ret
      exact ⟨rfl, rfl⟩
  · have c1 : ((q : Int) == 1) = false := by rw [beq_eq_false_iff_ne]; omega
    clear hn h1
    go_enter Tryz.func83, Tryz.ntmps83
    go_wp2_with fail
    refine (LN.out _).mono ?_
    rintro x w1 ⟨rfl, rfl⟩
    go_wp2_with fail
    go_ret
    exact ⟨rfl, rfl⟩
/-- A number that fits has a word. -/
theorem Fl.fits_word {m : Nat} {e : Int} (h : Fl.Fits m e) (hm : m < 18446744073709551616) : 0 < m ∧ m < 9007199254740992 ∧ m.log2 ≤ 52 ∧ e + (m.log2 + 1 : Nat) ≤ 1024 ∧ ∃ R, 0 < R ∧ R < 9218868437227405312 ∧ Fl.Same m e (Fl.rmag Ieee.double R) (Fl.rplace Ieee.double R) := by
  obtain ⟨h1, h2, h3, h4, h5⟩ := h
  have h0 : m ≠ 0 := by omega
  rw [Fl.bitLen_log2 m h0 hm] at h2 h5
  have hl : m < 9007199254740992 := by
    have := (Nat.log2_lt h0).1 (Nat.lt_succ_self m.log2)
    exact Nat.lt_of_lt_of_le this (Nat.le_trans (Nat.pow_le_pow_right (by decide) (show m.log2.succ ≤ 53 by omega)) (by decide))
  refine ⟨by omega, hl, by omega, by omega, ?_⟩
  by_cases hn : -1022 ≤ e + m.log2
  · exact Fl.same_word (by omega) hl hn (by omega)
  · obtain ⟨d, hd⟩ : ∃ d : Nat, e + 1074 = (d : Int) := ⟨(e + 1074).toNat, by omega⟩
    have hb : m * 2 ^ d < 4503599627370496 := by
      have := (Nat.log2_lt h0).1 (Nat.lt_succ_self m.log2)
      have h6 : m * 2 ^ d < 2 ^ m.log2.succ * 2 ^ d := Nat.mul_lt_mul_of_pos_right this (Nat.two_pow_pos _)
      rw [← Nat.pow_add] at h6
      exact Nat.lt_of_lt_of_le h6 (Nat.le_trans (Nat.pow_le_pow_right (by decide) (show m.log2.succ + d ≤ 52 by omega)) (by decide))
    have hp : 0 < m * 2 ^ d := Nat.mul_pos (by omega) (Nat.two_pow_pos _)
    refine ⟨m * 2 ^ d, hp, by omega, ?_⟩
    have e1 : Fl.rmag Ieee.double (m * 2 ^ d) = m * 2 ^ d := by unfold Fl.rmag; rw [Fl.d_binade, if_pos hb]
    have e2 : Fl.rplace Ieee.double (m * 2 ^ d) = -1074 := by unfold Fl.rplace; rw [Fl.d_binade, if_pos hb, Fl.d_least]
    rw [e1, e2]
    exact .inr ⟨d, rfl, by omega⟩
/-- The sign before a text. -/
theorem minus_split (l : List UInt8) : l = (if Lib.hasPrefix l [45] = true then [45] else []) ++ Lib.trimPrefix l [45] := by
  cases l with
  | nil => rfl
  | cons c l =>
    by_cases h : c = 45
    · subst h
      obtain ⟨p1, p2⟩ := pre_minus l
      rw [p1, p2]
      rfl
    · obtain ⟨p1, p2⟩ := pre_none (X := c :: l) (by simp; exact h)
      rw [p1, p2]
      rfl
/-- A word and its sign. -/
theorem txt_sign (g : Bool) {R : Nat} (hR : R < 9218868437227405313) : ∃ b, b < 18446744073709551616 ∧ Fl.txt b = (if g = true then [45] else []) ++ Fl.txt R := by
  have h1 : Fl.sgB R = [] := by unfold Fl.sgB; rw [if_neg (by omega)]
  cases g with
  | false => exact ⟨R, by omega, rfl⟩
  | true =>
    refine ⟨R + 9223372036854775808, by omega, ?_⟩
    have h2 : (R + 9223372036854775808) % 9223372036854775808 = R % 9223372036854775808 := by omega
    have h3 : Fl.sgB (R + 9223372036854775808) = [45] := by unfold Fl.sgB; rw [if_pos (by omega)]
    have h4 : R % 9223372036854775808 = R := Nat.mod_eq_of_lt (by omega)
    have e : ¬ 9218868437227405312 < R := by omega
    unfold Fl.txt
    rw [h1, h2, h3, h4]
    simp only [if_neg e]
    split
    · rfl
    · split <;> rfl
theorem txt_num {R : Nat} (h0 : 0 < R) (h : R < 9218868437227405312) : Fl.txt R = Fl.numB R := by
  have h2 : R % 9223372036854775808 = R := Nat.mod_eq_of_lt (by omega)
  rw [Fl.txt, h2, if_neg (by omega), if_neg (by omega), if_neg (by omega), Fl.sgB, if_neg (by omega), List.nil_append]
theorem cut_len (l : List UInt8) : (Lib.cut l [112]).1.length ≤ l.length ∧ (Lib.cut l [112]).2.1.length ≤ l.length := by
  unfold Lib.cut
  split
  · simp
    omega
  · simp
theorem ba_of (s : ByteArray) : (⟨s.data.toList.toArray⟩ : ByteArray) = s := by cases s; simp
theorem ba_size (s : ByteArray) : s.size = s.data.toList.length := by rw [Array.length_toList]; rfl
theorem ba_list' {s : ByteArray} {m : List UInt8} (h : s.data.toList ≠ m) : (s.toList == m) = false := by
  have := ba_list h
  rwa [ba_of] at this
set_option maxHeartbeats 4000000 in
set_option maxRecDepth 100000 in
theorem parse_bad (s : ByteArray) (hs : s.size ≤ 300) (hc : ∀ b, b < 18446744073709551616 → s.data.toList ≠ Fl.txt b) (w : World) (hL : Laid w) :
    Calls Tryz.prog 58 #[.string s] w fun x w' => x = .returned (.tuple #[.float .f64 0, .bool false]) ∧ Below w.heap.size w w' := by
  obtain ⟨X, hX⟩ : ∃ X, Lib.trimPrefix s.data.toList [45] = X := ⟨_, rfl⟩
  obtain ⟨g, hg⟩ : ∃ g, Lib.hasPrefix s.data.toList [45] = g := ⟨_, rfl⟩
  have hsX := minus_split s.data.toList
  rw [hX, hg] at hsX
  have hXl : X.length ≤ 300 := by
    rw [ba_size] at hs
    have := congrArg List.length hsX
    rw [List.length_append] at this
    omega
  obtain ⟨XB, hXB⟩ : ∃ XB : ByteArray, (⟨X.toArray⟩ : ByteArray) = XB := ⟨_, rfl⟩
  have hXBl : XB.data.toList = X := by rw [← hXB]
  have hXBs : XB.size ≤ 300 := by rw [ba_size, hXBl]; exact hXl
  have CP : ∀ W, Calls Tryz.prog 102 #[.string s, .string ⟨#[45]⟩] W fun e w' => e = .returned (.tuple #[.string XB, .bool g]) ∧ w' = W := fun W => by
    have h := Tryz.strings_CutPrefix s ⟨#[45]⟩ W
    rw [show (⟨#[45]⟩ : ByteArray).data.toList = [45] from rfl, hX, hg, hXB] at h
    exact h
  have hne : ∀ R, R < 9218868437227405313 → X ≠ Fl.txt R := fun R hR he => by
    obtain ⟨b, hb, ht⟩ := txt_sign g hR
    exact hc b hb (by rw [ht, ← he]; exact hsX)
  have n1 : (s.toList == [110, 97, 110]) = false := ba_list' (fun he => hc 9221120237041090561 (by decide) (by rw [he]; kernel_rfl))
  have n2 : (XB.toList == [105, 110, 102]) = false := ba_list' (by rw [hXBl]; exact fun he => hne 9218868437227405312 (by decide) (by rw [he]; kernel_rfl))
  have n3 : (XB.toList == [48, 112, 48]) = false := ba_list' (by rw [hXBl]; exact fun he => hne 0 (by decide) (by rw [he]; kernel_rfl))
  obtain ⟨cl1, cl2⟩ := cut_len X
  obtain ⟨A, hA⟩ : ∃ A : ByteArray, (⟨(Lib.cut X [112]).1.toArray⟩ : ByteArray) = A := ⟨_, rfl⟩
  obtain ⟨B, hB⟩ : ∃ B : ByteArray, (⟨(Lib.cut X [112]).2.1.toArray⟩ : ByteArray) = B := ⟨_, rfl⟩
  obtain ⟨k, hk⟩ : ∃ k, (Lib.cut X [112]).2.2 = k := ⟨_, rfl⟩
  have hAs : A.size ≤ 300 := by rw [← hA, str_size]; omega
  have hBs : B.size ≤ 300 := by rw [← hB, str_size]; omega
  have CU : ∀ W, Laid W → Calls Tryz.prog 48 #[.string XB, .string ⟨#[112]⟩] W fun x w' => x = .returned (.tuple #[.string A, .string B, .bool k]) ∧ Below W.heap.size W w' := fun W hW => by
    obtain ⟨mm, hmm⟩ := hW.2.2.2.2.2.1
    have h := Tryz.strings_Cut XB ⟨#[112]⟩ mm W (by omega) hmm
    rw [hXBl, show (⟨#[112]⟩ : ByteArray).data.toList = [112] from rfl, hA, hB, hk] at h
    refine h.mono ?_
    rintro x w' ⟨rfl, n, rfl⟩
    exact ⟨rfl, below_drewN (Below.refl _ _) n⟩
  have CP := Lib.hid CP
  have CU := Lib.hid CU
  have HL := Lib.hid hL
  have HNE := Lib.hid (And.intro hne hXBl)
  clear hs hc hsX hXl hX hg hXB hXBl hXBs hne cl1 cl2 hA hB hk hL
  -- the two numbers, each read or not
  have UA : ∃ (mo : Option Nat), (∀ m, mo = some m → m < 18446744073709551616) ∧ ∀ W, Laid W → Calls Tryz.prog 104 #[.string A, .int .i64 10, .int .i64 64] W fun x w' => ∃ (u : Int) (ev : Value), x = .returned (.tuple #[.int .u64 u, ev]) ∧ Below W.heap.size W w' ∧ (∀ m, mo = some m → u = (m : Int) ∧ ev = .nilIface) ∧ (mo = none → ∃ N, ev = .iface 174 (.pointer (some ⟨N, 0, none⟩))) := by
    by_cases h : ∃ u, Lib.parseUintB 64 A.data.toList = .ok u
    · obtain ⟨u, hu⟩ := h
      refine ⟨some u, fun m hm => ?_, fun W _ => (uint_ok A (by omega) u hu W).mono ?_⟩
      · cases hm
        rw [Lib.parseUintB_64] at hu
        exact Lib.parseMag_lt hu
      · rintro x w' ⟨rfl, hb⟩
        exact ⟨_, _, rfl, hb, fun m hm => (by cases hm; exact ⟨rfl, rfl⟩), fun h => (by cases h)⟩
    · refine ⟨none, fun m hm => (by cases hm), fun W hW => (uint_bad A (by omega) (fun v hv => h ⟨v, hv⟩) W hW).mono ?_⟩
      rintro x w' ⟨u, N, rfl, hb⟩
      exact ⟨_, _, rfl, hb, fun m hm => by (cases hm), fun _ => ⟨N, rfl⟩⟩
  have AB : ∃ (eo : Option Int), ∀ W, Laid W → Calls Tryz.prog 105 #[.string B] W fun x w' => ∃ (v : Int) (ev : Value), x = .returned (.tuple #[.int .i64 v, ev]) ∧ Below W.heap.size W w' ∧ (∀ e, eo = some e → v = e ∧ ev = .nilIface) ∧ (eo = none → ∃ N, ev = .iface 174 (.pointer (some ⟨N, 0, none⟩))) := by
    by_cases h : ∃ u, Lib.atoiAll B.data.toList = .ok u
    · obtain ⟨u, hu⟩ := h
      refine ⟨some u, fun W _ => (atoi_ok B (by omega) u hu W).mono ?_⟩
      rintro x w' ⟨rfl, hb⟩
      exact ⟨_, _, rfl, hb, fun m hm => (by cases hm; exact ⟨rfl, rfl⟩), fun h => (by cases h)⟩
    · refine ⟨none, fun W hW => (atoi_bad B (by omega) (fun v hv => h ⟨v, hv⟩) W hW).mono ?_⟩
      rintro x w' ⟨u, N, rfl, hb⟩
      exact ⟨_, _, rfl, hb, fun m hm => by (cases hm), fun _ => ⟨N, rfl⟩⟩
  obtain ⟨mo, hmo, UA⟩ := UA
  obtain ⟨eo, AB⟩ := AB
  have UA := Lib.hid UA
  have AB := Lib.hid AB
  clear hAs hBs
  by_cases hgood : k = true ∧ ∃ m e, mo = some m ∧ eo = some e ∧ Fl.Fits m e
  · obtain ⟨rfl, m, e, rfl, rfl, hf⟩ := hgood
    have hm64 := hmo m rfl
    obtain ⟨f1, f2, f3, f4, R, r1, r2, r3⟩ := Fl.fits_word hf hm64
    have FI := Lib.hid (fun W => fits_true m e W f1 f2 hf.1 f3 hf.2.2.1 hf.2.2.2.1 f4)
    have LD := fun W => ldexp_any m e R W f1 f2 (by have := hf.2.2.1; have := hf.2.2.2.1; omega) r1 r2 r3
    have cv := cvt_nat m f1 f2
    obtain ⟨f0, hf0⟩ : ∃ f0, Fl.wordN m = f0 := ⟨_, rfl⟩
    rw [hf0] at LD cv
    have TX := fun W hW => text_any R (by omega) W hW
    obtain ⟨TR, hTR⟩ : ∃ TR : ByteArray, (⟨(Fl.txt R).toArray⟩ : ByteArray) = TR := ⟨_, rfl⟩
    rw [hTR] at TX
    have n5 : (TR.toList == XB.toList) = false := by
      rw [beq_eq_false_iff_ne, Lib.toList_data, Lib.toList_data]
      intro he
      have h1 : TR.data.toList = Fl.txt R := by rw [← hTR]
      exact HNE.out.1 R (by omega) (by rw [← HNE.out.2, ← he, h1])
    have LD := Lib.hid LD
    have TX := Lib.hid TX
    clear hf hm64 f1 f2 f3 f4 r1 r2 r3 hf0 hTR hmo
    go_enter Tryz.func58, Tryz.ntmps58
    go_wp2_with fail
    refine (CP.out _).mono ?_
    rintro x w1 ⟨rfl, rfl⟩
    go_wp2_with fail
    refine (CU.out _ HL.out).mono ?_
    rintro x w2 ⟨rfl, hb2⟩
    go_wp2_with fail
    refine (UA.out _ (HL.out.on hb2)).mono ?_
    rintro x w3 ⟨u, ev, rfl, hb3, hu, _⟩
    obtain ⟨rfl, rfl⟩ := hu m rfl
    have hb3 := b_trans hb2 hb3
    clear hb2 hu
    go_wp2_with fail
    refine (AB.out _ (HL.out.on hb3)).mono ?_
    rintro x w4 ⟨v, ev, rfl, hb4, hv, _⟩
    obtain ⟨rfl, rfl⟩ := hv e rfl
    have hb4 := b_trans hb3 hb4
    clear hb3 hv
    go_wp2_with fail
    refine (FI.out _).mono ?_
    rintro x w5 ⟨rfl, rfl⟩
    go_wp2_with fail
    refine (LD.out _).mono ?_
    rintro x w6 ⟨rfl, rfl⟩
    go_wp2_with fail
    refine (TX.out _ (HL.out.on hb4)).mono ?_
    rintro x w7 ⟨rfl, hb7⟩
    go_wp2_with fail
    go_ret2
    exact ⟨rfl, b_trans hb4 hb7⟩
  · cases k with
    | false =>
      clear hgood hmo
      go_enter Tryz.func58, Tryz.ntmps58
      go_wp2_with fail
      refine (CP.out _).mono ?_
      rintro x w1 ⟨rfl, rfl⟩
      go_wp2_with fail
      refine (CU.out _ HL.out).mono ?_
      rintro x w2 ⟨rfl, hb2⟩
      go_wp2_with fail
      refine (UA.out _ (HL.out.on hb2)).mono ?_
      rintro x w3 ⟨u, ev, rfl, hb3, hu, hu2⟩
      have hb3 := b_trans hb2 hb3
      clear hb2 hu hu2
      go_wp2_with fail
      refine (AB.out _ (HL.out.on hb3)).mono ?_
      rintro x w4 ⟨v, ev', rfl, hb4, hv, hv2⟩
      have hb4 := b_trans hb3 hb4
      clear hb3 hv hv2
      go_wp2_with fail
      go_ret2
      exact ⟨rfl, hb4⟩
    | true =>
      cases mo with
      | none =>
        clear hgood hmo
        go_enter Tryz.func58, Tryz.ntmps58
        go_wp2_with fail
        refine (CP.out _).mono ?_
        rintro x w1 ⟨rfl, rfl⟩
        go_wp2_with fail
        refine (CU.out _ HL.out).mono ?_
        rintro x w2 ⟨rfl, hb2⟩
        go_wp2_with fail
        refine (UA.out _ (HL.out.on hb2)).mono ?_
        rintro x w3 ⟨u, ev, rfl, hb3, hu, hu2⟩
        obtain ⟨NU, rfl⟩ := hu2 (by simp)
        have hb3 := b_trans hb2 hb3
        clear hb2 hu hu2
        go_wp2_with fail
        refine (AB.out _ (HL.out.on hb3)).mono ?_
        rintro x w4 ⟨v, ev', rfl, hb4, hv, hv2⟩
        have hb4 := b_trans hb3 hb4
        clear hb3 hv hv2
        go_wp2_with fail
        go_ret2
        exact ⟨rfl, hb4⟩
      | some m =>
        have hm64 := hmo m rfl
        cases eo with
        | none =>
          clear hgood hmo hm64
          go_enter Tryz.func58, Tryz.ntmps58
          go_wp2_with fail
          refine (CP.out _).mono ?_
          rintro x w1 ⟨rfl, rfl⟩
          go_wp2_with fail
          refine (CU.out _ HL.out).mono ?_
          rintro x w2 ⟨rfl, hb2⟩
          go_wp2_with fail
          refine (UA.out _ (HL.out.on hb2)).mono ?_
          rintro x w3 ⟨u, ev, rfl, hb3, hu, hu2⟩
          obtain ⟨rfl, rfl⟩ := hu m rfl
          have hb3 := b_trans hb2 hb3
          clear hb2 hu hu2
          go_wp2_with fail
          refine (AB.out _ (HL.out.on hb3)).mono ?_
          rintro x w4 ⟨v, ev', rfl, hb4, hv, hv2⟩
          obtain ⟨NV, rfl⟩ := hv2 (by simp)
          have hb4 := b_trans hb3 hb4
          clear hb3 hv hv2
          go_wp2_with fail
          go_ret2
          exact ⟨rfl, hb4⟩
        | some e =>
          have FI := Lib.hid (fun W => fits_false m e W hm64 (fun hf => hgood ⟨rfl, m, e, rfl, rfl, hf⟩))
          clear hgood hmo hm64
          go_enter Tryz.func58, Tryz.ntmps58
          go_wp2_with fail
          refine (CP.out _).mono ?_
          rintro x w1 ⟨rfl, rfl⟩
          go_wp2_with fail
          refine (CU.out _ HL.out).mono ?_
          rintro x w2 ⟨rfl, hb2⟩
          go_wp2_with fail
          refine (UA.out _ (HL.out.on hb2)).mono ?_
          rintro x w3 ⟨u, ev, rfl, hb3, hu, hu2⟩
          obtain ⟨rfl, rfl⟩ := hu m rfl
          have hb3 := b_trans hb2 hb3
          clear hb2 hu hu2
          go_wp2_with fail
          refine (AB.out _ (HL.out.on hb3)).mono ?_
          rintro x w4 ⟨v, ev', rfl, hb4, hv, hv2⟩
          obtain ⟨rfl, rfl⟩ := hv e rfl
          have hb4 := b_trans hb3 hb4
          clear hb3 hv hv2
          go_wp2_with fail
          refine (FI.out _).mono ?_
          rintro x w5 ⟨rfl, rfl⟩
          go_wp2_with fail
          go_ret2
          exact ⟨rfl, hb4⟩
end Go.Proofs.YtjapgpmoojfhnaaGreatDoor

namespace Go.Proofs.YtjapgpmoojfhnaaGreatDoor
open Go.RowKit Go.Lib

set_option maxHeartbeats 1000000 in
set_option maxRecDepth 100000 in
theorem finite_bad (s : ByteArray) (PB : ∀ W, Laid W → Calls Tryz.prog 58 #[.string s] W fun x w' => x = .returned (.tuple #[.float .f64 0, .bool false]) ∧ Below W.heap.size W w') (w : World) (hL : Laid w) : Calls Tryz.prog 46 #[.string s] w fun x w' => x = .returned (.tuple #[.float .f64 0, .int .i64 3]) ∧ Below w.heap.size w w' := by
  have PB := Lib.hid PB
  have HL := Lib.hid hL
  clear hL
  go_enter Tryz.func46, Tryz.ntmps46
  go_wp2_with fail
  refine (PB.out _ HL.out).mono ?_
  rintro x w1 ⟨rfl, hb1⟩
  go_wp2_with fail
  go_ret2
  exact ⟨rfl, hb1⟩
set_option maxHeartbeats 1000000 in
set_option maxRecDepth 100000 in
theorem parts_bad (s : ByteArray) (PB : ∀ W, Laid W → Calls Tryz.prog 58 #[.string s] W fun x w' => x = .returned (.tuple #[.float .f64 0, .bool false]) ∧ Below W.heap.size W w') (w : World) (hL : Laid w) : Calls Tryz.prog 35 #[.string s] w fun x w' => x = .returned (.tuple #[.string ⟨#[]⟩, .int .i64 0, .int .i64 3]) ∧ Below w.heap.size w w' := by
  have FB := Lib.hid (fun W hW => finite_bad s PB W hW)
  have HL := Lib.hid hL
  clear hL PB
  go_enter Tryz.func35, Tryz.ntmps35
  go_wp2_with fail
  refine (FB.out _ HL.out).mono ?_
  rintro x w1 ⟨rfl, hb1⟩
  go_wp2_with fail
  refine bodyPost_ret (v := .tuple #[.string ⟨#[]⟩, .int .i64 0, .int .i64 3]) (by simp [results, Tryz.results35, go_sem]) rfl ?_
  exact ⟨rfl, hb1⟩
set_option maxHeartbeats 1000000 in
set_option maxRecDepth 100000 in
theorem decimal_bad (s : ByteArray) (PB : ∀ W, Laid W → Calls Tryz.prog 58 #[.string s] W fun x w' => x = .returned (.tuple #[.float .f64 0, .bool false]) ∧ Below W.heap.size W w') (w : World) (hL : Laid w) : Calls Tryz.prog 14 #[.string s] w fun x w' => x = .returned (.tuple #[.string ⟨#[]⟩, .int .i64 3]) ∧ Below w.heap.size w w' := by
  have FB := Lib.hid (fun W hW => finite_bad s PB W hW)
  have HL := Lib.hid hL
  clear hL PB
  go_enter Tryz.func14, Tryz.ntmps14
  go_wp2_with fail
  refine (FB.out _ HL.out).mono ?_
  rintro x w1 ⟨rfl, hb1⟩
  go_wp2_with fail
  go_ret2
  exact ⟨rfl, hb1⟩
set_option maxHeartbeats 1000000 in
set_option maxRecDepth 100000 in
theorem shortest_bad (s : ByteArray) (PB : ∀ W, Laid W → Calls Tryz.prog 58 #[.string s] W fun x w' => x = .returned (.tuple #[.float .f64 0, .bool false]) ∧ Below W.heap.size W w') (w : World) (hL : Laid w) : Calls Tryz.prog 36 #[.string s] w fun x w' => x = .returned (.tuple #[.string ⟨#[]⟩, .int .i64 3]) ∧ Below w.heap.size w w' := by
  have FB := Lib.hid (fun W hW => finite_bad s PB W hW)
  have HL := Lib.hid hL
  clear hL PB
  go_enter Tryz.func36, Tryz.ntmps36
  go_wp2_with fail
  refine (FB.out _ HL.out).mono ?_
  rintro x w1 ⟨rfl, hb1⟩
  go_wp2_with fail
  go_ret2
  exact ⟨rfl, hb1⟩
set_option maxHeartbeats 1000000 in
set_option maxRecDepth 100000 in
theorem bits_bad (s : ByteArray) (PB : ∀ W, Laid W → Calls Tryz.prog 58 #[.string s] W fun x w' => x = .returned (.tuple #[.float .f64 0, .bool false]) ∧ Below W.heap.size W w') (w : World) (hL : Laid w) (n : Int) : Calls Tryz.prog 27 #[.string s, .int .i64 n] w fun x w' => x = .returned (.tuple #[.int .u64 0, .bool false, .int .i64 3]) ∧ Below w.heap.size w w' := by
  have PB := Lib.hid PB
  have HL := Lib.hid hL
  clear hL
  go_enter Tryz.func27, Tryz.ntmps27
  go_wp2_with fail
  refine (PB.out _ HL.out).mono ?_
  rintro x w1 ⟨rfl, hb1⟩
  go_wp2_with fail
  refine bodyPost_ret (v := .tuple #[.int .u64 0, .bool false, .int .i64 3]) (by simp [results, Tryz.results27, go_sem]) rfl ?_
  exact ⟨rfl, hb1⟩
set_option maxHeartbeats 1000000 in
set_option maxRecDepth 100000 in
theorem cmp_bad1 (s : ByteArray) (PB : ∀ W, Laid W → Calls Tryz.prog 58 #[.string s] W fun x w' => x = .returned (.tuple #[.float .f64 0, .bool false]) ∧ Below W.heap.size W w') (w : World) (hL : Laid w) : Calls Tryz.prog 23 #[.string s, .string ⟨#[48, 112, 48]⟩] w fun x w' => x = .returned (.tuple #[.int .i64 0, .bool false]) ∧ Below w.heap.size w w' := by
  have P0 : ∀ W, Laid W → Calls Tryz.prog 58 #[.string ⟨#[48, 112, 48]⟩] W fun x w' => x = .returned (.tuple #[.float .f64 0, .bool true]) ∧ Below W.heap.size W w' := fun W hW => by
    have h := parse_txt 0 (by decide) W hW
    rw [show Fl.txt 0 = [48, 112, 48] by kernel_rfl, show Fl.canonW 0 = 0 from rfl] at h
    exact h
  have PB := Lib.hid PB
  have P0 := Lib.hid P0
  have HL := Lib.hid hL
  clear hL
  go_enter Tryz.func23, Tryz.ntmps23
  go_wp2_with fail
  refine (PB.out _ HL.out).mono ?_
  rintro x w1 ⟨rfl, hb1⟩
  go_wp2_with fail
  refine (P0.out _ (HL.out.on hb1)).mono ?_
  rintro x w2 ⟨rfl, hb2⟩
  have hb2 := b_trans hb1 hb2
  go_wp2_with fail
  go_ret2
  exact ⟨rfl, hb2⟩
set_option maxHeartbeats 1000000 in
set_option maxRecDepth 100000 in
theorem cmp_bad2 (s : ByteArray) (PB : ∀ W, Laid W → Calls Tryz.prog 58 #[.string s] W fun x w' => x = .returned (.tuple #[.float .f64 0, .bool false]) ∧ Below W.heap.size W w') (w : World) (hL : Laid w) : Calls Tryz.prog 23 #[.string ⟨#[49, 112, 48]⟩, .string s] w fun x w' => x = .returned (.tuple #[.int .i64 0, .bool false]) ∧ Below w.heap.size w w' := by
  have P0 : ∀ W, Laid W → Calls Tryz.prog 58 #[.string ⟨#[49, 112, 48]⟩] W fun x w' => x = .returned (.tuple #[.float .f64 4607182418800017408, .bool true]) ∧ Below W.heap.size W w' := fun W hW => by
    have h := parse_txt 4607182418800017408 (by decide) W hW
    rw [show Fl.txt 4607182418800017408 = [49, 112, 48] by kernel_rfl, canon_self (by decide)] at h
    exact h
  have PB := Lib.hid PB
  have P0 := Lib.hid P0
  have HL := Lib.hid hL
  clear hL
  go_enter Tryz.func23, Tryz.ntmps23
  go_wp2_with fail
  refine (P0.out _ HL.out).mono ?_
  rintro x w1 ⟨rfl, hb1⟩
  go_wp2_with fail
  refine (PB.out _ (HL.out.on hb1)).mono ?_
  rintro x w2 ⟨rfl, hb2⟩
  have hb2 := b_trans hb1 hb2
  go_wp2_with fail
  go_ret2
  exact ⟨rfl, hb2⟩
set_option maxHeartbeats 1000000 in
set_option maxRecDepth 100000 in
theorem parts_kind (b : Nat) (hb : b < 18446744073709551616) (hr : 9218868437227405312 ≤ b % 9223372036854775808) (w : World) (hL : Laid w) :
    Calls Tryz.prog 35 #[.string ⟨(Fl.txt b).toArray⟩] w fun x w' => x = .returned (.tuple #[.string ⟨#[]⟩, .int .i64 0, .int .i64 10]) ∧ Below w.heap.size w w' := by
  have FB := Lib.hid (fun W hW => finite_kind b hb hr W hW)
  have HL := Lib.hid hL
  clear hL hb hr
  go_enter Tryz.func35, Tryz.ntmps35
  go_wp2_with fail
  refine (FB.out _ HL.out).mono ?_
  rintro x w1 ⟨rfl, hb1⟩
  go_wp2_with fail
  refine bodyPost_ret (v := .tuple #[.string ⟨#[]⟩, .int .i64 0, .int .i64 10]) (by simp [results, Tryz.results35, go_sem]) rfl ?_
  exact ⟨rfl, hb1⟩
set_option maxHeartbeats 1000000 in
set_option maxRecDepth 100000 in
theorem parts_zero (b : Nat) (hb : b < 18446744073709551616) (hr : b % 9223372036854775808 = 0) (w : World) (hL : Laid w) :
    Calls Tryz.prog 35 #[.string ⟨(Fl.txt b).toArray⟩] w fun x w' => x = .returned (.tuple #[.string ⟨#[48]⟩, .int .i64 0, .int .i64 0]) ∧ Below w.heap.size w w' := by
  have FB := Lib.hid (fun W hW => finite_num b hb (by omega) W hW)
  have o2 := ord_zero hb (by omega)
  rw [decide_eq_true hr] at o2
  have HL := Lib.hid hL
  clear hL hb hr
  go_enter Tryz.func35, Tryz.ntmps35
  go_wp2_with fail
  refine (FB.out _ HL.out).mono ?_
  rintro x w1 ⟨rfl, hb1⟩
  go_wp2_with fail
  refine bodyPost_ret (v := .tuple #[.string ⟨#[48]⟩, .int .i64 0, .int .i64 0]) (by simp [results, Tryz.results35, go_sem]) rfl ?_
  exact ⟨rfl, hb1⟩
theorem ord_neg {b : Nat} (hb : b < 18446744073709551616) (h0 : 0 < b % 9223372036854775808) (hr : b % 9223372036854775808 < 9218868437227405312) : (FloatKind.f64.format.order b 0 == some Ordering.lt) = decide (9223372036854775808 ≤ b) := by
  rw [order_key hb (by decide) (by omega) (by decide)]
  have k0 : Fl.key 0 = 0 := by decide
  rw [k0]
  unfold Fl.key Fl.skey
  by_cases h : 9223372036854775808 ≤ b
  · rw [decide_eq_true h, if_pos rfl, Int.compare_eq_lt.2 (by omega)]; rfl
  · rw [decide_eq_false h, if_neg (by simp), Int.compare_eq_gt.2 (by omega)]; rfl
set_option maxHeartbeats 1000000 in
set_option maxRecDepth 100000 in
theorem parts_num (b : Nat) (hb : b < 18446744073709551616) (h0 : 0 < b % 9223372036854775808) (hr : b % 9223372036854775808 < 9218868437227405312) (w : World) (hL : Laid w) :
    Calls Tryz.prog 35 #[.string ⟨(Fl.txt b).toArray⟩] w fun x w' => x = .returned (.tuple #[.string ⟨(Fl.sgB b ++ decDigits (Fl.om (b % 9223372036854775808))).toArray⟩, .int .i64 (Fl.oe (b % 9223372036854775808)), .int .i64 0]) ∧ Below w.heap.size w w' := by
  have FB := Lib.hid (fun W hW => finite_num b hb hr W hW)
  have o2 := ord_zero hb hr
  rw [decide_eq_false (by omega)] at o2
  have o3 := ord_neg hb h0 hr
  obtain ⟨_, _, s3, s4⟩ := Fl.om_spec h0
  have SP : ∀ W, Laid W → Calls Tryz.prog 66 #[.float .f64 b] W fun x w' => x = .returned (.tuple #[.int .u64 (Fl.om (b % 9223372036854775808) : Int), .int .i64 (Fl.oe (b % 9223372036854775808))]) ∧ w' = W := fun W hW => split_any b W hb h0 hr hW
  obtain ⟨m, hm⟩ : ∃ m, Fl.om (b % 9223372036854775808) = m := ⟨_, rfl⟩
  obtain ⟨e, he⟩ : ∃ e, Fl.oe (b % 9223372036854775808) = e := ⟨_, rfl⟩
  rw [hm] at s3 s4 SP
  rw [he] at SP
  rw [hm, he]
  have FU := fun W hW => formatUint_any m (by omega) W hW
  obtain ⟨T, hT⟩ : ∃ T : ByteArray, (⟨(decDigits m).toArray⟩ : ByteArray) = T := ⟨_, rfl⟩
  rw [hT] at FU
  have hTs : T.size ≤ 100 := by
    rw [← hT, str_size, Lib.decDigits_length]
    have := Lib.numDigits_eq m s3 (by omega)
    split at this <;> omega
  have hadd := fun W => run_string_add_sum (P := Tryz.prog) (w := W) ⟨#[45]⟩ T (by show 1 + T.size ≤ _; omega)
  obtain ⟨sb, hsb⟩ : ∃ sb, decide (9223372036854775808 ≤ b) = sb := ⟨_, rfl⟩
  rw [hsb] at o3
  have hres : (⟨(Fl.sgB b ++ decDigits m).toArray⟩ : ByteArray) = if sb = true then ⟨#[45]⟩ ++ T else T := by
    rw [← hT, ← hsb]
    unfold Fl.sgB
    by_cases h : 9223372036854775808 ≤ b
    · rw [if_pos h, if_pos (decide_eq_true h), ← str_append]
    · rw [if_neg h, if_neg (by rw [decide_eq_false h]; simp)]; rfl
  rw [hres]
  have SP := Lib.hid SP
  have FU := Lib.hid FU
  have HL := Lib.hid hL
  clear hL hb h0 hr s3 s4 hm he hT hTs hsb hres
  cases sb with
  | true =>
    rw [if_pos rfl]
    go_enter Tryz.func35, Tryz.ntmps35
    go_wp2_with fail
    refine (FB.out _ HL.out).mono ?_
    rintro x w1 ⟨rfl, hb1⟩
    go_wp2_with fail
    refine (SP.out _ (HL.out.on hb1)).mono ?_
    rintro x w2 ⟨rfl, rfl⟩
    go_wp2_with fail
    refine (FU.out _ (HL.out.on hb1)).mono ?_
    rintro x w3 ⟨rfl, hb3⟩
    have hb3 := b_trans hb1 hb3
    go_wp2_with fail
    refine bodyPost_ret (v := .tuple #[.string (⟨#[45]⟩ ++ T), .int .i64 e, .int .i64 0]) (by simp [results, Tryz.results35, go_sem]) rfl ?_
    exact ⟨rfl, hb3⟩
  | false =>
    rw [if_neg (by simp)]
    go_enter Tryz.func35, Tryz.ntmps35
    go_wp2_with fail
    refine (FB.out _ HL.out).mono ?_
    rintro x w1 ⟨rfl, hb1⟩
    go_wp2_with fail
    refine (SP.out _ (HL.out.on hb1)).mono ?_
    rintro x w2 ⟨rfl, rfl⟩
    go_wp2_with fail
    refine (FU.out _ (HL.out.on hb1)).mono ?_
    rintro x w3 ⟨rfl, hb3⟩
    have hb3 := b_trans hb1 hb3
    go_wp2_with fail
    refine bodyPost_ret (v := .tuple #[.string T, .int .i64 e, .int .i64 0]) (by simp [results, Tryz.results35, go_sem]) rfl ?_
    exact ⟨rfl, hb3⟩
end Go.Proofs.YtjapgpmoojfhnaaGreatDoor
