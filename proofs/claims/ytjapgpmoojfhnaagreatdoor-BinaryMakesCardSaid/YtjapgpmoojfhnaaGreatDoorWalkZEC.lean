/- FromBits at the format double. -/
import Derived.Test.YtjapgpmoojfhnaaGreatDoorWalkZD
namespace Go.Proofs.YtjapgpmoojfhnaaGreatDoor
open Go.RowKit Go.Lib

set_option maxHeartbeats 4000000 in
set_option maxRecDepth 100000 in
theorem frombits64 (b : Nat) (hb : b < 18446744073709551616) (w : World) (hL : Laid w) :
    Calls Tryz.prog 25 #[.int .u64 (b : Int), .int .i64 64] w fun x w' => x = .returned (.tuple #[.string ⟨(Fl.txt (Fl.wideW Ieee.double b)).toArray⟩, .int .i64 0]) ∧ Below w.heap.size w w' := by
  have OF := Lib.hid (fun W hW => of_64 W hW)
  obtain ⟨d1, d2, d3, d4, d5⟩ := Fl.double_is
  have hfm : Fl.Fmt Ieee.double := by unfold Fl.Fmt; simp
  obtain ⟨v1, v2, v3⟩ := Fl.wideW_mod hfm b
  obtain ⟨F, hF⟩ : ∃ F, b % 4503599627370496 = F := ⟨_, rfl⟩
  obtain ⟨Q, hQ⟩ : ∃ Q, b / 4503599627370496 = Q := ⟨_, rfl⟩
  obtain ⟨E, hE⟩ : ∃ E, Q % 2048 = E := ⟨_, rfl⟩
  obtain ⟨r, hr⟩ : ∃ r, b % 9223372036854775808 = r := ⟨_, rfl⟩
  obtain ⟨sb, hsb⟩ : ∃ sb, decide (9223372036854775808 ≤ b) = sb := ⟨_, rfl⟩
  obtain ⟨S, hS⟩ : ∃ S, b / 9223372036854775808 = S := ⟨_, rfl⟩
  rw [d5, hr] at v1
  rw [d5] at v2
  obtain ⟨W0, hW0⟩ : ∃ W0, Fl.wideW Ieee.double b = W0 := ⟨_, rfl⟩
  rw [hW0] at v1 v2 v3 ⊢
  have g1 : bits .and .u64 (b : Int) 4503599627370495 = (F : Int) := by
    have h1 := u64_and_nat b 4503599627370495 (by omega) (by decide)
    have e : b &&& 4503599627370495 = b % 4503599627370496 := Nat.and_two_pow_sub_one_eq_mod b 52
    rw [e, hF] at h1
    exact h1
  have g2 : (b : Int) / 4503599627370496 = (Q : Int) := by omega
  have g3 : bits .and .u64 (Q : Int) 2047 = (E : Int) := by
    have h1 := u64_and_nat Q 2047 (by omega) (by decide)
    have e : Q &&& 2047 = Q % 2048 := Nat.and_two_pow_sub_one_eq_mod Q 11
    rw [e, hE] at h1
    exact h1
  have g4 : ((S : Int) == 1) = sb := by
    rw [← hsb]
    by_cases h : 9223372036854775808 ≤ b
    · rw [decide_eq_true h, beq_iff_eq]; omega
    · rw [decide_eq_false h, beq_eq_false_iff_ne]; omega
  have g5 : (b : Int) / 9223372036854775808 = (S : Int) := by omega
  have hrE : r = E * 4503599627370496 + F := by omega
  have hFb : F < 4503599627370496 := by omega
  have hEb : E < 2048 := by omega
  have HL := Lib.hid hL
  by_cases hnan : 9218868437227405312 < r
  · have ht : Fl.txt W0 = [110, 97, 110] := by
      unfold Fl.txt
      rw [if_pos (by rw [v1, Fl.wide_nan (by rw [d1]; exact hnan)]; decide)]
    rw [ht]
    have k1 : ((E : Int) == 2047) = true := by rw [beq_iff_eq]; omega
    have k2 : ((F : Int) != 0) = true := by rw [bne_iff_ne]; omega
    have k3 : ((F : Int) == 0) = false := by rw [beq_eq_false_iff_ne]; omega
    have hEe : E = 2047 := by omega
    subst hEe
    clear hL d1 d2 d3 d4 d5 hfm v1 v2 v3 hF hQ hE hr hsb hS hW0 hrE hFb hEb hnan ht hb
    go_enter Tryz.func25, Tryz.ntmps25
    go_wp2_with fail
    refine (OF.out _ HL.out).mono ?_
    rintro x w2 ⟨rfl, hb2⟩
    go_upto_region 2 with fail
    obtain ⟨w3, Y, hw3, hY, hb3, hcells⟩ := box_three 64 53 (-1074) w2
    rw [hw3, hY]
    have hc13 := hb2.trans (hb3.mono hb2.size)
    obtain ⟨x0, x1, x2, hd3⟩ := hcells w3 (Below.refl _ _)
    clear hcells hw3 hY hb2 hb3 hd3
    have HB3 := Lib.hid hc13
    clear hc13
    go_wp2_with fail
    go_quiet (fail)
    go_wp2_with fail
    go_ret2
    exact ⟨rfl, below_drewN HB3.out _⟩
  · obtain ⟨R, hR⟩ : ∃ R, Fl.wide Ieee.double r = R := ⟨_, rfl⟩
    have hRW : W0 = R + (if sb = true then 9223372036854775808 else 0) := by
      rw [← hW0, ← hR, ← hr, ← d5, ← hsb]
      unfold Fl.wideW
      rw [d5]
      simp
    have hR63 : R < 9223372036854775808 := by rw [← hR]; exact Fl.wide_lt hfm r
    have TX := Lib.hid (fun W hW => text_any W0 v3 W hW)
    have CS := fun W => copysign_any R 13830554455654793216 W (by omega) (by decide)
    rw [Nat.mod_eq_of_lt hR63, show 13830554455654793216 / 9223372036854775808 * 9223372036854775808 = 9223372036854775808 by decide] at CS
    have IN := Lib.hid (fun W => inf_any 1 W (by decide))
    have CS := Lib.hid CS
    have HRW := Lib.hid hRW
    have HX := Lib.hid (And.intro hrE (And.intro hFb (And.intro hEb (And.intro hnan (And.intro hR (And.intro d1 (And.intro d2 (And.intro d3 (And.intro d4 hfm)))))))))
    clear hL d1 d2 d3 d4 d5 hfm v1 v2 v3 hF hQ hE hr hsb hS hW0 hrE hFb hEb hnan hb hR hRW hR63
    go_enter Tryz.func25, Tryz.ntmps25
    go_wp2_with fail
    refine (OF.out _ HL.out).mono ?_
    rintro x w2 ⟨rfl, hb2⟩
    go_upto_region 2 with fail
    obtain ⟨w3, Y, hw3, hY, hb3, hcells⟩ := box_three 64 53 (-1074) w2
    rw [hw3, hY]
    have hc13 := hb2.trans (hb3.mono hb2.size)
    have hL3 := (HL.out.on hb2).on hb3
    obtain ⟨x0, x1, x2, hd3⟩ := hcells w3 (Below.refl _ _)
    have HC := Lib.hid hcells
    clear hcells hw3 hY hb2 hb3
    have HB3 := Lib.hid hc13
    have HL3 := Lib.hid hL3
    clear hc13 hL3
    go_wp2_with fail
    go_quiet (fail)
    obtain ⟨wq, hwq⟩ : ∃ wq, w3.drewN nq = wq := ⟨_, rfl⟩
    obtain ⟨y0, y1, y2, hdq⟩ := HC.out wq (by rw [← hwq]; exact below_drewN hd3 _)
    have HBq := Lib.hid (show Below w.heap.size w wq by rw [← hwq]; exact below_drewN HB3.out _)
    have HLq := Lib.hid (show Laid wq by rw [← hwq]; exact HL3.out.on (below_drewN (Below.refl _ _) _))
    rw [hwq]
    clear hwq x0 x1 x2 hd3
    go_upto_block 0 with fail
    go_cut [12] (fun s wx => s = .float .f64 R ∧ Below wq.heap.size wq wx)
    case first =>
      obtain ⟨hrE, hFb, hEb, hnan, hR, d1, d2, d3, d4, hfm⟩ := HX.out
      by_cases hi : E = 2047
      · have hF0 : F = 0 := by omega
        have hRv : R = 9218868437227405312 := by rw [← hR, show r = Ieee.Format.infRung Ieee.double by rw [d1]; omega]; exact Fl.wide_inf
        subst hi
        subst hF0
        have HRV := Lib.hid hRv
        clear hrE hFb hEb hnan hR d1 d2 d3 d4 hfm hRv
        go_wp2_with fail
        refine (IN.out _).mono ?_
        rintro x w4 ⟨rfl, rfl⟩
        go_wp2_with fail
        go_meet
        exact ⟨by rw [HRV.out], Below.refl _ _⟩
      · have k1 : ((E : Int) == 2047) = false := by rw [beq_eq_false_iff_ne]; omega
        by_cases h0 : E = 0
        · by_cases hF0 : F = 0
          · have hRv : R = 0 := by rw [← hR, show r = 0 by omega]; exact Fl.wide_zero hfm
            subst h0
            subst hF0
            have HRV := Lib.hid hRv
            have LZ := Lib.hid (fun W => ldexp_zero (-1074) W)
            have cv : floatOfInt FloatKind.f64 0 = 0 := by decide
            clear hrE hFb hEb hnan hR d1 d2 d3 d4 hfm hRv hi
            go_wp2_with fail
            refine (LZ.out _).mono ?_
            rintro x w4 ⟨rfl, rfl⟩
            go_wp2_with fail
            go_meet
            exact ⟨by rw [HRV.out], Below.refl _ _⟩
          · have hrF : r = F := by omega
            obtain ⟨s1, s2, s3⟩ := Fl.wide_is hfm (r := r) (by omega) (by rw [d1]; omega)
            rw [hR] at s1 s2 s3
            have e1 : Fl.rmag Ieee.double r = F := by unfold Fl.rmag; rw [d2, if_pos (by omega)]; exact hrF
            have e2 : Fl.rplace Ieee.double r = -1074 := by unfold Fl.rplace; rw [d2, if_pos (by omega), d3]
            rw [e1, e2] at s3
            have LD := fun W => ldexp_any F (-1074) R W (by omega) (by omega) (by omega) s1 s2 s3
            have cv := cvt_nat F (by omega) (by omega)
            obtain ⟨f0, hf0⟩ : ∃ f0, Fl.wordN F = f0 := ⟨_, rfl⟩
            rw [hf0] at cv LD
            have LD := Lib.hid LD
            subst h0
            clear hrE hFb hEb hnan hR d1 d2 d3 d4 hfm hi hrF s1 s2 s3 e1 e2 hf0 hF0
            go_wp2_with fail
            refine (LD.out _).mono ?_
            rintro x w4 ⟨rfl, rfl⟩
            go_wp2_with fail
            go_meet
            exact ⟨rfl, Below.refl _ _⟩
        · have k2 : ((E : Int) == 0) = false := by rw [beq_eq_false_iff_ne]; omega
          obtain ⟨M, hM⟩ : ∃ M, 4503599627370496 + F = M := ⟨_, rfl⟩
          obtain ⟨p, hp⟩ : ∃ p : Int, -1074 + (E : Int) - 1 = p := ⟨_, rfl⟩
          obtain ⟨s1, s2, s3⟩ := Fl.wide_is hfm (r := r) (by omega) (by rw [d1]; omega)
          rw [hR] at s1 s2 s3
          have hdiv : r / 4503599627370496 = E := by omega
          have hmod : r % 4503599627370496 = F := by omega
          have e1 : Fl.rmag Ieee.double r = M := by unfold Fl.rmag; rw [d2, if_neg (by omega), hmod]; exact hM
          have e2 : Fl.rplace Ieee.double r = p := by unfold Fl.rplace; rw [d2, if_neg (by omega), d3, hdiv]; omega
          rw [e1, e2] at s3
          have LD := fun W => ldexp_any M p R W (by omega) (by omega) (by omega) s1 s2 s3
          have cv := cvt_nat M (by omega) (by omega)
          obtain ⟨f0, hf0⟩ : ∃ f0, Fl.wordN M = f0 := ⟨_, rfl⟩
          rw [hf0] at cv LD
          have LD := Lib.hid LD
          have q1 : bits .or .u64 (F : Int) 4503599627370496 = (M : Int) := by rw [← hM]; exact or_bit F 52 (by decide) (by omega)
          have q1b : bits .or .u64 (F : Int) (IntKind.u64.wrap 4503599627370496) = (M : Int) := q1
          have q2 : IntKind.i64.wrap (E : Int) = (E : Int) := IntWalk.i64_in _ (by omega)
          have q3 : IntKind.i64.wrap (-1074 + (E : Int)) = -1074 + (E : Int) := IntWalk.i64_in _ (by omega)
          have q4 : IntKind.i64.wrap (-1074 + (E : Int) - 1) = p := by rw [hp]; exact IntWalk.i64_in _ (by omega)
          clear hrE hFb hEb hnan hR d1 d2 d3 d4 hfm hi hdiv hmod hM hp s1 s2 s3 e1 e2 hf0 h0
          go_wp2_with fail
          go_region_held3 (fun W => W.cell? ⟨Y, 0, none⟩ = some (.int .i64 64) ∧ W.cell? ⟨Y, 1, none⟩ = some (.int .i64 53) ∧ W.cell? ⟨Y, 2, none⟩ = some (.int .i64 (-1074)) ∧ Below w3.heap.size w3 W)
            ((refine HC.out _ ?_; first | assumption | exact b_drew hdq | exact b_drew (by assumption)))
            (first | (go_at_call 63; refine (LD.out _).mono ?_; rintro x w4 ⟨rfl, rfl⟩))
          go_wp2_with fail
          go_meet
          exact ⟨rfl, b_drew (Below.refl _ _)⟩
    case rest =>
      obtain ⟨rfl, hbx⟩ := hcut
      have hLx := HLq.out.on hbx
      have hbE := HBq.out.trans (hbx.mono HBq.out.size)
      have HBE := Lib.hid hbE
      have HLE := Lib.hid hLx
      clear hbE hLx hbx y0 y1 y2 hdq
      cases sb with
      | true =>
        have e : W0 = R + 9223372036854775808 := by rw [HRW.out, if_pos rfl]
        rw [← e] at CS
        clear e
        go_wp2_with fail
        refine (CS.out _).mono ?_
        rintro x w4 ⟨rfl, rfl⟩
        go_wp2_with fail
        refine (TX.out _ HLE.out).mono ?_
        rintro x w5 ⟨rfl, hb5⟩
        go_wp2_with fail
        go_ret2
        exact ⟨rfl, HBE.out.trans (hb5.mono HBE.out.size)⟩
      | false =>
        have e : W0 = R := by rw [HRW.out, if_neg (by simp)]; rfl
        subst e
        go_wp2_with fail
        refine (TX.out _ HLE.out).mono ?_
        rintro x w5 ⟨rfl, hb5⟩
        go_wp2_with fail
        go_ret2
        exact ⟨rfl, HBE.out.trans (hb5.mono HBE.out.size)⟩
end Go.Proofs.YtjapgpmoojfhnaaGreatDoor
