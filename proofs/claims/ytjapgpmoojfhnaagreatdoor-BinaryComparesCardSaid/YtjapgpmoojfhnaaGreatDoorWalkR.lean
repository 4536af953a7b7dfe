/- The reference: Bits at 64 bits, of a float that is not negative. -/
import Derived.Test.YtjapgpmoojfhnaaGreatDoorWalkQ
namespace Go.Proofs.YtjapgpmoojfhnaaGreatDoor
open Go.RowKit Go.Lib

set_option maxHeartbeats 1000000 in
set_option maxRecDepth 100000 in
theorem refbits_zero (w : World) : Calls Tryz.prog 28 #[.agg #[.int .i64 0, .bool false, .int .u64 0, .int .i64 0], .int .i64 64] w fun x w' => x = .returned (.tuple #[.int .u64 0, .bool true]) ∧ Below w.heap.size w w' := by
  obtain ⟨w2, X, hw2, hX, hb2, hcells⟩ := box_float 0 false 0 0 w
  have FO := Lib.hid (fun W => format64 W)
  have HW2 := Lib.hid hw2
  have HX := Lib.hid hX
  obtain ⟨x0, x1, x2, x3, _⟩ := hcells w2 (Below.refl _ _)
  clear hcells hw2 hX
  go_enter Tryz.func28, Tryz.ntmps28
  go_upto_region 1 with fail
  rw [HW2.out, HX.out]
  go_wp2_with fail
  refine (FO.out _).mono ?_
  rintro x w1 ⟨rfl, rfl⟩
  go_wp2_with fail
  go_ret2
  exact ⟨rfl, hb2⟩
set_option maxHeartbeats 1000000 in
set_option maxRecDepth 100000 in
theorem refbits_inf (w : World) : Calls Tryz.prog 28 #[.agg #[.int .i64 1, .bool false, .int .u64 0, .int .i64 0], .int .i64 64] w fun x w' => x = .returned (.tuple #[.int .u64 9218868437227405312, .bool true]) ∧ Below w.heap.size w w' := by
  obtain ⟨w2, X, hw2, hX, hb2, hcells⟩ := box_float 1 false 0 0 w
  have FO := Lib.hid (fun W => format64 W)
  have HW2 := Lib.hid hw2
  have HX := Lib.hid hX
  obtain ⟨x0, x1, x2, x3, _⟩ := hcells w2 (Below.refl _ _)
  clear hcells hw2 hX
  go_enter Tryz.func28, Tryz.ntmps28
  go_upto_region 1 with fail
  rw [HW2.out, HX.out]
  go_wp2_with fail
  refine (FO.out _).mono ?_
  rintro x w1 ⟨rfl, rfl⟩
  go_wp2_with fail
  go_ret2
  exact ⟨rfl, hb2⟩
set_option maxHeartbeats 2000000 in
set_option maxRecDepth 100000 in
theorem refbits_num (r : Nat) (w : World) (h0 : 0 < r) (hr : r < 9218868437227405312) : Calls Tryz.prog 28 #[.agg #[.int .i64 0, .bool false, .int .u64 (Fl.om r : Int), .int .i64 (Fl.oe r)], .int .i64 64] w fun x w' => x = .returned (.tuple #[.int .u64 (r : Int), .bool true]) ∧ Below w.heap.size w w' := by
  obtain ⟨a1, a2, a3, a4⟩ := Fl.om_spec h0
  obtain ⟨b1, b2, b3, b4⟩ := Fl.om_bounds h0 hr
  have hlast := Fl.last_place Ieee.double h0
  have hsp := Fl.same_place a3 h0 (Fl.om_same h0)
  have hoe : Fl.oe r = Fl.rplace Ieee.double r + (tzN (Fl.rmag Ieee.double r) : Nat) := rfl
  obtain ⟨P, hP⟩ : ∃ P, Fl.rplace Ieee.double r = P := ⟨_, rfl⟩
  obtain ⟨M, hM⟩ : ∃ M, Fl.rmag Ieee.double r = M := ⟨_, rfl⟩
  obtain ⟨m, hm⟩ : ∃ m, Fl.om r = m := ⟨_, rfl⟩
  obtain ⟨e, he⟩ : ∃ e, Fl.oe r = e := ⟨_, rfl⟩
  obtain ⟨z, hz⟩ : ∃ z, tzN M = z := ⟨_, rfl⟩
  rw [Fl.d_least, show (Ieee.double.fractionBits : Int) = 52 from rfl] at hlast
  rw [hP, hM] at hlast hsp hoe
  rw [hm, he] at hsp
  rw [he, hz] at hoe
  rw [hm] at a2 a3 a4 b1 b4
  rw [he] at b2 b3 b4
  rw [hm, hM, hz] at a1
  rw [hm, he]
  obtain ⟨w2, X, hw2, hX, hb2, hcells⟩ := box_float 0 false (m : Int) e w
  have FO := Lib.hid (fun W => format64 W)
  have BL := Lib.hid (fun W => bitlen_any m W (by omega))
  have hbl : Lib.bitLen m = m.log2 + 1 := Fl.bitLen_log2 m (by omega) (by omega)
  rw [hbl] at BL
  obtain ⟨L, hL⟩ : ∃ L, m.log2 + 1 = L := ⟨_, rfl⟩
  rw [hL] at BL
  have HW2 := Lib.hid hw2
  have HX := Lib.hid hX
  have HC := Lib.hid hcells
  obtain ⟨x0, x1, x2, x3, _⟩ := hcells w2 (Below.refl _ _)
  have k1 : ((m : Int) == 0) = false := by rw [beq_eq_false_iff_ne]; omega
  have k2 : IntKind.i64.wrap (e + (L : Int)) = e + (L : Int) := IntWalk.i64_in _ (by omega)
  have k3 : IntKind.i64.wrap (e + (L : Int) - 53) = e + (L : Int) - 53 := IntWalk.i64_in _ (by omega)
  have k4 : IntKind.i64.wrap (e - P) = (z : Int) := by rw [hoe]; have := IntWalk.i64_in (P + (z : Int) - P) (by have : z < 64 := by { obtain ⟨_, _, h⟩ := tz_spec (m := M) (by rw [← hM]; exact Fl.rmag_pos h0) (by rw [← hM]; have := Fl.rmag_lt Ieee.double r; exact Nat.lt_trans this (by decide)); rw [← hz]; exact h }; omega); rw [this]; omega
  have c1 : decide (P ≤ e) = true := decide_eq_true (by omega)
  have HQ := Lib.hid (And.intro hlast (And.intro hsp (And.intro hoe (And.intro hP (And.intro hM (And.intro a1 hL))))))
  have HB := Lib.hid (And.intro a2 (And.intro a3 (And.intro a4 (And.intro b1 (And.intro b2 (And.intro b3 b4))))))
  have HZ := Lib.hid (And.intro hz (And.intro hm he))
  have H0 := Lib.hid (And.intro h0 hr)
  clear hcells hw2 hX hlast hsp hoe hP hM a1 hL a2 a3 a4 b1 b2 b3 b4 hz hm he h0 hr hbl
  have hd2 : Below w2.heap.size w2 w2 := Below.refl _ _
  go_enter Tryz.func28, Tryz.ntmps28
  go_upto_region 1 with fail
  rw [HW2.out, HX.out]
  go_wp2_with fail
  refine (FO.out _).mono ?_
  rintro x w1 ⟨rfl, rfl⟩
  go_upto_region 12 with fail
  go_region_held3 (fun W => W.cell? ⟨X, 0, none⟩ = some (.int .i64 0) ∧ W.cell? ⟨X, 1, none⟩ = some (.bool false) ∧ W.cell? ⟨X, 2, none⟩ = some (.int .u64 (m : Int)) ∧ W.cell? ⟨X, 3, none⟩ = some (.int .i64 e) ∧ Below w1.heap.size w1 W)
    ((refine HC.out _ ?_; first | assumption | exact b_drew hd2 | exact b_drew (by assumption)))
    (first | (go_at_call 69; refine (BL.out _).mono ?_; rintro x w3 ⟨rfl, rfl⟩))
  have HMX : max (e + (L : Int) - 53) (-1074) = P := by
    obtain ⟨q1, q2, q3, q4, q5, q6, q7⟩ := HQ.out
    rw [show e + (L : Int) - 53 = P + (M.log2 : Int) - 52 by omega]
    exact q1
  rw [HMX]
  have hz64 : z < 64 := by
    obtain ⟨_, _, h⟩ := tz_spec (m := M) (by rw [← HQ.out.2.2.2.2.1]; exact Fl.rmag_pos H0.out.1) (by rw [← HQ.out.2.2.2.2.1]; exact Nat.lt_trans (Fl.rmag_lt Ieee.double r) (by decide))
    rw [← HZ.out.1]; exact h
  have hM2 : M < 9007199254740992 := by rw [← HQ.out.2.2.2.2.1]; exact Fl.rmag_lt Ieee.double r
  have hM0 : 0 < M := by rw [← HQ.out.2.2.2.2.1]; exact Fl.rmag_pos H0.out.1
  have k5 : IntKind.u64.wrap (z : Int) = (z : Int) := by rw [IntKind.wrap_u64]; omega
  have k6 : IntKind.u64.wrap ((m : Int) * 2 ^ z) = (M : Int) := by
    have h : (m : Int) * 2 ^ z = (M : Int) := by rw [HQ.out.2.2.2.2.2.1]; simp
    rw [h, IntKind.wrap_u64]; omega
  have k10 : min z 64 = z := by omega
  have k7 : ((M : Int) == 0) = false := by rw [beq_eq_false_iff_ne]; omega
  have BM := Lib.hid (fun W => bitlen_any M W (by omega))
  rw [Fl.bitLen_log2 M (by omega) (by omega)] at BM
  obtain ⟨LM, hLM⟩ : ∃ LM, M.log2 + 1 = LM := ⟨_, rfl⟩
  rw [hLM] at BM
  have hlm : M.log2 < 53 := (Nat.log2_lt (by omega)).2 hM2
  have c2 : decide ((53 : Int) < (LM : Int)) = false := decide_eq_false (by omega)
  have hPL : P + (LM : Int) ≤ 1024 := by
    obtain ⟨q1, q2, q3, q4, q5, q6, q7⟩ := HQ.out
    obtain ⟨r1, r2, r3, r4, r5, r6, r7⟩ := HB.out
    omega
  have hPge : -1074 ≤ P := by
    have := Fl.place_ge Ieee.double r
    rw [Fl.d_least, HQ.out.2.2.2.1] at this
    exact this
  have k8 : IntKind.i64.wrap (P + (LM : Int)) = P + (LM : Int) := IntWalk.i64_in _ (by omega)
  have c3 : decide ((1024 : Int) < P + (LM : Int)) = false := decide_eq_false (by omega)
  have k9 : IntKind.u64.wrap (M : Int) = (M : Int) := by rw [IntKind.wrap_u64]; omega
  have HLM := Lib.hid (And.intro hLM (And.intro hPL (And.intro hPge (And.intro hM0 (And.intro hM2 hz64)))))
  clear HMX hLM hPL hPge hlm hM0 hM2 hz64
  by_cases hsub : LM < 53
  · have c4 : decide ((LM : Int) < 53) = true := decide_eq_true (by omega)
    have hMr : (M : Int) = (r : Int) := by
      have h1 := HQ.out.2.2.2.2.1
      have h2 := HLM.out.1
      by_cases h : r < 4503599627370496
      · rw [← h1]; unfold Fl.rmag; rw [Fl.d_binade, if_pos h]
      · exfalso
        have h3 : 4503599627370496 ≤ M := by rw [← h1]; unfold Fl.rmag; rw [Fl.d_binade, if_neg h]; omega
        have h4 : 52 ≤ M.log2 := (Nat.le_log2 (by omega)).2 h3
        omega
    have HMR := Lib.hid hMr
    clear hMr hsub
    go_wp2_with fail
    refine (BM.out _).mono ?_
    rintro x w4 ⟨rfl, rfl⟩
    go_wp2_with fail
    refine (BM.out _).mono ?_
    rintro x w5 ⟨rfl, rfl⟩
    go_wp2_with fail
    refine (BM.out _).mono ?_
    rintro x w6 ⟨rfl, rfl⟩
    go_wp2_with fail
    go_ret2
    exact ⟨by rw [HMR.out]; rfl, hb2.drew⟩
  · have c4 : decide ((LM : Int) < 53) = false := decide_eq_false (by omega)
    have hrr := H0.out.2
    obtain ⟨q, hq⟩ : ∃ q, r / 4503599627370496 = q := ⟨_, rfl⟩
    have hge : 4503599627370496 ≤ r := by
      have h1 := HQ.out.2.2.2.2.1
      have h2 := HLM.out.1
      refine Nat.le_of_not_lt fun h => ?_
      have h3 : M = r := by rw [← h1]; unfold Fl.rmag; rw [Fl.d_binade, if_pos h]
      have h5 : M.log2 < 52 := (Nat.log2_lt (by have := HLM.out.2.2.2.1; omega)).2 (by rw [h3]; exact h)
      omega
    have hMq : M = 4503599627370496 + r % 4503599627370496 := by rw [← HQ.out.2.2.2.2.1]; unfold Fl.rmag; rw [Fl.d_binade, if_neg (by omega)]
    have hPq : P = (q : Int) - 1075 := by rw [← HQ.out.2.2.2.1]; unfold Fl.rplace; rw [Fl.d_binade, if_neg (by omega), Fl.d_least, hq]; omega
    have n1 : IntKind.i64.wrap (P + 1074) = P + 1074 := IntWalk.i64_in _ (by omega)
    have n2 : IntKind.i64.wrap (P + 1074 + 1) = (q : Int) := by rw [show P + 1074 + 1 = (q : Int) by omega]; exact IntWalk.i64_in _ (by omega)
    have n3 : IntKind.u64.wrap (q : Int) = (q : Int) := by rw [IntKind.wrap_u64]; omega
    obtain ⟨Y0, hY0⟩ : ∃ Y0, q * 4503599627370496 = Y0 := ⟨_, rfl⟩
    have n4 : IntKind.u64.wrap ((q : Int) * 4503599627370496) = (Y0 : Int) := by rw [IntKind.wrap_u64]; omega
    have n5 : IntKind.u64.wrap (Y0 : Int) = (Y0 : Int) := by rw [IntKind.wrap_u64]; omega
    obtain ⟨Y1, hY1⟩ : ∃ Y1, Y0 + M = Y1 := ⟨_, rfl⟩
    have n6 : IntKind.u64.wrap ((Y0 : Int) + (M : Int)) = (Y1 : Int) := by rw [IntKind.wrap_u64]; omega
    have n7 : IntKind.u64.wrap ((Y1 : Int) - 4503599627370496) = (r : Int) := by rw [IntKind.wrap_u64]; omega
    clear hsub hrr hq hge hMq hPq hY0 hY1
    go_wp2_with fail
    refine (BM.out _).mono ?_
    rintro x w4 ⟨rfl, rfl⟩
    go_wp2_with fail
    refine (BM.out _).mono ?_
    rintro x w5 ⟨rfl, rfl⟩
    go_wp2_with fail
    refine (BM.out _).mono ?_
    rintro x w6 ⟨rfl, rfl⟩
    go_wp2_with fail
    go_ret2
    exact ⟨rfl, hb2.drew⟩
end Go.Proofs.YtjapgpmoojfhnaaGreatDoor
