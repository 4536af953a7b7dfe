/- Shortest at every float that is not nought. The reference: scaled, at a place that a float has. -/
import Derived.Test.YtjapgpmoojfhnaaGreatDoorB14
import Derived.Test.YtjapgpmoojfhnaaGreatDoorB19
namespace Go.Proofs.YtjapgpmoojfhnaaGreatDoor
open Go.RowKit Go.Lib

theorem place_bounds {r : Nat} (h0 : 0 < r) (hr : r < 9218868437227405312) : -1074 ≤ Fl.rplace Ieee.double r ∧ Fl.rplace Ieee.double r ≤ 971 := by
  obtain ⟨k, hf, hp, hk, hlt⟩ := Fl.rung_form r
  omega
theorem scaledS (r y : Nat) (h0 : 0 < r) (hr : r < 9218868437227405312) (hy : y < 18446744073709551616) (hy0 : y ≠ 0) (w : World) (hL : Laid w) :
    Calls Tryz.prog 73 #[.int .u64 (y : Int), .int .i64 (Fl.rplace Ieee.double r - 2)] w fun x w' => x = .returned (.string ⟨(decDigits (y * Fl.sS r)).toArray⟩) ∧ Below w.heap.size w w' := by
  obtain ⟨b1, b2⟩ := place_bounds h0 hr
  unfold Fl.sS
  by_cases h : 0 ≤ Fl.rplace Ieee.double r - 2
  · rw [if_pos h]
    obtain ⟨k, hk⟩ : ∃ k : Nat, Fl.rplace Ieee.double r - 2 = (k : Int) := ⟨(Fl.rplace Ieee.double r - 2).toNat, by omega⟩
    rw [hk, Int.toNat_natCast]
    exact scaled_pos _ k w hL hy hy0 (by omega)
  · rw [if_neg h]
    exact scaled_neg _ _ _ w hL hy hy0 (by omega) (by omega) (by omega)
/-- The doubling of a significand: its rounds. -/
theorem dbl_round {r i : Nat} (h0 : 0 < r) (hi : i < tzN (Fl.rmag Ieee.double r)) : Fl.om r * 2 ^ i < 4503599627370496 ∧ 0 < Fl.om r * 2 ^ i ∧ -1074 < Fl.oe r - (i : Int) := by
  obtain ⟨h1, _, m1, _⟩ := Fl.om_spec h0
  obtain ⟨k, hf, hp, hk, hlt⟩ := Fl.rung_form r
  obtain ⟨j, hj⟩ : ∃ j, tzN (Fl.rmag Ieee.double r) = i + (j + 1) := ⟨tzN (Fl.rmag Ieee.double r) - i - 1, by omega⟩
  refine ⟨?_, Nat.mul_pos m1 (Nat.two_pow_pos _), ?_⟩
  · rw [hj, Nat.pow_add, ← Nat.mul_assoc, Nat.pow_succ] at h1
    have h2 : Fl.om r * 2 ^ i * (2 ^ j * 2) ≥ Fl.om r * 2 ^ i * 2 := Nat.mul_le_mul_left _ (by have := Nat.two_pow_pos j; omega)
    omega
  · unfold Fl.oe
    omega
theorem dbl_end {r : Nat} (h0 : 0 < r) : Fl.om r * 2 ^ tzN (Fl.rmag Ieee.double r) = Fl.rmag Ieee.double r ∧ Fl.oe r - (tzN (Fl.rmag Ieee.double r) : Nat) = Fl.rplace Ieee.double r := by
  refine ⟨(Fl.om_spec h0).1.symm, ?_⟩
  unfold Fl.oe
  omega
theorem bitLen_small {m : Nat} (h0 : 0 < m) (h : m < 4503599627370496) : Lib.bitLen m < 53 := by
  rw [Fl.bitLen_log2 m (by omega) (by omega)]
  have := (Nat.log2_lt (k := 52) (by omega : m ≠ 0)).2 h
  omega
theorem bitLen_full {m : Nat} (h0 : 4503599627370496 ≤ m) (h : m < 9007199254740992) : Lib.bitLen m = 53 := by
  rw [Fl.bitLen_log2 m (by omega) (by omega)]
  have h1 := (Nat.log2_lt (k := 53) (by omega : m ≠ 0)).2 h
  have h2 := (Nat.le_log2 (k := 52) (by omega : m ≠ 0)).2 h0
  omega
theorem wrap_two (p : Nat) (h : p ≤ 100000) : IntKind.i64.wrap (((p + 1 : Nat) : Int) + 1) = ((p + 2 : Nat) : Int) := by have := IntWalk.i64_in (((p + 1 : Nat) : Int) + 1) (by omega); rw [this]; omega
theorem wrap_two' (p : Nat) (h : p ≤ 100000) : wrap64 ((p : Int) + 1 + 1) = ((p + 2 : Nat) : Int) := by unfold wrap64; omega
theorem wrap_two'' (p : Nat) (h : p ≤ 100000) : IntKind.i64.wrap ((p : Int) + 1 + 1) = ((p + 2 : Nat) : Int) := by have := IntWalk.i64_in ((p : Int) + 1 + 1) (by omega); rw [this]; omega
namespace Fl
theorem goDn_sg (V LO HI j : Nat) (ev : Bool) : goDn V LO HI ev (j + 1) = (insideN (dnN V (j + 1)) LO HI ev && (!insideN (upN V (j + 1)) LO HI ev || decide (sg (V % 10 ^ (j + 1)) (5 * 10 ^ j) < 0) || (sg (V % 10 ^ (j + 1)) (5 * 10 ^ j) == 0 && V / 10 ^ (j + 1) % 2 == 0))) := by
  have e := Nat.div_add_mod V (10 ^ (j + 1))
  have e2 : (10 : Nat) ^ (j + 1) = 10 * 10 ^ j := by rw [Nat.pow_succ, Nat.mul_comm]
  have e3 : upN V (j + 1) = dnN V (j + 1) + 10 ^ (j + 1) := rfl
  have e4 : 10 ^ (j + 1) * (V / 10 ^ (j + 1)) = dnN V (j + 1) := Nat.mul_comm _ _
  rw [e4] at e
  have h1 : decide (2 * V < dnN V (j + 1) + upN V (j + 1)) = decide (sg (V % 10 ^ (j + 1)) (5 * 10 ^ j) < 0) := by
    refine decide_eq_decide.2 ?_
    unfold sg
    split
    · omega
    · split <;> omega
  have h2 : decide (2 * V = dnN V (j + 1) + upN V (j + 1)) = (sg (V % 10 ^ (j + 1)) (5 * 10 ^ j) == 0) := by
    by_cases h : 2 * V = dnN V (j + 1) + upN V (j + 1)
    · rw [decide_eq_true h]
      symm
      rw [beq_iff_eq]
      unfold sg
      rw [if_neg (by omega), if_neg (by omega)]
    · rw [decide_eq_false h]
      symm
      rw [beq_eq_false_iff_ne]
      unfold sg
      split
      · decide
      · split
        · decide
        · omega
  unfold goDn
  rw [h1, h2]
theorem sS_le {r : Nat} (h0 : 0 < r) (hr : r < 9218868437227405312) : ∃ K, K = 1076 ∧ sS r ≤ 10 ^ K := by
  obtain ⟨K, hK⟩ : ∃ K, K = 1076 := ⟨_, rfl⟩
  obtain ⟨k, hf, hp, hk, hlt⟩ := rung_form r
  refine ⟨K, hK, ?_⟩
  unfold sS
  split
  · exact Nat.le_trans (Nat.pow_le_pow_left (by decide) _) (Nat.pow_le_pow_right (by decide) (by omega))
  · exact Nat.le_trans (Nat.pow_le_pow_left (by decide) _) (Nat.pow_le_pow_right (by decide) (by omega))
theorem sV_len {r : Nat} (h0 : 0 < r) (hr : r < 9218868437227405312) : (decDigits (sV r)).length ≤ 1093 := by
  obtain ⟨l1, l2, l3⟩ := low_lt h0
  obtain ⟨n, d1, d2, d3⟩ := dec_bounds (c := sV r) (by omega)
  obtain ⟨K, hK, hS⟩ := sS_le h0 hr
  obtain ⟨k, hf, hp, hk, hlt⟩ := rung_form r
  have h1 : sV r < 10 ^ 17 * 10 ^ K := by
    unfold sV
    exact Nat.lt_of_lt_of_le (Nat.mul_lt_mul_of_pos_right (show 4 * rmag Ieee.double r < 10 ^ 17 by omega) (sS_pos r)) (Nat.mul_le_mul_left _ hS)
  rw [← Nat.pow_add] at h1
  have := pow10_lt (Nat.lt_of_le_of_lt d2 h1)
  omega
theorem len_le {x N : Nat} (hx : x ≠ 0) (h : x < 10 ^ N) : (decDigits x).length ≤ N := by
  obtain ⟨n, h1, h2, h3⟩ := dec_bounds hx
  have := pow10_lt (Nat.lt_of_le_of_lt h2 h)
  omega
/-- The decimals beside a number, as texts. -/
theorem dn_text (V j : Nat) (h : V / 10 ^ j ≠ 0) : decDigits (dnN V j) = decDigits (V / 10 ^ j) ++ List.replicate j 48 := dec_zeros (Nat.pos_of_ne_zero h) j
theorem up_text (V j : Nat) : decDigits (upN V j) = decDigits (V / 10 ^ j + 1) ++ List.replicate j 48 := by
  rw [← dec_zeros (c := V / 10 ^ j + 1) (Nat.succ_pos _) j, Nat.add_mul, Nat.one_mul]
  rfl
end Fl
set_option maxHeartbeats 4000000 in
set_option maxRecDepth 100000 in
theorem shortest36_any (b : Nat) (hb : b < 18446744073709551616) (h0 : 0 < b % 9223372036854775808) (hr : b % 9223372036854775808 < 9218868437227405312) {c z : Nat} (hS : Fl.Short (b % 9223372036854775808) c z) (w : World) (hL : Laid w) :
    Calls Tryz.prog 36 #[.string ⟨(Fl.txt b).toArray⟩] w fun x w' => x = .returned (.tuple #[.string ⟨(Fl.expB (decide (9223372036854775808 ≤ b)) c (Fl.sX (b % 9223372036854775808) + z)).toArray⟩, .int .i64 0]) ∧ Below w.heap.size w w' := by
  have FI := Lib.hid (fun W hW => finite_num b hb hr W hW)
  have o2 := ord_zero hb hr
  rw [decide_eq_false (by omega)] at o2
  have o3 := ord_neg hb h0 hr
  have SP : ∀ W, Laid W → Calls Tryz.prog 66 #[.float .f64 b] W fun x w' => x = .returned (.tuple #[.int .u64 (Fl.om (b % 9223372036854775808) : Int), .int .i64 (Fl.oe (b % 9223372036854775808))]) ∧ w' = W := fun W hW => split_any b W hb h0 hr hW
  obtain ⟨r, hrr⟩ : ∃ r, b % 9223372036854775808 = r := ⟨_, rfl⟩
  rw [hrr] at SP h0 hr hS ⊢
  obtain ⟨SF, hSF⟩ : ∃ S : ByteArray, (⟨(Fl.txt b).toArray⟩ : ByteArray) = S := ⟨_, rfl⟩
  rw [hSF] at FI ⊢
  obtain ⟨g, hg⟩ : ∃ g, decide (9223372036854775808 ≤ b) = g := ⟨_, rfl⟩
  rw [hg] at o3 ⊢
  obtain ⟨RES, hRES⟩ : ∃ B : ByteArray, (⟨(Fl.expB g c (Fl.sX r + z)).toArray⟩ : ByteArray) = B := ⟨_, rfl⟩
  rw [hRES]
  have HRES := Lib.hid hRES
  clear hRES
  have hSC := fun y hy hy0 W hW => scaledS r y h0 hr hy hy0 W hW
  have DR := fun i hi => dbl_round (r := r) (i := i) h0 hi
  obtain ⟨de1, de2⟩ := dbl_end (r := r) h0
  obtain ⟨pb1, pb2⟩ := place_bounds h0 hr
  obtain ⟨_, _, pb3, _⟩ := Fl.om_bounds h0 hr
  obtain ⟨M, hM⟩ : ∃ M, Fl.rmag Ieee.double r = M := ⟨_, rfl⟩
  obtain ⟨P, hP⟩ : ∃ P, Fl.rplace Ieee.double r = P := ⟨_, rfl⟩
  obtain ⟨tz, htz⟩ : ∃ t, tzN (Fl.rmag Ieee.double r) = t := ⟨_, rfl⟩
  obtain ⟨m0, hm0⟩ : ∃ m, Fl.om r = m := ⟨_, rfl⟩
  obtain ⟨x0, hx0⟩ : ∃ x, Fl.oe r = x := ⟨_, rfl⟩
  have hM0 := Fl.rmag_pos (f := Ieee.double) h0
  obtain ⟨kk, hf, hp, hk, hlt⟩ := Fl.rung_form r
  rw [htz, hm0, hx0] at DR
  rw [htz, hm0, hM] at de1
  rw [htz, hx0, hP] at de2
  rw [hm0, hx0] at SP
  rw [hx0] at pb3
  rw [hP] at hSC pb1 pb2 hp
  rw [hM] at hM0 hk hlt hf
  have hMP : M < 4503599627370496 → P = -1074 := by omega
  have LN : ∀ (m : Nat), m < 18446744073709551616 → ∀ W, Calls Tryz.prog 67 #[.int .u64 (m : Int)] W fun x w' => x = .returned (.int .i64 (Lib.bitLen m)) ∧ w' = W := fun m hm W => by
    have := Tryz.bits_Len64 (m : Int) W (by omega) (by omega)
    rwa [Int.toNat_natCast] at this
  have LN := Lib.hid LN
  have SP := Lib.hid SP
  have HSC := Lib.hid hSC
  have HDR := Lib.hid DR
  have HDE := Lib.hid (And.intro de1 de2)
  have HMP := Lib.hid (And.intro hMP (And.intro hM0 hlt))
  have HPB := Lib.hid (And.intro pb1 (And.intro pb2 pb3))
  have HL := Lib.hid hL
  have HS := Lib.hid hS
  have HR := Lib.hid (And.intro h0 (And.intro hr (And.intro hM hP)))
  clear hb h0 hr hS hSF hg hSC DR de1 de2 hM hP htz hm0 hx0 hM0 hf hp hk hlt hMP hL hrr pb1 pb2 pb3
  go_enter Tryz.func36, Tryz.ntmps36
  go_wp2_with fail
  refine (FI.out _ HL.out).mono ?_
  rintro y w1 ⟨rfl, hb1⟩
  have hL1 := HL.out.on hb1
  go_wp2_with fail
  refine (SP.out _ hL1).mono ?_
  rintro y w2 ⟨rfl, rfl⟩
  go_upto_block 0 with fail
  obtain ⟨w3, hw3⟩ : ∃ W, W = w2 := ⟨_, rfl⟩
  subst hw3
  go_cut [6, 7] (fun t6 t7 wx => t6 = .int .u64 (M : Int) ∧ t7 = .int .i64 P ∧ wx = w3)
  case first =>
    go_wp2_with fail
    go_loopg [6, 7] tz (fun f t6 t7 wx => ∃ i : Nat, i + f = tz ∧ t6 = .int .u64 ((m0 * 2 ^ i : Nat) : Int) ∧ t7 = .int .i64 (x0 - (i : Int)) ∧ wx = w3)
    case atStart => exact ⟨0, by omega, by simp, by simp, rfl⟩
    case round =>
      obtain ⟨i, hif, e6, e7, hww⟩ := hrel
      subst hww
      cases gk with
      | zero =>
        obtain rfl : i = tz := by omega
        rw [HDE.out.1] at e6
        rw [HDE.out.2] at e7
        subst e6 e7
        have LM := Lib.hid (fun W => LN.out M (by have := HMP.out.2.2; omega) W)
        by_cases hfull : M < 4503599627370496
        · obtain rfl : P = -1074 := HMP.out.1 hfull
          have b1 := bitLen_small HMP.out.2.1 hfull
          obtain ⟨bl, hbl⟩ : ∃ bl, Lib.bitLen M = bl := ⟨_, rfl⟩
          rw [hbl] at LM b1
          have d1 : decide ((bl : Int) < 53) = true := decide_eq_true (by omega)
          have d1n : decide (bl < 53) = true := decide_eq_true b1
          clear hbl hfull
          go_wp2_with fail
          refine (LM.out _).mono ?_
          rintro y w4 ⟨rfl, rfl⟩
          go_wp2_with fail
          go_meet
          exact ⟨rfl, rfl, rfl⟩
        · have b1 := bitLen_full (by omega) HMP.out.2.2
          rw [b1] at LM
          clear b1 hfull
          go_wp2_with fail
          refine (LM.out _).mono ?_
          rintro y w4 ⟨rfl, rfl⟩
          go_wp2_with fail
          go_meet
          exact ⟨rfl, rfl, rfl⟩
      | succ f =>
        obtain ⟨d1, d2, d3⟩ := HDR.out i (by omega)
        obtain ⟨m, hm⟩ : ∃ m, m0 * 2 ^ i = m := ⟨_, rfl⟩
        obtain ⟨x, hx⟩ : ∃ x, x0 - (i : Int) = x := ⟨_, rfl⟩
        rw [hm] at d1 d2 e6
        rw [hx] at d3 e7
        subst e6 e7
        have b1 := bitLen_small d2 d1
        have LM := Lib.hid (fun W => LN.out m (by omega) W)
        obtain ⟨bl, hbl⟩ : ∃ bl, Lib.bitLen m = bl := ⟨_, rfl⟩
        rw [hbl] at LM b1
        have c1 : decide ((bl : Int) < 53) = true := decide_eq_true (by omega)
        have c1n : decide (bl < 53) = true := decide_eq_true b1
        have c2 : decide ((-1074 : Int) < x) = true := decide_eq_true d3
        have HM := Lib.hid (And.intro hm (And.intro hx d1))
        have hxb := HPB.out.2.2
        have hx1 : x ≤ 1023 := by omega
        have hw1 : wrap64 (x - 1) = x - 1 := by unfold wrap64; omega
        have hw2 : IntKind.i64.wrap (x - 1) = x - 1 := IntWalk.i64_in _ (by omega)
        clear hbl hm hx d1 d2 hxb
        go_wp2_with fail
        refine (LM.out _).mono ?_
        rintro y w4 ⟨rfl, rfl⟩
        go_wp2_with fail
        go_roundg f
        case measure => omega
        case rel =>
          obtain ⟨e1, e2, e3⟩ := HM.out
          refine ⟨i + 1, by omega, ?_, ?_, rfl⟩
          · rw [show IntKind.u64.wrap ((m : Int) * 2) = ((m * 2 : Nat) : Int) by rw [IntKind.wrap_u64]; omega, ← e1, Nat.pow_succ, Nat.mul_assoc]
          · rw [← e2]
            congr 1
            omega
  case rest =>
    obtain ⟨rfl, rfl, rfl⟩ := hcut
    obtain ⟨w4, hw4⟩ : ∃ W, W = wc := ⟨_, rfl⟩
    subst hw4
    obtain ⟨hMP, hM0, hM2⟩ := HMP.out
    obtain ⟨ev, hev⟩ : ∃ ev, (M % 2 == 0) = ev := ⟨_, rfl⟩
    have g1 : bits .and .u64 (M : Int) 1 = ((M % 2 : Nat) : Int) := by
      have h1 := u64_and_nat M 1 (by omega) (by decide)
      rw [Nat.and_one_is_mod] at h1
      exact h1
    have g2 : (((M % 2 : Nat) : Int) == 0) = ev := by
      rw [← hev]
      rcases Nat.mod_two_eq_zero_or_one M with h | h <;> rw [h] <;> rfl
    have g2' : (((M : Int) % 2) == 0) = ev := by rw [← g2]; rfl
    have g3 : IntKind.u64.wrap (4 * (M : Int)) = ((4 * M : Nat) : Int) := by rw [IntKind.wrap_u64]; omega
    obtain ⟨q, hq⟩ : ∃ q, 4 * M = q := ⟨_, rfl⟩
    rw [hq] at g3
    have g4 : IntKind.u64.wrap ((q : Int) - 2) = ((q - 2 : Nat) : Int) := by rw [IntKind.wrap_u64]; omega
    have g5 : IntKind.u64.wrap ((q : Int) - 1) = ((q - 1 : Nat) : Int) := by rw [IntKind.wrap_u64]; omega
    have g6 : IntKind.u64.wrap ((q : Int) + 2) = ((q + 2 : Nat) : Int) := by rw [IntKind.wrap_u64]; omega
    obtain ⟨h0, hr, hM, hP⟩ := HR.out
    obtain ⟨lw, hlw⟩ : ∃ l, Fl.sLow r = l := ⟨_, rfl⟩
    have hlw2 : lw = if M = 4503599627370496 ∧ -1074 < P then q - 1 else q - 2 := by
      rw [← hlw, Fl.sLow, hM, hP, hq]
    have hxw : IntKind.i64.wrap (P - 2) = P - 2 := IntWalk.i64_in _ (by have := HPB.out; omega)
    have hxw' : wrap64 (P - 2) = P - 2 := by unfold wrap64; have := HPB.out; omega
    have S1 := Lib.hid (fun W hW => HSC.out q (by omega) (by omega) W hW)
    have S2 := Lib.hid (fun W hW => HSC.out lw (by rw [hlw2]; split <;> omega) (by rw [hlw2]; split <;> omega) W hW)
    have S3 := Lib.hid (fun W hW => HSC.out (q + 2) (by omega) (by omega) W hW)
    have HLW := Lib.hid hlw2
    have HQ := Lib.hid (And.intro hq (And.intro hlw hev))
    clear hMP hM0 hM2 hev hq hlw hlw2 h0 hr hM hP
    go_upto_region 14 with fail
    obtain ⟨XE, hXE⟩ : ∃ XE, w4.heap.size = XE := ⟨_, rfl⟩
    have hE := heap_alloc_new w4 (.cells #[.bool ev] 4)
    have hba : Below w4.heap.size w4 (w4.alloc (.cells #[.bool ev] 4)) := (Below.refl _ _).alloc (Nat.le_refl _) _
    obtain ⟨wa, hwa⟩ : ∃ wa, w4.alloc (.cells #[.bool ev] 4) = wa := ⟨_, rfl⟩
    rw [hwa, hXE] at hE
    rw [hwa] at hba
    rw [hwa, hXE]
    have hLa := hL1.on hba
    have hca := b_trans hb1 hba
    have HE := Lib.hid hE
    have HA := Lib.hid (And.intro hca hLa)
    clear hwa hXE hE hba hLa hca hL1 hb1 g1 g2 g2'
    go_cut [61] (fun t61 wx => t61 = .bool (decide (M = 4503599627370496 ∧ -1074 < P)) ∧ wx = wa)
    case first =>
      by_cases hm : M = 4503599627370496
      · have c1 : ((M : Int) == 4503599627370496) = true := by rw [beq_iff_eq]; omega
        have c2 : decide (M = 4503599627370496 ∧ -1074 < P) = decide (-1074 < P) := decide_eq_decide.2 (by omega)
        obtain ⟨d, hd⟩ : ∃ d, decide (-1074 < P) = d := ⟨_, rfl⟩
        rw [hd] at c2
        have C2 := Lib.hid c2
        have HM := Lib.hid hm
        clear hm c2
        cases d
        · go_wp2_with fail
          go_meet
          exact ⟨by rw [C2.out], rfl⟩
        · go_wp2_with fail
          go_meet
          exact ⟨by rw [C2.out], rfl⟩
      · have c1 : ((M : Int) == 4503599627370496) = false := by rw [beq_eq_false_iff_ne]; omega
        have c2 : decide (M = 4503599627370496 ∧ -1074 < P) = false := decide_eq_false (by omega)
        have C2 := Lib.hid c2
        clear hm c2
        go_wp2_with fail
        go_meet
        exact ⟨by rw [C2.out], rfl⟩
    case rest =>
      obtain ⟨rfl, rfl⟩ := hcut
      obtain ⟨wa, hw5⟩ : ∃ W, W = wc := ⟨_, rfl⟩
      subst hw5
      go_upto_if 61 with fail
      go_cut [9] (fun t9 wx => t9 = .int .u64 (lw : Int) ∧ wx = wa)
      case first =>
        have hl := HLW.out
        by_cases hm : M = 4503599627370496 ∧ -1074 < P
        · rw [if_pos hm] at hl
          rw [decide_eq_true hm]
          have HLL := Lib.hid hl
          clear hm hl
          go_wp2_with fail
          go_meet
          exact ⟨by rw [HLL.out], rfl⟩
        · rw [if_neg hm] at hl
          rw [decide_eq_false hm]
          have HLL := Lib.hid hl
          clear hm hl
          go_wp2_with fail
          go_meet
          exact ⟨by rw [HLL.out], rfl⟩
      case rest =>
        obtain ⟨rfl, rfl⟩ := hcut
        obtain ⟨wa, hw5⟩ : ∃ W, W = wc := ⟨_, rfl⟩
        subst hw5
        obtain ⟨VB, hVB⟩ : ∃ B : ByteArray, (⟨(decDigits (q * Fl.sS r)).toArray⟩ : ByteArray) = B := ⟨_, rfl⟩
        obtain ⟨LB, hLB⟩ : ∃ B : ByteArray, (⟨(decDigits (lw * Fl.sS r)).toArray⟩ : ByteArray) = B := ⟨_, rfl⟩
        obtain ⟨HB, hHB⟩ : ∃ B : ByteArray, (⟨(decDigits ((q + 2) * Fl.sS r)).toArray⟩ : ByteArray) = B := ⟨_, rfl⟩
        rw [hVB] at S1
        rw [hLB] at S2
        rw [hHB] at S3
        have HT := Lib.hid (And.intro hVB (And.intro hLB hHB))
        clear hVB hLB hHB
        go_wp2_with fail
        refine (S1.out _ HA.out.2).mono ?_
        rintro y w4 ⟨rfl, hb4⟩
        have hL4 := HA.out.2.on hb4
        go_wp2_with fail
        refine (S2.out _ hL4).mono ?_
        rintro y w5 ⟨rfl, hb5⟩
        have hL5 := hL4.on hb5
        go_wp2_with fail
        refine (S3.out _ hL5).mono ?_
        rintro y w6 ⟨rfl, hb6⟩
        have hL6 := hL5.on hb6
        have hab := (hb4.trans (hb5.mono hb4.size))
        have habc := hab.trans (hb6.mono hab.size)
        have HB6 := Lib.hid habc
        have HL6 := Lib.hid hL6
        clear hL4 hL5 hL6 hb4 hb5 hb6 hab habc
        go_upto_region 19 with fail
        have qq := two_blocks w6 (.cells #[.string LB] 9) (.cells #[.string HB] 9)
        obtain ⟨wB, hwB⟩ : ∃ wB, (w6.alloc (.cells #[.string LB] 9)).alloc (.cells #[.string HB] 9) = wB := ⟨_, rfl⟩
        obtain ⟨X, hX⟩ : ∃ X, w6.heap.size = X := ⟨_, rfl⟩
        rw [hwB, hX] at qq
        rw [hwB, hX]
        obtain ⟨q1, q2, q3, q4⟩ := qq
        have hEb := lt_of_block HE.out
        have hsz := HB6.out.size
        have hCells : ∀ W, Below wB.heap.size wB W → W.cell? ⟨X, 0, none⟩ = some (.string LB) ∧ W.cell? ⟨X + 1, 0, none⟩ = some (.string HB) ∧ W.cell? ⟨XE, 0, none⟩ = some (.bool ev) := fun W hW => by
          refine ⟨at_block ((hW.block X (by omega)).trans q1) 0 _ rfl, at_block ((hW.block (X + 1) (by omega)).trans q2) 0 _ rfl, ?_⟩
          have e1 := (hW.block XE (by omega)).trans ((q3.block XE (by omega)).trans ((HB6.out.block XE hEb).trans HE.out))
          exact at_block e1 0 _ rfl
        have hLB := HL6.out.on (show Below w6.heap.size w6 wB by rw [hX]; exact q3)
        have hcB := (HA.out.1.trans (HB6.out.mono HA.out.1.size)).trans (q3.mono (by have := HA.out.1.size; omega))
        have HC := Lib.hid hCells
        have HLB2 := Lib.hid hLB
        have HCB := Lib.hid hcB
        have HXq := Lib.hid hX
        clear hwB hX q1 q2 q3 q4 hEb hsz hCells hLB hcB g3 g4 g5 g6
        have hmin : min (P - 2) 0 = Fl.sX r := by unfold Fl.sX; rw [HR.out.2.2.2]
        obtain ⟨sx, hsx⟩ : ∃ s, Fl.sX r = s := ⟨_, rfl⟩
        rw [hsx] at hmin
        obtain ⟨h0, hr, hM, hP⟩ := HR.out
        obtain ⟨hq, hlw, hev⟩ := HQ.out
        have hlen := Fl.sV_len h0 hr
        obtain ⟨l1, l2, l3⟩ := Fl.low_lt h0
        have hpk := HS.out.fac
        obtain ⟨hr1, hr2⟩ := HS.out.range h0 hr
        have hodd := HS.out.odd
        rw [hsx] at hr1 hr2
        obtain ⟨n0, dd1, dd2, dd3⟩ := Fl.dec_bounds (c := Fl.sV r) (by omega)
        have hzb : (decDigits c).length + z ≤ 5000 := by
          have h1 : Fl.sPick r ≤ 10 ^ (n0 + 1) := Fl.pick_le dd3 _ (by omega)
          rw [hpk] at h1
          obtain ⟨n2, ee1, ee2, ee3⟩ := Fl.dec_bounds (c := c) (by omega)
          have h2 : 10 ^ (n2 + z) ≤ c * 10 ^ z := by rw [Nat.pow_add]; exact Nat.mul_le_mul_right _ ee2
          have h3 := Nat.le_trans h2 h1
          have h4 : n2 + z ≤ n0 + 1 := by
            rcases Nat.lt_or_ge (n0 + 1) (n2 + z) with h | h
            · have := Nat.pow_lt_pow_right (a := 10) (by decide) h
              omega
            · exact h
          omega
        have hsxb : -100000 ≤ sx ∧ sx ≤ 100000 := by rw [← hsx]; unfold Fl.sX; rw [hP]; have := HPB.out; omega
        unfold Fl.sPick at hpk
        unfold Fl.sV at hpk hlen l1 l2
        rw [hM, hev, hlw, hq] at hpk
        rw [hM, hq] at hlen
        rw [hM, hlw, hq] at l1
        rw [hlw] at l3
        rw [hM, hq] at l2
        have CA := fun W hW => canonical_zeros g c z sx hodd hzb (by omega) hsxb W hW
        have hRES := HRES.out
        rw [hsx] at hRES
        rw [hRES] at CA
        have CA := Lib.hid CA
        obtain ⟨V, hV⟩ : ∃ V, q * Fl.sS r = V := ⟨_, rfl⟩
        obtain ⟨LO, hLO⟩ : ∃ V, lw * Fl.sS r = V := ⟨_, rfl⟩
        obtain ⟨HI, hHI⟩ : ∃ V, (q + 2) * Fl.sS r = V := ⟨_, rfl⟩
        obtain ⟨hT1, hT2, hT3⟩ := HT.out
        rw [hV] at hT1 hpk hlen l1 l2
        rw [hLO] at hT2 hpk l1 l3
        rw [hHI] at hT3 hpk l2
        have l4 : HI ≤ 2 * V := by
          rw [← hHI, ← hV, ← Nat.mul_assoc]
          refine Nat.mul_le_mul_right _ ?_
          have := HMP.out.2.1
          omega
        obtain ⟨L, hL⟩ : ∃ L, (decDigits V).length = L := ⟨_, rfl⟩
        have hVs : VB.size = L := by rw [← hT1, str_size, hL]
        rw [hL] at hpk hlen
        have hLp : 0 < L := by rw [← hL]; exact List.length_pos_iff.2 (Dc.dec_ne V)
        have HV := Lib.hid (And.intro hT1 (And.intro hT2 (And.intro hT3 (And.intro l1 (And.intro l2 (And.intro l3 (And.intro hL l4)))))))
        have HP := Lib.hid hpk
        have HLL := Lib.hid (And.intro hlen hLp)
        clear h0 hr hM hP hq hlw hev hlen l1 l2 l3 l4 hpk hr1 hr2 hodd dd1 dd2 dd3 hzb hsxb hRES hV hLO hHI hT1 hT2 hT3 hL hsx hLp
        rw [hmin]
        go_wp2_with fail
        go_loopg [15, 16, 17, 18, 19, 20, 21] (L - 1) (fun f t15 _ _ _ _ _ _ wx => ∃ n : Nat, t15 = .int .i64 (n : Int) ∧ n + f = L ∧ 0 < n ∧ Fl.pickN V LO HI ev f = c * 10 ^ z ∧ Below wB.heap.size wB wx)
        case atStart => exact ⟨1, rfl, by have := HLL.out.2; omega, by omega, HP.out, Below.refl _ _⟩
        case round =>
          obtain ⟨n, rfl, hnf, hn0, hpk, hbx⟩ := hrel
          have hlen := HLL.out.1
          cases gk with
          | zero =>
            obtain rfl : n = L := by omega
            have hin : decide ((n : Int) < (n : Int)) = false := decide_eq_false (by omega)
            have CV := Lib.hid (fun W hW => CA.out W hW)
            rw [← hpk, Fl.pickN, HV.out.1] at CV
            have HBX := Lib.hid hbx
            clear hpk hbx hnf
            go_wp2_with fail
            refine (CV.out _ (HLB2.out.on HBX.out)).mono ?_
            rintro y w9 ⟨rfl, hb9⟩
            go_wp2_with fail
            go_ret2
            exact ⟨rfl, b_trans (b_trans HCB.out HBX.out) hb9⟩
          | succ j =>
            have hnL : n < L := by omega
            have hin : decide ((n : Int) < (L : Int)) = true := decide_eq_true (by omega)
            have hinn : decide (n < L) = true := decide_eq_true hnL
            have hnLi : (n : Int) ≤ (L : Int) := by omega
            have hn0i : (0 : Int) ≤ (n : Int) := by omega
            obtain ⟨hT1, hT2, hT3, l1, l2, l3, hL, l4⟩ := HV.out
            have hV0 : V ≠ 0 := by omega
            obtain ⟨k1, k2, k3⟩ := Fl.dec_cut (v := V) (n := n) (j := j + 1) hV0 (by rw [hL]; omega) hn0
            obtain ⟨n1, y1, y2, y3⟩ := Fl.dec_bounds hV0
            have hVL : V < 10 ^ L := by rw [← hL, y1]; exact y3
            have hVL2 : 2 * V < 10 ^ (L + 1) := by rw [Nat.pow_succ]; omega
            have w1 : IntKind.i64.wrap ((L : Int) - (n : Int)) = ((j + 1 : Nat) : Int) := by have := IntWalk.i64_in ((L : Int) - (n : Int)) (by omega); rw [this]; omega
            have RP := fun W => zeros_of (j + 1) W (by omega)
            obtain ⟨t, ht⟩ : ∃ t, V / 10 ^ (j + 1) = t := ⟨_, rfl⟩
            have hup := Fl.up_text V (j + 1)
            have hdn := Fl.dn_text V (j + 1) k3
            rw [ht] at k1 k2 k3 hup hdn
            have htV : t ≤ V := by rw [← ht]; exact Nat.div_le_self _ _
            have ht1 : (decDigits (t + 1)).length ≤ L + 1 := Fl.len_le (by omega) (by omega)
            have NF := fun W => next_any t k3 (by omega) W
            obtain ⟨ZB, hZB⟩ : ∃ B : ByteArray, (⟨(List.replicate (j + 1) (48 : UInt8)).toArray⟩ : ByteArray) = B := ⟨_, rfl⟩
            obtain ⟨HD, hHD⟩ : ∃ B : ByteArray, (⟨(decDigits t).toArray⟩ : ByteArray) = B := ⟨_, rfl⟩
            obtain ⟨UD, hUD⟩ : ∃ B : ByteArray, (⟨(decDigits (t + 1)).toArray⟩ : ByteArray) = B := ⟨_, rfl⟩
            rw [hZB] at RP
            rw [hHD, hUD] at NF
            have zs : ZB.size = j + 1 := by rw [← hZB, str_size]; simp
            have hds : HD.size = n := by rw [← hHD, str_size, k2]
            have uds : UD.size ≤ L + 1 := by rw [← hUD, str_size]; exact ht1
            have e1 : VB.extract 0 n = HD := by
              apply ByteArray.ext
              apply Array.toList_inj.1
              rw [data_to, ← hT1, ← hHD]
              show (decDigits V).take n = decDigits t
              rw [k1, List.take_append_of_le_length (by omega), List.take_of_length_le (by omega)]
            obtain ⟨DN, hDN⟩ : ∃ B, HD ++ ZB = B := ⟨_, rfl⟩
            obtain ⟨UP, hUP⟩ : ∃ B, UD ++ ZB = B := ⟨_, rfl⟩
            have a1 := fun W => run_string_add_sum (P := Tryz.prog) (w := W) HD ZB (by rw [hds, zs]; omega)
            have a2 := fun W => run_string_add_sum (P := Tryz.prog) (w := W) UD ZB (by rw [zs]; omega)
            rw [hDN] at a1
            rw [hUP] at a2
            have hDs : DN.size = L := by rw [← hDN, ByteArray.size_append, hds, zs]; omega
            have hUs : UP.size ≤ 2 * L + 1 := by rw [← hUP, ByteArray.size_append, zs]; omega
            have hDt : (⟨(decDigits (Fl.dnN V (j + 1))).toArray⟩ : ByteArray) = DN := by rw [hdn, ← hDN, ← hHD, ← hZB, str_append]
            have hUt : (⟨(decDigits (Fl.upN V (j + 1))).toArray⟩ : ByteArray) = UP := by rw [hup, ← hUP, ← hUD, ← hZB, str_append]
            have hLs : LB.size ≤ L := by rw [← hT2, str_size]; exact Fl.len_le (by omega) (by omega)
            have hHs : HB.size ≤ L + 1 := by rw [← hT3, str_size]; exact Fl.len_le (by omega) (by omega)
            have hd0 : Fl.dnN V (j + 1) ≠ 0 := by
              unfold Fl.dnN
              rw [ht]
              exact Nat.mul_ne_zero k3 (by have := Fl.pow10_pos (j + 1); omega)
            have hu0 : Fl.upN V (j + 1) ≠ 0 := by have := Fl.pow10_pos (j + 1); unfold Fl.upN; omega
            have i1 := insideP_dec hd0 (show LO ≠ 0 by omega) (show HI ≠ 0 by omega) ev
            have i2 := insideP_dec hu0 (show LO ≠ 0 by omega) (show HI ≠ 0 by omega) ev
            rw [hDt, hT2, hT3] at i1
            rw [hUt, hT2, hT3] at i2
            have ID := fun W h => inside_any DN LB HB ev ⟨X, 0, none⟩ ⟨X + 1, 0, none⟩ ⟨XE, 0, none⟩ W (HC.out W h).1 (HC.out W h).2.1 (HC.out W h).2.2 (by omega) (by omega) (by omega)
            have IU := fun W h => inside_any UP LB HB ev ⟨X, 0, none⟩ ⟨X + 1, 0, none⟩ ⟨XE, 0, none⟩ W (HC.out W h).1 (HC.out W h).2.1 (HC.out W h).2.2 (by omega) (by omega) (by omega)
            rw [i1] at ID
            rw [i2] at IU
            obtain ⟨ia, hia⟩ : ∃ x, Fl.insideN (Fl.dnN V (j + 1)) LO HI ev = x := ⟨_, rfl⟩
            obtain ⟨ib, hib⟩ : ∃ x, Fl.insideN (Fl.upN V (j + 1)) LO HI ev = x := ⟨_, rfl⟩
            rw [hia] at ID
            rw [hib] at IU
            have ID := Lib.hid ID
            have IU := Lib.hid IU
            have RP := Lib.hid RP
            have NF := Lib.hid NF
            have HK := Lib.hid (And.intro k1 (And.intro k2 (And.intro k3 (And.intro ht (And.intro hZB (And.intro hDt (And.intro hUt (And.intro hia (And.intro hib (And.intro hpk hT1))))))))))
            have HBX := Lib.hid hbx
            clear hT1 hT2 hT3 l1 l2 l3 l4 hL hV0 k1 k2 k3 y1 y2 y3 hVL hVL2 ht hup hdn htV ht1 hZB hHD hUD hds uds hDN hUP hDs hUs hDt hUt hLs hHs hd0 hu0 i1 i2 hia hib hpk
            go_wp2_with fail
            refine (RP.out _).mono ?_
            rintro y w7 ⟨rfl, hb7⟩
            have hb7 := b_trans hbx hb7
            go_upto_region 23 with fail
            go_region_held3 (fun W => Below wB.heap.size wB W) ((first | assumption | exact b_drew (by assumption))) (first | (go_at_call 77; refine (NF.out _).mono ?_; rintro x w8 ⟨rfl, hb8⟩; have hb8' := b_trans (by assumption) hb8))
            clear hb7 hb8
            go_wp2_with fail
            refine (ID.out _ hb8').mono ?_
            rintro y w9 ⟨rfl, hb9⟩
            have hb9' := b_trans hb8' hb9
            go_wp2_with fail
            refine (IU.out _ hb9').mono ?_
            rintro y w10 ⟨rfl, hb10⟩
            have hb10' := b_trans hb9' hb10
            clear hb8' hb9 hb9' hb10
            go_upto_region 25 with fail
            obtain ⟨k1, k2, k3, ht, hZB, hDt, hUt, hia, hib, hpk, hT1⟩ := HK.out
            obtain ⟨VT, hVT⟩ : ∃ VT, VB.extract n L = VT := ⟨_, rfl⟩
            obtain ⟨Z1, hZ1⟩ : ∃ Z1, ZB.extract 1 (j + 1) = Z1 := ⟨_, rfl⟩
            obtain ⟨HF, hHF⟩ : ∃ HF : ByteArray, (⟨#[53]⟩ : ByteArray) ++ Z1 = HF := ⟨_, rfl⟩
            have hVl : VT.data.toList = Fl.fixB (j + 1) V := by
              rw [← hVT, data_extract, ← hT1]
              show ((decDigits V).drop n).take (L - n) = _
              rw [k1, List.drop_append_of_le_length (by omega), List.drop_of_length_le (by omega), List.nil_append, List.take_of_length_le (by rw [Fl.fixB_len]; omega)]
            have hZl : Z1.data.toList = List.replicate j 48 := by
              rw [← hZ1, data_extract, ← hZB]
              show ((List.replicate (j + 1) (48 : UInt8)).drop 1).take (j + 1 - 1) = _
              rw [List.drop_replicate, List.take_replicate]
              congr 1
              omega
            have hZs : Z1.size = j := by
              have h1 : Z1.size = Z1.data.toList.length := by rw [Array.length_toList]; rfl
              rw [h1, hZl, List.length_replicate]
            have hHl : HF.data.toList = Fl.fixB (j + 1) (5 * 10 ^ j) := by rw [Fl.fix_five, ← hHF]; simp [hZl]
            have a3 := fun W => run_string_add_sum (P := Tryz.prog) (w := W) ⟨#[53]⟩ Z1 (by rw [hZs]; show 1 + j ≤ _; omega)
            rw [hHF] at a3
            have CM := fun W => Tryz.strings_Compare VT HF W
            have hmod : (5 * 10 ^ j) % 10 ^ (j + 1) = 5 * 10 ^ j := Nat.mod_eq_of_lt (by rw [Nat.pow_succ]; have := Fl.pow10_pos j; omega)
            rw [hVl, hHl, Fl.cmp_fix, hmod] at CM
            obtain ⟨sgv, hsg⟩ : ∃ s, Fl.sg (V % 10 ^ (j + 1)) (5 * 10 ^ j) = s := ⟨_, rfl⟩
            rw [hsg] at CM
            have CM := Lib.hid CM
            have w2 : (1 : Int) ≤ ((j + 1 : Nat) : Int) := by omega
            have w2' : (1 : Int) ≤ (j : Int) + 1 := by omega
            have HSG := Lib.hid hsg
            clear k1 k2 k3 ht hZB hDt hUt hia hib hpk hT1 hVl hZl hZs hHl hmod hsg hHF
            go_region_held3 (fun W => Below wB.heap.size wB W) ((first | assumption | exact b_drew (by assumption))) (first | (go_at_call 78; with_reducible refine (CM.out _).mono ?_; rintro x w8 ⟨rfl, rfl⟩))
            have hbq := b_drew hb10'
            obtain ⟨wq, hwq⟩ : ∃ W, W = w10.drew := ⟨_, rfl⟩
            rw [← hwq] at hbq ⊢
            clear hwq hb10' hbx
            obtain ⟨G, hG⟩ : ∃ G, Fl.goDn V LO HI ev (j + 1) = G := ⟨_, rfl⟩
            have hG2 := Fl.goDn_sg V LO HI j ev
            obtain ⟨k1, k2, k3, ht, hZB, hDt, hUt, hia, hib, hpk, hT1⟩ := HK.out
            rw [hG, hia, hib, HSG.out, ht] at hG2
            obtain ⟨par, hpar⟩ : ∃ p, (t % 2 == 0) = p := ⟨_, rfl⟩
            rw [hpar] at hG2
            obtain ⟨p, rfl⟩ : ∃ p, n = p + 1 := ⟨n - 1, by omega⟩
            obtain ⟨ll, hll⟩ := Fl.dec_last t
            have hlll : ll.length = p := by have := congrArg List.length hll; rw [k2] at this; simp at this; omega
            have hplt : p < VB.size := by omega
            have hby : (VB[p]'hplt).toNat = 48 + t % 10 := by
              have e : VB[p]'hplt = UInt8.ofNat (48 + t % 10) := by
                subst hT1
                show (decDigits V).toArray[p] = _
                simp only [List.getElem_toArray, k1, hll]
                rw [List.getElem_append_left (by simp; omega), List.getElem_append_right (by omega)]
                simp [hlll]
              rw [e, Dc.dig_toNat (by omega)]
            obtain ⟨xx, hxx⟩ : ∃ x, 48 + t % 10 = x := ⟨_, rfl⟩
            rw [hxx] at hby
            obtain ⟨d, hd⟩ : ∃ d, t % 10 = d := ⟨_, rfl⟩
            obtain ⟨pr, hpr⟩ : ∃ d, t % 2 = d := ⟨_, rfl⟩
            have w3 : IntKind.i64.wrap (((p + 1 : Nat) : Int) - 1) = (p : Int) := by have := IntWalk.i64_in (((p + 1 : Nat) : Int) - 1) (by omega); rw [this]; omega
            have w3' : IntKind.i64.wrap ((p : Int) + 1 - 1) = (p : Int) := by have := IntWalk.i64_in ((p : Int) + 1 - 1) (by omega); rw [this]; omega
            have w3n : IntKind.i64.wrap (p : Int) = (p : Int) := IntWalk.i64_in _ (by omega)
            have w4 : IntKind.u8.wrap ((xx : Int) - 48) = (d : Int) := by rw [IntKind.wrap_u8]; omega
            have w5 : (d : Int) % 2 = (pr : Int) := by omega
            have w5' : Int.tmod (d : Int) 2 = (pr : Int) := by rw [Int.tmod_eq_emod_of_nonneg (by omega)]; exact w5
            have w6 : IntKind.u8.wrap (pr : Int) = (pr : Int) := by rw [IntKind.wrap_u8]; omega
            have w7 : ((pr : Int) == 0) = par := by
              rw [← hpar, hpr]
              by_cases h : pr = 0
              · subst h; rfl
              · have h1 : ((pr : Int) == 0) = false := by rw [beq_eq_false_iff_ne]; omega
                have h2 : (pr == 0) = false := by rw [beq_eq_false_iff_ne]; omega
                rw [h1, h2]
            have hp0 : (0 : Int) ≤ (p : Int) := by omega
            have hpL : (p : Int) < (L : Int) := by omega
            have hs3 : sgv = -1 ∨ sgv = 0 ∨ sgv = 1 := by
              rw [← HSG.out]
              unfold Fl.sg
              split
              · exact .inl rfl
              · split
                · exact .inr (.inr rfl)
                · exact .inr (.inl rfl)
            have hpb : p ≤ 100000 := by omega
            have HNX := Lib.hid (And.intro (show p + 2 + j = L by omega) (And.intro (Nat.succ_pos (p + 1)) (And.intro (wrap_two p hpb) (And.intro (wrap_two' p hpb) (wrap_two'' p hpb)))))
            have HG := Lib.hid hG
            have HG2 := Lib.hid hG2
            clear k1 k2 k3 ht hZB hDt hUt hia hib hpk hT1 hG hG2 hpar hll hlll hxx hd hpr
            go_upto_region 26 with fail
            go_cut [119] (fun t119 wx => t119 = .bool G ∧ wx = wq)
            case first =>
              cases ia with
              | false =>
                go_wp2_with fail
                go_meet
                exact ⟨by rw [HG2.out]; rfl, rfl⟩
              | true =>
                cases ib with
                | false =>
                  go_wp2_with fail
                  go_meet
                  exact ⟨by rw [HG2.out]; rfl, rfl⟩
                | true =>
                  rcases hs3 with rfl | rfl | rfl
                  · go_wp2_with fail
                    go_meet
                    exact ⟨by rw [HG2.out]; rfl, rfl⟩
                  · cases par with
                    | true =>
                      go_wp2_with fail
                      go_meet
                      exact ⟨by rw [HG2.out]; rfl, rfl⟩
                    | false =>
                      go_wp2_with fail
                      go_meet
                      exact ⟨by rw [HG2.out]; rfl, rfl⟩
                  · go_wp2_with fail
                    go_meet
                    exact ⟨by rw [HG2.out]; rfl, rfl⟩
            case rest =>
              obtain ⟨rfl, rfl⟩ := hcut
              obtain ⟨wq, hwq⟩ : ∃ W, W = wc := ⟨_, rfl⟩
              subst hwq
              obtain ⟨k1, k2, k3, ht, hZB, hDt, hUt, hia, hib, hpk, hT1⟩ := HK.out
              rw [Fl.pickN, HG.out, hib] at hpk
              have hLq := HLB2.out.on hbq
              have HBQ := Lib.hid (And.intro (b_trans HCB.out hbq) (And.intro hLq hbq))
              clear k1 k2 k3 ht hZB hia hib hT1 hLq hbq w3 w3' w3n w4 w5 w5' w6 w7 hby hs3
              cases G with
              | true =>
                rw [if_pos rfl] at hpk
                have CD := Lib.hid (fun W hW => CA.out W hW)
                rw [← hpk, hDt] at CD
                clear hpk hDt hUt
                go_wp2_with fail
                refine (CD.out _ HBQ.out.2.1).mono ?_
                rintro y w11 ⟨rfl, hb11⟩
                go_wp2_with fail
                go_ret2
                exact ⟨rfl, b_trans HBQ.out.1 hb11⟩
              | false =>
                rw [if_neg (by simp)] at hpk
                cases ib with
                | true =>
                  rw [if_pos rfl] at hpk
                  have CD := Lib.hid (fun W hW => CA.out W hW)
                  rw [← hpk, hUt] at CD
                  clear hpk hDt hUt
                  go_wp2_with fail
                  refine (CD.out _ HBQ.out.2.1).mono ?_
                  rintro y w11 ⟨rfl, hb11⟩
                  go_wp2_with fail
                  go_ret2
                  exact ⟨rfl, b_trans HBQ.out.1 hb11⟩
                | false =>
                  rw [if_neg (by simp)] at hpk
                  have HPK := Lib.hid hpk
                  have g9 := HNX.out.2.2.1
                  have g9' := HNX.out.2.2.2.1
                  have g9n := HNX.out.2.2.2.2
                  clear hpk hDt hUt
                  go_wp2_with fail
                  go_roundg j
                  case measure => exact Nat.lt_succ_self _
                  case rel => exact ⟨p + 2, rfl, HNX.out.1, HNX.out.2.1, HPK.out, HBQ.out.2.2⟩
end Go.Proofs.YtjapgpmoojfhnaaGreatDoor

namespace Go.Proofs.YtjapgpmoojfhnaaGreatDoor
open Go.RowKit Go.Lib

/-- What scaled and its like hold: the result's box. -/
theorem box_kept {w1 W : World} {X : Nat} {v : Value} (hx : w1.heap[X]? = some (.cells #[.bool false, v] 33 (0, 0))) (hb : Below w1.heap.size w1 W) : W.heap[X]? = some (.cells #[.bool false, v] 33 (0, 0)) := (hb.block X (lt_of_block hx)).trans hx
theorem ret_num {w w7 : World} {X m c u : Nat} {A : Option Addr} (hb : Below w.heap.size w w7) (hX : w.heap.size = X) (hc : m ≤ c) (ha : ∀ b off, A = some ⟨b, off, none⟩ → X < b) (hr : Reads w7 w7.heap.size A m (u8s (Fl.digL u))) :
    (∃ A' m' c', m' ≤ c' ∧ (∀ b off, A' = some ⟨b, off, none⟩ → w.heap.size < b) ∧ Reads ((w7.setCell ⟨X, 0, none⟩ (.bool false)).setCell ⟨X, 1, none⟩ (.slice A m c)) ((w7.setCell ⟨X, 0, none⟩ (.bool false)).setCell ⟨X, 1, none⟩ (.slice A m c)).heap.size A' m' (u8s (Fl.digL u)) ∧
      Ending.returned (.agg #[.bool false, .slice A m c]) = .returned (.agg #[.bool false, .slice A' m' c'])) ∧ Below w.heap.size w ((w7.setCell ⟨X, 0, none⟩ (.bool false)).setCell ⟨X, 1, none⟩ (.slice A m c)) := by
  refine ⟨⟨A, m, c, hc, fun b off he => by have := ha b off he; omega, ?_, rfl⟩, ?_⟩
  · refine hr.kept (by simp [World.setCell]) (fun b off he _ => ?_)
    have := ha b off he
    rw [Below.heap_setCell _ _ _ _ (show b ≠ X by omega), Below.heap_setCell _ _ _ _ (show b ≠ X by omega)]
  · exact (hb.setCell (p := ⟨X, 0, none⟩) (by show w.heap.size ≤ X; omega) _).setCell (p := ⟨X, 1, none⟩) (by show w.heap.size ≤ X; omega) _
set_option maxHeartbeats 2000000 in
set_option maxRecDepth 100000 in
theorem scaled90_pos (y k : Nat) (w : World) (hy : y < 18446744073709551616) (hk : k ≤ 2000) (hN : 2 ^ k < 10 ^ 2000) :
    Calls Tryz.prog 90 #[.int .u64 (y : Int), .int .i64 (k : Int)] w fun x w' => (∃ A' m' c', m' ≤ c' ∧ (∀ b off, A' = some ⟨b, off, none⟩ → w.heap.size < b) ∧ Reads w' w'.heap.size A' m' (u8s (Fl.digL (y * 2 ^ k))) ∧ x = .returned (.agg #[.bool false, .slice A' m' c'])) ∧ Below w.heap.size w w' := by
  have OY := Lib.hid (fun W => of64_any y W hy)
  have PW := Lib.hid (fun W => power_any 2 k W (by decide) (by decide) hk hN)
  have c0 : decide ((0 : Int) ≤ (k : Int)) = true := decide_eq_true (by omega)
  have hk0 : (0 : Int) ≤ (k : Int) := by omega
  have hl2 := few (Nat.le_refl (2 ^ k)) hN
  have hl1 : (Fl.digL y).length ≤ 2000 := by
    by_cases h : y = 0
    · rw [h, Fl.digL_zero]; exact Nat.zero_le _
    · have := Fl.len_le (N := 20) h (by omega)
      rw [Fl.dec_length h] at this
      omega
  obtain ⟨P, hP⟩ : ∃ P, 2 ^ k = P := ⟨_, rfl⟩
  rw [hP] at PW hl2 ⊢
  obtain ⟨w1, hw1⟩ : ∃ w1 : World, w.alloc (.cells #[.bool false, .slice none 0 0] 33) = w1 := ⟨_, rfl⟩
  obtain ⟨X, hX⟩ : ∃ X, w.heap.size = X := ⟨_, rfl⟩
  have hx1 := heap_alloc_new w (.cells #[.bool false, .slice none 0 0] 33)
  have hb1 : Below w.heap.size w w1 := by rw [← hw1]; exact (Below.refl _ _).alloc (Nat.le_refl _) _
  rw [hw1, hX] at hx1
  have HW1 := Lib.hid (And.intro hw1 (And.intro hX (And.intro hx1 hb1)))
  clear hw1 hX hx1 hb1 hN hy hk hP
  go_enter Tryz.func90, Tryz.ntmps90
  go_upto_region 1 with fail
  rw [HW1.out.1, HW1.out.2.1]
  go_wp2_with fail
  refine (OY.out _).mono ?_
  rintro x w2 ⟨v1, rfl, ho1, hb2⟩
  obtain ⟨A1, c1, rfl, hc1, hr1⟩ := own_slice ho1
  go_wp2_with fail
  refine (PW.out _).mono ?_
  rintro x w3 ⟨⟨A2, m2, c2, hc2, ha2, hr2, rfl⟩, hb3⟩
  have hl3 : m2 ≤ 2000 := by have h := hr2.1; rw [u8s_len] at h; omega
  have MU := Lib.hid (mul_ri A1 A2 (Fl.digL y).length m2 c1 c2 y P w3 (hr1.on hb3) hr2 hl1 hl3)
  have HB3 := Lib.hid (b_trans hb2 hb3)
  clear ho1 hr1 hr2 hb2 hb3 ha2
  go_wp2_with fail
  refine (MU.out).mono ?_
  rintro x w4 ⟨⟨A3, m3, c3, hc3, ha3, hr3, rfl⟩, hb4⟩
  have hb14 := b_trans HB3.out hb4
  have hx4 := box_kept HW1.out.2.2.1 hb14
  have r0 := at_block hx4 0 _ rfl
  have r1 := at_block hx4 1 _ rfl
  have s0 := free_block hx4 0
  have s1 := free_block hx4 1
  have HE := Lib.hid (ret_num (b_trans HW1.out.2.2.2 hb14) HW1.out.2.1 hc3 (fun b off he => by have h1 := ha3 b off he; have h2 := HB3.out.size; have h3 := lt_of_block HW1.out.2.2.1; omega) hr3)
  clear hb14 hx4 hc3 ha3 hr3 hb4
  go_wp2_with fail
  refine bodyPost_ret (v := .agg #[.bool false, .slice A3 m3 c3]) (by simp [results, Tryz.results90, go_sem, r0, r1]) rfl ?_
  exact HE.out
set_option maxHeartbeats 2000000 in
set_option maxRecDepth 100000 in
theorem scaled90_neg (y k : Nat) (w : World) (hy : y < 18446744073709551616) (hk : k ≤ 2000) (hk0 : 0 < k) (hN : 5 ^ k < 10 ^ 2000) :
    Calls Tryz.prog 90 #[.int .u64 (y : Int), .int .i64 (-(k : Int))] w fun x w' => (∃ A' m' c', m' ≤ c' ∧ (∀ b off, A' = some ⟨b, off, none⟩ → w.heap.size < b) ∧ Reads w' w'.heap.size A' m' (u8s (Fl.digL (y * 5 ^ k))) ∧ x = .returned (.agg #[.bool false, .slice A' m' c'])) ∧ Below w.heap.size w w' := by
  have OY := Lib.hid (fun W => of64_any y W hy)
  have PW := Lib.hid (fun W => power_any 5 k W (by decide) (by decide) hk hN)
  have c0 : decide ((0 : Int) ≤ -(k : Int)) = false := decide_eq_false (by omega)
  have hkn : ¬ (0 : Int) ≤ -(k : Int) := by omega
  have g0 : IntKind.i64.wrap (-(-(k : Int))) = (k : Int) := by rw [Int.neg_neg]; exact IntWalk.i64_in _ (by omega)
  have g0' : IntKind.i64.wrap (k : Int) = (k : Int) := IntWalk.i64_in _ (by omega)
  have hl2 := few (Nat.le_refl (5 ^ k)) hN
  have hl1 : (Fl.digL y).length ≤ 2000 := by
    by_cases h : y = 0
    · rw [h, Fl.digL_zero]; exact Nat.zero_le _
    · have := Fl.len_le (N := 20) h (by omega)
      rw [Fl.dec_length h] at this
      omega
  obtain ⟨P, hP⟩ : ∃ P, 5 ^ k = P := ⟨_, rfl⟩
  rw [hP] at PW hl2 ⊢
  obtain ⟨w1, hw1⟩ : ∃ w1 : World, w.alloc (.cells #[.bool false, .slice none 0 0] 33) = w1 := ⟨_, rfl⟩
  obtain ⟨X, hX⟩ : ∃ X, w.heap.size = X := ⟨_, rfl⟩
  have hx1 := heap_alloc_new w (.cells #[.bool false, .slice none 0 0] 33)
  have hb1 : Below w.heap.size w w1 := by rw [← hw1]; exact (Below.refl _ _).alloc (Nat.le_refl _) _
  rw [hw1, hX] at hx1
  have HW1 := Lib.hid (And.intro hw1 (And.intro hX (And.intro hx1 hb1)))
  clear hw1 hX hx1 hb1 hN hy hk hP
  go_enter Tryz.func90, Tryz.ntmps90
  go_upto_region 1 with fail
  rw [HW1.out.1, HW1.out.2.1]
  go_wp2_with fail
  refine (OY.out _).mono ?_
  rintro x w2 ⟨v1, rfl, ho1, hb2⟩
  obtain ⟨A1, c1, rfl, hc1, hr1⟩ := own_slice ho1
  go_wp2_with fail
  refine (PW.out _).mono ?_
  rintro x w3 ⟨⟨A2, m2, c2, hc2, ha2, hr2, rfl⟩, hb3⟩
  have hl3 : m2 ≤ 2000 := by have h := hr2.1; rw [u8s_len] at h; omega
  have MU := Lib.hid (mul_ri A1 A2 (Fl.digL y).length m2 c1 c2 y P w3 (hr1.on hb3) hr2 hl1 hl3)
  have HB3 := Lib.hid (b_trans hb2 hb3)
  clear ho1 hr1 hr2 hb2 hb3 ha2
  go_wp2_with fail
  refine (MU.out).mono ?_
  rintro x w4 ⟨⟨A3, m3, c3, hc3, ha3, hr3, rfl⟩, hb4⟩
  have hb14 := b_trans HB3.out hb4
  have hx4 := box_kept HW1.out.2.2.1 hb14
  have r0 := at_block hx4 0 _ rfl
  have r1 := at_block hx4 1 _ rfl
  have s0 := free_block hx4 0
  have s1 := free_block hx4 1
  have HE := Lib.hid (ret_num (b_trans HW1.out.2.2.2 hb14) HW1.out.2.1 hc3 (fun b off he => by have h1 := ha3 b off he; have h2 := HB3.out.size; have h3 := lt_of_block HW1.out.2.2.1; omega) hr3)
  clear hb14 hx4 hc3 ha3 hr3 hb4
  go_wp2_with fail
  refine bodyPost_ret (v := .agg #[.bool false, .slice A3 m3 c3]) (by simp [results, Tryz.results90, go_sem, r0, r1]) rfl ?_
  exact HE.out
/-- scaled at a float's place. -/
theorem scaled90_any (r y : Nat) (h0 : 0 < r) (hr : r < 9218868437227405312) (hy : y < 18446744073709551616) (w : World) :
    Calls Tryz.prog 90 #[.int .u64 (y : Int), .int .i64 (Fl.rplace Ieee.double r - 2)] w fun x w' => (∃ A' m' c', m' ≤ c' ∧ (∀ b off, A' = some ⟨b, off, none⟩ → w.heap.size < b) ∧ Reads w' w'.heap.size A' m' (u8s (Fl.digL (y * Fl.sS r))) ∧ x = .returned (.agg #[.bool false, .slice A' m' c'])) ∧ Below w.heap.size w w' := by
  obtain ⟨b1, b2⟩ := place_bounds h0 hr
  obtain ⟨K, hK, hS⟩ := Fl.sS_le h0 hr
  have hS2 : Fl.sS r < 10 ^ 2000 := by
    obtain ⟨N, hN⟩ : ∃ N, N = 2000 := ⟨_, rfl⟩
    rw [← hN]
    exact Nat.lt_of_le_of_lt hS (Nat.pow_lt_pow_right (by decide) (by omega))
  unfold Fl.sS at hS2 ⊢
  by_cases h : 0 ≤ Fl.rplace Ieee.double r - 2
  · rw [if_pos h] at hS2 ⊢
    obtain ⟨k, hk⟩ : ∃ k : Nat, Fl.rplace Ieee.double r - 2 = (k : Int) := ⟨(Fl.rplace Ieee.double r - 2).toNat, by omega⟩
    rw [hk, Int.toNat_natCast] at hS2 ⊢
    exact scaled90_pos y k w hy (by omega) hS2
  · rw [if_neg h] at hS2 ⊢
    obtain ⟨k, hk⟩ : ∃ k : Nat, Fl.rplace Ieee.double r - 2 = -(k : Int) := ⟨(-(Fl.rplace Ieee.double r - 2)).toNat, by omega⟩
    rw [hk, Int.neg_neg, Int.toNat_natCast] at hS2 ⊢
    exact scaled90_neg y k w hy (by omega) (by omega) hS2
end Go.Proofs.YtjapgpmoojfhnaaGreatDoor
