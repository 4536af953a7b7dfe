/- The significand and the exponent of a float. -/
import Derived.Test.YtjapgpmoojfhnaaGreatDoorWalkC
namespace Go.Proofs.YtjapgpmoojfhnaaGreatDoor
open Go.RowKit Go.Lib

theorem and_frac (r : Nat) (h : r < 18446744073709551616) : bits .and .u64 (r : Int) 4503599627370495 = ((r % 4503599627370496 : Nat) : Int) := by
  have h1 := u64_and_nat r 4503599627370495 h (by decide)
  have e : r &&& 4503599627370495 = r % 4503599627370496 := Nat.and_two_pow_sub_one_eq_mod r 52
  rw [e] at h1
  exact h1
theorem or_one (F : Nat) (hF : F < 4503599627370496) : bits .or .u64 (F : Int) 4503599627370496 = ((4503599627370496 + F : Nat) : Int) := by
  have h := or_exp F 1 hF (by decide)
  rw [Nat.one_mul] at h
  exact h
/-- The odd part of a number and how often two divides it. -/
def tzN (m : Nat) : Nat := Lib.ctz 64 m
theorem tz_spec {m : Nat} (h0 : 0 < m) (h : m < 18446744073709551616) : ∃ k, m = 2 ^ tzN m * (2 * k + 1) ∧ tzN m < 64 := by
  unfold tzN Lib.ctz
  rw [if_neg (by omega)]
  exact Lib.ctzFrom_spec 64 m h0 h
set_option maxHeartbeats 1000000 in
set_option maxRecDepth 100000 in
theorem split_any (b : Nat) (w : World) (hb : b < 18446744073709551616) (h0 : 0 < b % 9223372036854775808) (hr : b % 9223372036854775808 < 9218868437227405312) (hL : Laid w) :
    Calls Tryz.prog 66 #[.float .f64 b] w fun x w' => x = .returned (.tuple #[.int .u64 ((Fl.rmag Ieee.double (b % 9223372036854775808) / 2 ^ tzN (Fl.rmag Ieee.double (b % 9223372036854775808)) : Nat) : Int), .int .i64 (Fl.rplace Ieee.double (b % 9223372036854775808) + (tzN (Fl.rmag Ieee.double (b % 9223372036854775808)) : Nat))]) ∧ w' = w := by
  have AB := Lib.hid (fun W => abs_any b W hb)
  obtain ⟨r, hrr⟩ : ∃ r, b % 9223372036854775808 = r := ⟨_, rfl⟩
  rw [hrr] at AB h0 hr ⊢
  have f0 := fun W => run_bits r W
  have f1 := and_frac r (by omega)
  obtain ⟨q, hq⟩ : ∃ q, r / 4503599627370496 = q := ⟨_, rfl⟩
  obtain ⟨F, hF⟩ : ∃ F, r % 4503599627370496 = F := ⟨_, rfl⟩
  have f2 : (r : Int) / 4503599627370496 = (q : Int) := by omega
  have f3 : IntKind.i64.wrap (q : Int) = (q : Int) := IntWalk.i64_in _ (by omega)
  rw [hF] at f1
  obtain ⟨M, hM⟩ : ∃ M, Fl.rmag Ieee.double r = M := ⟨_, rfl⟩
  obtain ⟨p, hp⟩ : ∃ p, Fl.rplace Ieee.double r = p := ⟨_, rfl⟩
  have hM0 : 0 < M := by rw [← hM]; exact Fl.rmag_pos h0
  have hM2 : M < 9007199254740992 := by rw [← hM]; exact Fl.rmag_lt Ieee.double r
  have TZ := Lib.hid (fun W (hW : Laid W) => tz_any M (by omega) W hW.2.2.2.2.1)
  rw [hM, hp]
  obtain ⟨z, hz⟩ : ∃ z, tzN M = z := ⟨_, rfl⟩
  have hz64 : z < 64 := by obtain ⟨_, _, h⟩ := tz_spec hM0 (by omega); rw [← hz]; exact h
  rw [show Lib.ctz 64 M = z from hz] at TZ
  rw [hz]
  have HL := Lib.hid hL
  by_cases hsub : r < 4503599627370496
  · have eM : M = F := by rw [← hM]; unfold Fl.rmag; rw [Fl.d_binade, if_pos hsub]; omega
    have ep : p = -1074 := by rw [← hp]; unfold Fl.rplace; rw [Fl.d_binade, if_pos hsub, Fl.d_least]
    have q0 : ((q : Int) == 0) = true := by rw [beq_iff_eq]; omega
    subst eM ep
    have f4 : IntKind.i64.wrap (-1074 + (z : Int)) = -1074 + (z : Int) := IntWalk.i64_in _ (by omega)
    have hz0 : (0 : Int) ≤ (z : Int) := by omega
    clear hrr hq hF hM hp hM0 hM2 hz hL h0 hr hb hsub
    go_enter Tryz.func66, Tryz.ntmps66
    go_wp2_with fail
    refine (AB.out _).mono ?_
    rintro x w1 ⟨rfl, rfl⟩
    go_wp2_with fail
    refine (TZ.out _ HL.out).mono ?_
    rintro x w2 ⟨rfl, rfl⟩
    go_wp2_with fail
    go_ret2
    exact ⟨by simp, rfl⟩
  · have eM : M = 4503599627370496 + F := by rw [← hM]; unfold Fl.rmag; rw [Fl.d_binade, if_neg hsub, hF]
    have ep : p = (q : Int) - 1075 := by rw [← hp]; unfold Fl.rplace; rw [Fl.d_binade, if_neg hsub, Fl.d_least]; omega
    have q0 : ((q : Int) == 0) = false := by rw [beq_eq_false_iff_ne]; omega
    have f5 := or_one F (by omega)
    rw [← eM] at f5
    have f6 : IntKind.i64.wrap ((q : Int) - 1075) = p := by rw [ep]; exact IntWalk.i64_in _ (by omega)
    have f4 : IntKind.i64.wrap (p + (z : Int)) = p + (z : Int) := IntWalk.i64_in _ (by omega)
    have hz0 : (0 : Int) ≤ (z : Int) := by omega
    clear hrr hq hF hM hp hM0 hM2 hz hL h0 hr hb hsub eM ep
    go_enter Tryz.func66, Tryz.ntmps66
    go_wp2_with fail
    refine (AB.out _).mono ?_
    rintro x w1 ⟨rfl, rfl⟩
    go_wp2_with fail
    refine (TZ.out _ HL.out).mono ?_
    rintro x w2 ⟨rfl, rfl⟩
    go_wp2_with fail
    go_ret2
    exact ⟨by simp, rfl⟩
end Go.Proofs.YtjapgpmoojfhnaaGreatDoor
