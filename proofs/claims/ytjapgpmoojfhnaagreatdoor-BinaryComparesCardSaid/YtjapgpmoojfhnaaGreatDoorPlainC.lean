/- Whole numbers as floating-point numbers; products with powers of two. -/
import Derived.Test.YtjapgpmoojfhnaaGreatDoorPlainB
namespace Go.Proofs.YtjapgpmoojfhnaaGreatDoor.Fl
open Ieee

theorem d_binade : double.binade = 4503599627370496 := by decide
theorem d_inf : double.infRung = 9218868437227405312 := by decide
theorem d_least : double.leastPlace = -1074 := by decide
theorem d_sign : double.signWeight = 9223372036854775808 := by decide
/-- Two numbers 'a * 2 ^ i' and 'b * 2 ^ j' are the same. -/
def Same (a : Nat) (i : Int) (b : Nat) (j : Int) : Prop := (∃ d : Nat, a = b * 2 ^ d ∧ i + d = j) ∨ (∃ d : Nat, b = a * 2 ^ d ∧ j + d = i)
theorem normal_rung {q F : Nat} (hq : 1 ≤ q) (hF : F < 4503599627370496) : rmag double (q * 4503599627370496 + F) = 4503599627370496 + F ∧ rplace double (q * 4503599627370496 + F) = (q : Int) - 1075 := by
  have h1 : ¬ (q * 4503599627370496 + F < 4503599627370496) := by omega
  have h2 : (q * 4503599627370496 + F) % 4503599627370496 = F := by omega
  have h3 : (q * 4503599627370496 + F) / 4503599627370496 = q := by omega
  unfold rmag rplace
  rw [d_binade, d_least, if_neg h1, if_neg h1, h2, h3]
  exact ⟨rfl, by omega⟩
/-- The fraction field of a whole number below 2^53. -/
def fracN (m : Nat) : Nat := m * 2 ^ (52 - m.log2) - 4503599627370496
theorem frac_is {m : Nat} (h0 : 0 < m) (h : m < 9007199254740992) : m.log2 ≤ 52 ∧ fracN m < 4503599627370496 ∧ 4503599627370496 + fracN m = m * 2 ^ (52 - m.log2) := by
  have hl : m.log2 < 53 := (Nat.log2_lt (by omega)).2 h
  have e1 := log2_shift (m := m) (d := 52 - m.log2) (by omega)
  have e2 : (m * 2 ^ (52 - m.log2)).log2 = 52 := by omega
  have hne : m * 2 ^ (52 - m.log2) ≠ 0 := Nat.mul_ne_zero (by omega) (Nat.ne_of_gt (Nat.two_pow_pos _))
  have a1 : 2 ^ 52 ≤ m * 2 ^ (52 - m.log2) := (Nat.le_log2 hne).1 (by omega)
  have a2 : m * 2 ^ (52 - m.log2) < 2 ^ 53 := (Nat.log2_lt hne).1 (by omega)
  unfold fracN
  omega
/-- The word of a whole number below 2^53. -/
def wordN (m : Nat) : Nat := (m.log2 + 1023) * 4503599627370496 + fracN m
theorem nearest_nat {m : Nat} (h0 : 0 < m) (h : m < 9007199254740992) : double.nearest false m 0 = wordN m := by
  obtain ⟨hl, hF, hm⟩ := frac_is h0 h
  obtain ⟨r1, r2⟩ := normal_rung (q := m.log2 + 1023) (F := fracN m) (by omega) hF
  refine nearest_exact double false (r := wordN m) (by unfold wordN; omega) (by rw [d_inf]; unfold wordN; omega) (Or.inr ⟨52 - m.log2, ?_, ?_⟩)
  · unfold wordN; rw [r1, hm]
  · unfold wordN; rw [r2]; omega
theorem mul_exact {a b R : Nat} (ha : a < 9218868437227405312) (hb : b < 9218868437227405312) (h0 : 0 < R) (hR : R < 9218868437227405312)
    (h : Same (rmag double a * rmag double b) (rplace double a + rplace double b) (rmag double R) (rplace double R)) : double.mul a b = some R := by
  have e1 := read_rung double false (r := a) (by rw [d_inf]; exact ha)
  have e2 := read_rung double false (r := b) (by rw [d_inf]; exact hb)
  have e3 := nearest_exact double false (r := R) (mag := rmag double a * rmag double b) (place := rplace double a + rplace double b) h0 (by rw [d_inf]; exact hR) h
  show ((double.read a).product (double.read b)).map double.write = some R
  rw [show double.read a = _ from e1, show double.read b = _ from e2]
  show some (double.nearest (false ^^ false) _ _) = some R
  rw [show (false ^^ false) = false from rfl, e3]
  rfl
/-- One times a number. -/
theorem mul_one {R : Nat} (h0 : 0 < R) (hR : R < 9218868437227405312) : double.mul 4607182418800017408 R = some R := by
  have h1 := normal_rung (q := 1023) (F := 0) (by omega) (by omega)
  refine mul_exact (by decide) hR h0 hR (Or.inl ⟨52, ?_, ?_⟩)
  · rw [show (4607182418800017408 : Nat) = 1023 * 4503599627370496 + 0 from rfl, h1.1]; rw [Nat.mul_comm]
  · rw [show (4607182418800017408 : Nat) = 1023 * 4503599627370496 + 0 from rfl, h1.2]; omega
theorem same_place {m : Nat} {e : Int} {R : Nat} (hm : 0 < m) (h0 : 0 < R) (h : Same m e (rmag double R) (rplace double R)) : (rmag double R).log2 + rplace double R = m.log2 + e := by
  have hr := rmag_pos (f := double) h0
  rcases h with ⟨d, h1, h2⟩ | ⟨d, h1, h2⟩
  · rw [h1, log2_shift (by omega)]; omega
  · rw [h1, log2_shift (by omega)]; omega
theorem rung_bounds {R : Nat} (h0 : 0 < R) (hR : R < 9218868437227405312) : -1074 ≤ ((rmag double R).log2 : Int) + rplace double R ∧ ((rmag double R).log2 : Int) + rplace double R ≤ 1023 ∧ (((rmag double R).log2 : Int) + rplace double R < -1022 → R < 4503599627370496) := by
  have hr := rmag_pos (f := double) h0
  have hlt := rmag_lt double R
  have hl : (rmag double R).log2 < 53 := (Nat.log2_lt (by omega)).2 hlt
  by_cases h : R < 4503599627370496
  · have e : rplace double R = -1074 := by unfold rplace; rw [d_binade, if_pos h, d_least]
    rw [e]; omega
  · obtain ⟨q, F, hq, hF, rfl⟩ : ∃ q F, 1 ≤ q ∧ F < 4503599627370496 ∧ R = q * 4503599627370496 + F := ⟨R / 4503599627370496, R % 4503599627370496, by omega, by omega, by omega⟩
    obtain ⟨r1, r2⟩ := normal_rung hq hF
    rw [r1, r2]
    have g1 : 52 ≤ (4503599627370496 + F).log2 := (Nat.le_log2 (by omega)).2 (by omega)
    have g2 : (4503599627370496 + F).log2 < 53 := (Nat.log2_lt (by omega)).2 (by omega)
    omega
/-- Where a number lies whose exponent is that of a normal one. -/
theorem same_normal {m : Nat} {e : Int} {R q : Nat} (h0 : 0 < m) (hm : m < 9007199254740992) (hR0 : 0 < R) (hR : R < 9218868437227405312) (h : Same m e (rmag double R) (rplace double R)) (hq : (q : Int) = e + m.log2 + 1023) (h1 : 1 ≤ q) : R = q * 4503599627370496 + fracN m := by
  obtain ⟨hl, hF, hmm⟩ := frac_is h0 hm
  obtain ⟨r1, r2⟩ := normal_rung (q := q) (F := fracN m) h1 hF
  have hq2 : q ≤ 2046 := by
    have a := same_place h0 hR0 h
    have b := rung_bounds hR0 hR
    omega
  have e1 : double.nearest false m e = q * 4503599627370496 + fracN m := by
    refine nearest_exact double false (by omega) (by rw [d_inf]; omega) (Or.inr ⟨52 - m.log2, ?_, ?_⟩)
    · rw [r1, hmm]
    · rw [r2]; omega
  have e2 : double.nearest false m e = R := nearest_exact double false hR0 (by rw [d_inf]; exact hR) h
  rw [← e1, e2]
theorem same_shift {m R t c : Nat} {e j : Int} (h : Same m e R j) (hd : ∀ d : Nat, j + d = e → d ≤ t + c) : Same (2 ^ c * (m * 2 ^ t)) (e - t - c) R j := by
  rcases h with ⟨d, g1, g2⟩ | ⟨d, g1, g2⟩
  · refine Or.inl ⟨d + t + c, ?_, by omega⟩
    rw [g1, Nat.pow_add, Nat.pow_add, Nat.mul_comm, Nat.mul_assoc, Nat.mul_assoc, Nat.mul_assoc]
  · have := hd d g2
    refine Or.inl ⟨t + c - d, ?_, by omega⟩
    rw [g1, Nat.mul_assoc, ← Nat.pow_add, show d + (t + c - d) = t + c by omega, Nat.pow_add, Nat.mul_comm, Nat.mul_assoc]
theorem two52 : (2 : Nat) ^ 52 = 4503599627370496 := by decide
theorem half53 : rmag double 4368491638549381120 = 4503599627370496 ∧ rplace double 4368491638549381120 = -105 := by
  have h := normal_rung (q := 970) (F := 0) (by omega) (by omega)
  rw [show (4368491638549381120 : Nat) = 970 * 4503599627370496 + 0 from rfl]
  exact ⟨h.1, by rw [h.2]; rfl⟩
/-- The small numbers: with 2^-53 times a normal one. -/
theorem small_bounds {m : Nat} {e : Int} {R q : Nat} (h0 : 0 < m) (hR0 : 0 < R) (hR : R < 4503599627370496) (h : Same m e (rmag double R) (rplace double R)) (hq : (q : Int) = e + m.log2 + 1076) (hlow : e + m.log2 < -1022) : 1 ≤ q ∧ q ≤ 60 := by
  have a := same_place h0 hR0 h
  have b := (rung_bounds hR0 (Nat.lt_trans hR (by decide))).1
  generalize ((rmag double R).log2 : Int) = x at a b
  generalize rplace double R = y at a b
  omega
theorem mul_small {m : Nat} {e : Int} {R q : Nat} (h0 : 0 < m) (hm : m < 9007199254740992) (hR0 : 0 < R) (hR : R < 4503599627370496) (h : Same m e (rmag double R) (rplace double R)) (hq : (q : Int) = e + m.log2 + 1076) (hlow : e + m.log2 < -1022) : double.mul 4368491638549381120 (q * 4503599627370496 + fracN m) = some R := by
  obtain ⟨hq1, hq2⟩ := small_bounds h0 hR0 hR h hq hlow
  obtain ⟨hl, hF, hmm⟩ := frac_is h0 hm
  have hlt : q * 4503599627370496 + fracN m < 9218868437227405312 := by clear h hmm; omega
  have hp : (-105 : Int) + ((q : Int) - 1075) = e - (52 - m.log2 : Nat) - (52 : Nat) := by clear h hmm hlt; omega
  have key := same_shift (t := 52 - m.log2) (c := 52) h (fun d hd => by
    have eR : rplace double R = -1074 := by unfold rplace; rw [d_binade, if_pos hR, d_least]
    rw [eR] at hd
    clear h hmm eR hlt hp
    omega)
  rw [two52] at key
  refine mul_exact (by decide) hlt hR0 (Nat.lt_trans hR (by decide)) ?_
  rw [half53.1, half53.2, (normal_rung hq1 hF).1, (normal_rung hq1 hF).2, hmm, hp]
  exact key
end Go.Proofs.YtjapgpmoojfhnaaGreatDoor.Fl
