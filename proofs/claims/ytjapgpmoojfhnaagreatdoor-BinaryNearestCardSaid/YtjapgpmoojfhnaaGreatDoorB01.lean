/- Floating-point numbers, plainly: a number that a format has is its own nearest. Floating-point numbers are ordered as their words' rungs are. Whole numbers as floating-point numbers; products with powers of two. The nearest word of a format, found as the program finds it. The words of the small formats as words of sixty-four bits. -/
import Ieee.Arith
import Derived.Laws.FloatBits
set_option maxHeartbeats 16000000
set_option maxRecDepth 100000
set_option linter.unusedSimpArgs false
set_option linter.unusedVariables false
namespace Go.Proofs.YtjapgpmoojfhnaaGreatDoor.Fl
open Ieee
def rmag (f : Format) (r : Nat) : Nat := if r < f.binade then r else f.binade + r % f.binade
def rplace (f : Format) (r : Nat) : Int := if r < f.binade then f.leastPlace else f.leastPlace + ((r / f.binade - 1 : Nat) : Int)
theorem binade_pos (f : Format) : 0 < f.binade := Nat.two_pow_pos _
theorem rmag_pos {f : Format} {r : Nat} (h : 0 < r) : 0 < rmag f r := by
 unfold rmag
 split
 · exact h
 · have := binade_pos f; omega
theorem rmag_lt (f : Format) (r : Nat) : rmag f r < 2 ^ (f.fractionBits + 1) := by
 have h2 : 2 ^ (f.fractionBits + 1) = 2 * f.binade := by rw [Nat.pow_succ, Nat.mul_comm]; rfl
 unfold rmag
 split
 · omega
 · have := Nat.mod_lt r (binade_pos f); omega
theorem read_rung (f : Format) (neg : Bool) {r : Nat} (h : r < f.infRung) : f.read (f.word neg r) = .number neg (rmag f r) (rplace f r) := by
 have hs := f.infRung_lt
 have hw : 0 < f.signWeight := Nat.two_pow_pos _
 have h1 : (f.word neg r) % f.signWeight = r := by
  unfold Format.word
  cases neg
  · simp only [Bool.false_eq_true, if_false]; exact Nat.mod_eq_of_lt (by omega)
  · simp only [if_true]; rw [Nat.add_mod_left]; exact Nat.mod_eq_of_lt (by omega)
 have h2 : ((f.word neg r) / f.signWeight % 2 == 1) = neg := by
  unfold Format.word
  cases neg
  · simp only [Bool.false_eq_true, if_false]; rw [Nat.div_eq_of_lt (by omega)]; rfl
  · simp only [if_true]; rw [Nat.add_div_left _ hw, Nat.div_eq_of_lt (by omega)]; rfl
 unfold Format.read rmag rplace
 simp only [h1, h2, h, if_true]
 split <;> rfl
theorem log2_shift {m d : Nat} (hm : m ≠ 0) : (m * 2 ^ d).log2 = m.log2 + d := by
 have h2 : m * 2 ^ d ≠ 0 := Nat.mul_ne_zero hm (Nat.ne_of_gt (Nat.two_pow_pos _))
 have a1 : 2 ^ m.log2 ≤ m := (Nat.le_log2 hm).1 (Nat.le_refl _)
 have a2 : m < 2 ^ (m.log2 + 1) := (Nat.log2_lt hm).1 (Nat.lt_succ_self _)
 have b1 : m.log2 + d ≤ (m * 2 ^ d).log2 := (Nat.le_log2 h2).2 (by rw [Nat.pow_add]; exact Nat.mul_le_mul_right _ a1)
 have b2 : (m * 2 ^ d).log2 < m.log2 + 1 + d := (Nat.log2_lt h2).2 (by rw [Nat.pow_add]; exact Nat.mul_lt_mul_of_pos_right a2 (Nat.two_pow_pos _))
 omega
theorem last_place (f : Format) {r : Nat} (h0 : 0 < r) : max (rplace f r + (rmag f r).log2 - f.fractionBits) f.leastPlace = rplace f r := by
 have hm := rmag_pos (f := f) h0
 unfold rplace
 unfold rmag at hm ⊢
 split
 · rename_i hr
   have : r.log2 < f.fractionBits := (Nat.log2_lt (by omega)).2 hr
   omega
 · rename_i hr
   rw [if_neg hr] at hm
   have hlt := Nat.mod_lt r (binade_pos f)
   have e1 : f.fractionBits ≤ (f.binade + r % f.binade).log2 := (Nat.le_log2 (by omega)).2 (by show f.binade ≤ _; omega)
   have e2 : (f.binade + r % f.binade).log2 < f.fractionBits + 1 := (Nat.log2_lt (by omega)).2 (by rw [Nat.pow_succ]; show _ < f.binade * 2; omega)
   have e3 : (f.binade + r % f.binade).log2 = f.fractionBits := by omega
   rw [e3]
   omega
theorem rung_of (f : Format) (r : Nat) : (rplace f r - f.leastPlace).toNat * f.binade + rmag f r = r := by
 unfold rplace rmag
 split
 · simp
 · rename_i hr
   have e : (f.leastPlace + ((r / f.binade - 1 : Nat) : Int) - f.leastPlace).toNat = r / f.binade - 1 := by omega
   rw [e]
   have h1 : 1 ≤ r / f.binade := (Nat.one_le_div_iff (binade_pos f)).2 (by omega)
   have h2 := Nat.div_add_mod r f.binade
   have h3 : (r / f.binade - 1) * f.binade + f.binade = r / f.binade * f.binade := by
    rw [← Nat.succ_mul]; congr 1; omega
   have h4 : r / f.binade * f.binade = f.binade * (r / f.binade) := Nat.mul_comm _ _
   omega
theorem cut_exact (m d : Nat) (neg : Bool) (hm : m ≠ 0) : Toward.even.cut neg (m * 2 ^ d) d = m := by
 unfold Toward.cut
 have hl := log2_shift (d := d) hm
 have hmin : min d ((m * 2 ^ d).log2 + 2) = d := by omega
 have hp : 0 < 2 ^ d := Nat.two_pow_pos _
 simp only [hmin, Nat.shiftLeft_eq, Nat.one_mul, Nat.mul_mod_left, Nat.mul_div_cancel _ hp, Nat.mul_zero]
 have h1 : decide (2 ^ d < 0) = false := by simp
 have h2 : ((2 ^ d == 0) : Bool) = false := by rw [beq_eq_false_iff_ne]; omega
 simp [h2]
theorem nearest_exact (f : Format) (neg : Bool) {r mag : Nat} {place : Int} (h0 : 0 < r) (hr : r < f.infRung)
 (h : (∃ d : Nat, mag = rmag f r * 2 ^ d ∧ place + d = rplace f r) ∨ (∃ d : Nat, rmag f r = mag * 2 ^ d ∧ rplace f r + d = place)) : f.nearest neg mag place = f.word neg r := by
 have hm := rmag_pos (f := f) h0
 have hl := last_place f h0
 have hg := rung_of f r
 have hmag : mag ≠ 0 := by
  rcases h with ⟨d, h1, _⟩ | ⟨d, h1, _⟩
  · rw [h1]; exact Nat.mul_ne_zero (by omega) (Nat.ne_of_gt (Nat.two_pow_pos _))
  · intro h2; rw [h2] at h1; omega
 have hlast : max (place + mag.log2 - f.fractionBits) f.leastPlace = rplace f r := by
  rcases h with ⟨d, h1, h2⟩ | ⟨d, h1, h2⟩
  · rw [h1, log2_shift (by omega)]
    rw [show place + ((rmag f r).log2 + d : Nat) - (f.fractionBits : Int) = rplace f r + (rmag f r).log2 - f.fractionBits by omega]
    exact hl
  · rw [h1, log2_shift hmag] at hl
    rw [show place + (mag.log2 : Int) - (f.fractionBits : Int) = rplace f r + (mag.log2 + d : Nat) - f.fractionBits by omega]
    exact hl
 unfold Format.nearest
 rw [if_neg hmag]
 simp only [hlast]
 have hk : Toward.even.cut neg (mag <<< (place - rplace f r).toNat) (rplace f r - place).toNat = rmag f r := by
  rcases h with ⟨d, h1, h2⟩ | ⟨d, h1, h2⟩
  · rw [show (place - rplace f r).toNat = 0 by omega, show (rplace f r - place).toNat = d by omega, Nat.shiftLeft_zero, h1]
    exact cut_exact _ _ _ (by omega)
  · rw [show (place - rplace f r).toNat = d by omega, show (rplace f r - place).toNat = 0 by omega, Nat.shiftLeft_eq, ← h1]
    have := cut_exact (rmag f r) 0 neg (by omega)
    simpa using this
 rw [hk, hg, Nat.min_eq_left (by omega)]
def val (f : Format) (r : Nat) : Nat := rmag f r * 2 ^ (rplace f r - f.leastPlace).toNat
theorem val_low {f : Format} {r : Nat} (h : r < f.binade) : val f r = r := by
 simp [val, rmag, rplace, h]
theorem val_high {f : Format} {r : Nat} (h : ¬ r < f.binade) : val f r = (f.binade + r % f.binade) * 2 ^ (r / f.binade - 1) := by
 have e : (f.leastPlace + ((r / f.binade - 1 : Nat) : Int) - f.leastPlace).toNat = r / f.binade - 1 := by omega
 simp only [val, rmag, rplace, h, if_false, e]
theorem val_zero (f : Format) : val f 0 = 0 := val_low (binade_pos f)
theorem val_succ (f : Format) (r : Nat) : val f r < val f (r + 1) := by
 have hb := binade_pos f
 by_cases h1 : r + 1 < f.binade
 · rw [val_low h1, val_low (by omega)]; omega
 · by_cases h2 : r < f.binade
   · have e : r + 1 = f.binade := by omega
     rw [val_low h2, val_high h1, e, Nat.mod_self, Nat.div_self hb]
     simp; omega
   · rw [val_high h2, val_high h1]
     have hd := Nat.div_add_mod r f.binade
     have ht := Nat.mod_lt r hb
     have hq : 1 ≤ r / f.binade := (Nat.one_le_div_iff hb).2 (by omega)
     obtain ⟨q, hq'⟩ : ∃ q, r / f.binade = q + 1 := ⟨r / f.binade - 1, by omega⟩
     obtain ⟨t, htt⟩ : ∃ t, r % f.binade = t := ⟨_, rfl⟩
     rw [hq', htt] at hd
     rw [htt] at ht
     by_cases h3 : t + 1 < f.binade
     · have e1 : (r + 1) / f.binade = q + 1 := by
        rw [← hd, Nat.add_assoc, Nat.mul_add_div hb, Nat.div_eq_of_lt h3]
       have e2 : (r + 1) % f.binade = t + 1 := by
        rw [← hd, Nat.add_assoc, Nat.mul_add_mod, Nat.mod_eq_of_lt h3]
       rw [e1, e2, hq', htt]
       exact Nat.mul_lt_mul_of_pos_right (by omega) (Nat.two_pow_pos _)
     · have e0 : r + 1 = f.binade * (q + 2) := by
        rw [← hd, Nat.mul_add f.binade q 2, Nat.mul_add f.binade q 1]; omega
       have e1 : (r + 1) / f.binade = q + 2 := by rw [e0, Nat.mul_div_cancel_left _ hb]
       have e2 : (r + 1) % f.binade = 0 := by rw [e0, Nat.mul_mod_right]
       rw [e1, e2, hq', htt, show q + 1 - 1 = q by omega, show q + 2 - 1 = q + 1 by omega, Nat.pow_succ, Nat.add_zero, ← Nat.mul_assoc, Nat.mul_right_comm]
       exact Nat.mul_lt_mul_of_pos_right (by omega) (Nat.two_pow_pos _)
theorem val_lt {f : Format} {r s : Nat} (h : r < s) : val f r < val f s := by
 induction s with
 | zero => omega
 | succ s ih =>
   by_cases h2 : r = s
   · subst h2; exact val_succ f r
   · exact Nat.lt_trans (ih (by omega)) (val_succ f s)
def sval (f : Format) (neg : Bool) (r : Nat) : Int := if neg then -(val f r : Int) else (val f r : Int)
theorem place_ge (f : Format) (r : Nat) : f.leastPlace ≤ rplace f r := by
 unfold rplace; split <;> omega
theorem signed_val (f : Format) (neg : Bool) (r : Nat) {base : Int} (h1 : f.leastPlace ≤ base) (h2 : base ≤ rplace f r) :
 sval f neg r = signed neg (rmag f r) (rplace f r - base).toNat * (2 ^ (base - f.leastPlace).toNat : Nat) := by
 have e : (rplace f r - f.leastPlace).toNat = (rplace f r - base).toNat + (base - f.leastPlace).toNat := by omega
 unfold sval val signed
 rw [e, Nat.pow_add, ← Nat.mul_assoc, Nat.shiftLeft_eq]
 split
 · rw [Int.natCast_mul, Int.neg_mul]
 · rw [Int.natCast_mul]
theorem compare_mul (a b : Int) (k : Nat) (hk : 0 < k) : compare (a * (k : Int)) (b * (k : Int)) = compare a b := by
 have hk' : (0 : Int) < (k : Int) := by omega
 rcases Int.lt_trichotomy a b with h | h | h
 · have h2 : a * (k : Int) < b * (k : Int) := Int.mul_lt_mul_of_pos_right h hk'
   rw [Int.compare_eq_lt.2 h, Int.compare_eq_lt.2 h2]
 · subst h; simp
 · have h2 : b * (k : Int) < a * (k : Int) := Int.mul_lt_mul_of_pos_right h hk'
   rw [Int.compare_eq_gt.2 h, Int.compare_eq_gt.2 h2]
theorem order_rungs (f : Format) (n m : Bool) (r s : Nat) : Datum.order (.number n (rmag f r) (rplace f r)) (.number m (rmag f s) (rplace f s)) = some (compare (sval f n r) (sval f m s)) := by
 have a1 := place_ge f r
 have a2 := place_ge f s
 have b1 : f.leastPlace ≤ min (rplace f r) (rplace f s) := by omega
 rw [signed_val f n r b1 (by omega), signed_val f m s b1 (by omega), compare_mul _ _ _ (Nat.two_pow_pos _)]
 rfl
theorem d_binade : double.binade = 4503599627370496 := by decide
theorem d_inf : double.infRung = 9218868437227405312 := by decide
theorem d_least : double.leastPlace = -1074 := by decide
def Same (a : Nat) (i : Int) (b : Nat) (j : Int) : Prop := (∃ d : Nat, a = b * 2 ^ d ∧ i + d = j) ∨ (∃ d : Nat, b = a * 2 ^ d ∧ j + d = i)
theorem normal_rung {q F : Nat} (hq : 1 ≤ q) (hF : F < 4503599627370496) : rmag double (q * 4503599627370496 + F) = 4503599627370496 + F ∧ rplace double (q * 4503599627370496 + F) = (q : Int) - 1075 := by
 have h1 : ¬ (q * 4503599627370496 + F < 4503599627370496) := by omega
 have h2 : (q * 4503599627370496 + F) % 4503599627370496 = F := by omega
 have h3 : (q * 4503599627370496 + F) / 4503599627370496 = q := by omega
 unfold rmag rplace
 rw [d_binade, d_least, if_neg h1, if_neg h1, h2, h3]
 exact ⟨rfl, by omega⟩
def fracN (m : Nat) : Nat := m * 2 ^ (52 - m.log2) - 4503599627370496
theorem frac_is {m : Nat} (h0 : 0 < m) (h : m < 9007199254740992) : m.log2 ≤ 52 ∧ fracN m < 4503599627370496 ∧ 4503599627370496 + fracN m = m * 2 ^ (52 - m.log2) := by
 have hl : m.log2 < 53 := (Nat.log2_lt (by omega)).2 h
 have e1 := log2_shift (m := m) (d := 52 - m.log2) (by omega)
 have e2 : (m * 2 ^ (52 - m.log2)).log2 = 52 := by omega
 have hne : m * 2 ^ (52 - m.log2) ≠ 0 := Nat.mul_ne_zero (by omega) (Nat.ne_of_gt (Nat.two_pow_pos _))
 have a1 : 2 ^ 52 ≤ m * 2 ^ (52 - m.log2) := (Nat.le_log2 hne).1 (by omega)
 have a2 : m * 2 ^ (52 - m.log2) < 2 ^ 53 := (Nat.log2_lt hne).1 (by omega)
 unfold fracN
 omega
def wordN (m : Nat) : Nat := (m.log2 + 1023) * 4503599627370496 + fracN m
theorem nearest_nat {m : Nat} (h0 : 0 < m) (h : m < 9007199254740992) : double.nearest false m 0 = wordN m := by
 obtain ⟨hl, hF, hm⟩ := frac_is h0 h
 obtain ⟨r1, r2⟩ := normal_rung (q := m.log2 + 1023) (F := fracN m) (by omega) hF
 refine nearest_exact double false (r := wordN m) (by unfold wordN; omega) (by rw [d_inf]; unfold wordN; omega) (Or.inr ⟨52 - m.log2, ?_, ?_⟩)
 · unfold wordN; rw [r1, hm]
 · unfold wordN; rw [r2]; omega
theorem mul_exact {a b R : Nat} (ha : a < 9218868437227405312) (hb : b < 9218868437227405312) (h0 : 0 < R) (hR : R < 9218868437227405312)
 (h : Same (rmag double a * rmag double b) (rplace double a + rplace double b) (rmag double R) (rplace double R)) : double.mul a b = some R := by
 have e1 := read_rung double false (r := a) (by rw [d_inf]; exact ha)
 have e2 := read_rung double false (r := b) (by rw [d_inf]; exact hb)
 have e3 := nearest_exact double false (r := R) (mag := rmag double a * rmag double b) (place := rplace double a + rplace double b) h0 (by rw [d_inf]; exact hR) h
 show ((double.read a).product (double.read b)).map double.write = some R
 rw [show double.read a = _ from e1, show double.read b = _ from e2]
 show some (double.nearest (false ^^ false) _ _) = some R
 rw [show (false ^^ false) = false from rfl, e3]
 rfl
theorem mul_one {R : Nat} (h0 : 0 < R) (hR : R < 9218868437227405312) : double.mul 4607182418800017408 R = some R := by
 have h1 := normal_rung (q := 1023) (F := 0) (by omega) (by omega)
 refine mul_exact (by decide) hR h0 hR (Or.inl ⟨52, ?_, ?_⟩)
 · rw [show (4607182418800017408 : Nat) = 1023 * 4503599627370496 + 0 from rfl, h1.1]; rw [Nat.mul_comm]
 · rw [show (4607182418800017408 : Nat) = 1023 * 4503599627370496 + 0 from rfl, h1.2]; omega
theorem same_place {m : Nat} {e : Int} {R : Nat} (hm : 0 < m) (h0 : 0 < R) (h : Same m e (rmag double R) (rplace double R)) : (rmag double R).log2 + rplace double R = m.log2 + e := by
 have hr := rmag_pos (f := double) h0
 rcases h with ⟨d, h1, h2⟩ | ⟨d, h1, h2⟩
 · rw [h1, log2_shift (by omega)]; omega
 · rw [h1, log2_shift (by omega)]; omega
theorem rung_bounds {R : Nat} (h0 : 0 < R) (hR : R < 9218868437227405312) : -1074 ≤ ((rmag double R).log2 : Int) + rplace double R ∧ ((rmag double R).log2 : Int) + rplace double R ≤ 1023 ∧ (((rmag double R).log2 : Int) + rplace double R < -1022 → R < 4503599627370496) := by
 have hr := rmag_pos (f := double) h0
 have hlt := rmag_lt double R
 have hl : (rmag double R).log2 < 53 := (Nat.log2_lt (by omega)).2 hlt
 by_cases h : R < 4503599627370496
 · have e : rplace double R = -1074 := by unfold rplace; rw [d_binade, if_pos h, d_least]
   rw [e]; omega
 · obtain ⟨q, F, hq, hF, rfl⟩ : ∃ q F, 1 ≤ q ∧ F < 4503599627370496 ∧ R = q * 4503599627370496 + F := ⟨R / 4503599627370496, R % 4503599627370496, by omega, by omega, by omega⟩
   obtain ⟨r1, r2⟩ := normal_rung hq hF
   rw [r1, r2]
   have g1 : 52 ≤ (4503599627370496 + F).log2 := (Nat.le_log2 (by omega)).2 (by omega)
   have g2 : (4503599627370496 + F).log2 < 53 := (Nat.log2_lt (by omega)).2 (by omega)
   omega
theorem same_normal {m : Nat} {e : Int} {R q : Nat} (h0 : 0 < m) (hm : m < 9007199254740992) (hR0 : 0 < R) (hR : R < 9218868437227405312) (h : Same m e (rmag double R) (rplace double R)) (hq : (q : Int) = e + m.log2 + 1023) (h1 : 1 ≤ q) : R = q * 4503599627370496 + fracN m := by
 obtain ⟨hl, hF, hmm⟩ := frac_is h0 hm
 obtain ⟨r1, r2⟩ := normal_rung (q := q) (F := fracN m) h1 hF
 have hq2 : q ≤ 2046 := by
  have a := same_place h0 hR0 h
  have b := rung_bounds hR0 hR
  omega
 have e1 : double.nearest false m e = q * 4503599627370496 + fracN m := by
  refine nearest_exact double false (by omega) (by rw [d_inf]; omega) (Or.inr ⟨52 - m.log2, ?_, ?_⟩)
  · rw [r1, hmm]
  · rw [r2]; omega
 have e2 : double.nearest false m e = R := nearest_exact double false hR0 (by rw [d_inf]; exact hR) h
 rw [← e1, e2]
theorem same_shift {m R t c : Nat} {e j : Int} (h : Same m e R j) (hd : ∀ d : Nat, j + d = e → d ≤ t + c) : Same (2 ^ c * (m * 2 ^ t)) (e - t - c) R j := by
 rcases h with ⟨d, g1, g2⟩ | ⟨d, g1, g2⟩
 · refine Or.inl ⟨d + t + c, ?_, by omega⟩
   rw [g1, Nat.pow_add, Nat.pow_add, Nat.mul_comm, Nat.mul_assoc, Nat.mul_assoc, Nat.mul_assoc]
 · have := hd d g2
   refine Or.inl ⟨t + c - d, ?_, by omega⟩
   rw [g1, Nat.mul_assoc, ← Nat.pow_add, show d + (t + c - d) = t + c by omega, Nat.pow_add, Nat.mul_comm, Nat.mul_assoc]
theorem two52 : (2 : Nat) ^ 52 = 4503599627370496 := by decide
theorem half53 : rmag double 4368491638549381120 = 4503599627370496 ∧ rplace double 4368491638549381120 = -105 := by
 have h := normal_rung (q := 970) (F := 0) (by omega) (by omega)
 rw [show (4368491638549381120 : Nat) = 970 * 4503599627370496 + 0 from rfl]
 exact ⟨h.1, by rw [h.2]; rfl⟩
theorem small_bounds {m : Nat} {e : Int} {R q : Nat} (h0 : 0 < m) (hR0 : 0 < R) (hR : R < 4503599627370496) (h : Same m e (rmag double R) (rplace double R)) (hq : (q : Int) = e + m.log2 + 1076) (hlow : e + m.log2 < -1022) : 1 ≤ q ∧ q ≤ 60 := by
 have a := same_place h0 hR0 h
 have b := (rung_bounds hR0 (Nat.lt_trans hR (by decide))).1
 generalize ((rmag double R).log2 : Int) = x at a b
 generalize rplace double R = y at a b
 omega
theorem mul_small {m : Nat} {e : Int} {R q : Nat} (h0 : 0 < m) (hm : m < 9007199254740992) (hR0 : 0 < R) (hR : R < 4503599627370496) (h : Same m e (rmag double R) (rplace double R)) (hq : (q : Int) = e + m.log2 + 1076) (hlow : e + m.log2 < -1022) : double.mul 4368491638549381120 (q * 4503599627370496 + fracN m) = some R := by
 obtain ⟨hq1, hq2⟩ := small_bounds h0 hR0 hR h hq hlow
 obtain ⟨hl, hF, hmm⟩ := frac_is h0 hm
 have hlt : q * 4503599627370496 + fracN m < 9218868437227405312 := by clear h hmm; omega
 have hp : (-105 : Int) + ((q : Int) - 1075) = e - (52 - m.log2 : Nat) - (52 : Nat) := by clear h hmm hlt; omega
 have key := same_shift (t := 52 - m.log2) (c := 52) h (fun d hd => by
  have eR : rplace double R = -1074 := by unfold rplace; rw [d_binade, if_pos hR, d_least]
  rw [eR] at hd
  clear h hmm eR hlt hp
  omega)
 rw [two52] at key
 refine mul_exact (by decide) hlt hR0 (Nat.lt_trans hR (by decide)) ?_
 rw [half53.1, half53.2, (normal_rung hq1 hF).1, (normal_rung hq1 hF).2, hmm, hp]
 exact key
def half : Format := { exponentBits := 5, fractionBits := 10 }
def lastP (f : Format) (m : Nat) (e : Int) : Int := max (e + m.log2 - f.fractionBits) f.leastPlace
def rnd (m c : Nat) : Nat := m / 2 ^ c + (if 2 ^ (c - 1) < m % 2 ^ c ∨ (m % 2 ^ c = 2 ^ (c - 1) ∧ m / 2 ^ c % 2 = 1) then 1 else 0)
def keptP (f : Format) (m : Nat) (e : Int) : Nat := if lastP f m e ≤ e then m * 2 ^ (e - lastP f m e).toNat else rnd m (lastP f m e - e).toNat
def wholeP (f : Format) (m : Nat) (e : Int) : Bool := decide (lastP f m e ≤ e) || (m % 2 ^ (lastP f m e - e).toNat == 0)
def exP (f : Format) (m : Nat) (e : Int) : Bool := decide (f.nearest false m e < f.infRung) && wholeP f m e
theorem lt_log (m : Nat) (hm : m ≠ 0) : 2 ^ m.log2 ≤ m ∧ m < 2 ^ (m.log2 + 1) := ⟨(Nat.le_log2 hm).1 (Nat.le_refl _), (Nat.log2_lt hm).1 (Nat.lt_succ_self _)⟩
theorem pow_mono {a b : Nat} (h : a ≤ b) : 2 ^ a ≤ 2 ^ b := Nat.pow_le_pow_right (by decide) h
theorem rnd_far {m c : Nat} (h : m < 2 ^ (c - 1)) (hc : 0 < c) : rnd m c = 0 := by
 have e : 2 ^ c = 2 * 2 ^ (c - 1) := by rw [← Nat.pow_succ']; congr 1; omega
 unfold rnd
 rw [Nat.div_eq_of_lt (by omega), Nat.mod_eq_of_lt (by omega), if_neg (by omega)]
theorem cut_rnd (m c : Nat) (hc : 0 < c) (hm : m ≠ 0) : Toward.even.cut false m c = rnd m c := by
 obtain ⟨h1, h2⟩ := lt_log m hm
 by_cases h : c ≤ m.log2 + 2
 · unfold Toward.cut rnd
   simp only [Nat.shiftLeft_eq, Nat.one_mul, Nat.min_eq_left h]
   have e : 2 ^ c = 2 * 2 ^ (c - 1) := by rw [← Nat.pow_succ']; congr 1; omega
   congr 1
   generalize m % 2 ^ c = R
   generalize m / 2 ^ c = Q
   rw [e]
   generalize 2 ^ (c - 1) = H
   by_cases a1 : H < R
   · rw [if_pos (.inl a1), decide_eq_true (by omega)]; rfl
   · rw [decide_eq_false (by omega)]
     by_cases a2 : R = H
     · by_cases a3 : Q % 2 = 1
       · rw [if_pos (.inr ⟨a2, a3⟩), a2, a3]; simp
       · rw [if_neg (by omega)]; simp [a3]
     · rw [if_neg (by omega)]
       have : (2 * H == 2 * R) = false := by rw [beq_eq_false_iff_ne]; omega
       rw [this]; rfl
 · rw [rnd_far (Nat.lt_of_lt_of_le h2 (pow_mono (by omega))) hc]
   unfold Toward.cut
   simp only [Nat.shiftLeft_eq, Nat.one_mul, Nat.min_eq_right (by omega : m.log2 + 2 ≤ c)]
   have e : 2 ^ (m.log2 + 2) = 2 * 2 ^ (m.log2 + 1) := by rw [← Nat.pow_succ']
   rw [Nat.div_eq_of_lt (by omega), Nat.mod_eq_of_lt (by omega), decide_eq_false (by omega)]
   have : (2 ^ (m.log2 + 2) == 2 * m) = false := by rw [beq_eq_false_iff_ne]; omega
   rw [this]; rfl
theorem nearest_is (f : Format) (m : Nat) (e : Int) (hm : m ≠ 0) : f.nearest false m e = min ((lastP f m e - f.leastPlace).toNat * f.binade + keptP f m e) f.infRung := by
 have hk : Toward.even.cut false (m <<< (e - lastP f m e).toNat) (lastP f m e - e).toNat = keptP f m e := by
  unfold keptP
  by_cases h : lastP f m e ≤ e
  · rw [if_pos h, Nat.shiftLeft_eq, show (lastP f m e - e).toNat = 0 by omega]
    have := cut_exact (m * 2 ^ (e - lastP f m e).toNat) 0 false (Nat.mul_ne_zero hm (Nat.ne_of_gt (Nat.two_pow_pos _)))
    simpa using this
  · rw [if_neg h, show (e - lastP f m e).toNat = 0 by omega, Nat.shiftLeft_zero]
    exact cut_rnd _ _ (by omega) hm
 unfold Format.nearest
 rw [if_neg hm]
 unfold lastP at hk ⊢
 simp only [hk]
 rfl
theorem rnd_le {m c k : Nat} (h : m < 2 ^ (c + k)) : rnd m c ≤ 2 ^ k := by
 have h1 : m / 2 ^ c < 2 ^ k := by rw [Nat.div_lt_iff_lt_mul (Nat.two_pow_pos _), ← Nat.pow_add, Nat.add_comm]; exact h
 unfold rnd
 split <;> omega
theorem rnd_ge {m c k : Nat} (h : 2 ^ (c + k) ≤ m) : 2 ^ k ≤ rnd m c := by
 have h1 : 2 ^ k ≤ m / 2 ^ c := by rw [Nat.le_div_iff_mul_le (Nat.two_pow_pos _), ← Nat.pow_add, Nat.add_comm]; exact h
 unfold rnd
 omega
theorem kept_le (f : Format) (m : Nat) (e : Int) (hm : m ≠ 0) : keptP f m e ≤ 2 ^ (f.fractionBits + 1) ∧ (lastP f m e ≤ e → keptP f m e < 2 ^ (f.fractionBits + 1)) ∧ (f.leastPlace < lastP f m e → 2 ^ f.fractionBits ≤ keptP f m e) := by
 obtain ⟨h1, h2⟩ := lt_log m hm
 have hl : lastP f m e = max (e + m.log2 - f.fractionBits) f.leastPlace := rfl
 unfold keptP
 by_cases h : lastP f m e ≤ e
 · rw [if_pos h]
   obtain ⟨d, hd⟩ : ∃ d, (e - lastP f m e).toNat = d := ⟨_, rfl⟩
   rw [hd]
   have hdl : m.log2 + d ≤ f.fractionBits := by omega
   have a : m * 2 ^ d < 2 ^ (f.fractionBits + 1) := by
    have : m * 2 ^ d < 2 ^ (m.log2 + 1) * 2 ^ d := Nat.mul_lt_mul_of_pos_right h2 (Nat.two_pow_pos _)
    rw [← Nat.pow_add] at this
    exact Nat.lt_of_lt_of_le this (pow_mono (by omega))
   refine ⟨Nat.le_of_lt a, fun _ => a, fun hL => ?_⟩
   have hdq : m.log2 + d = f.fractionBits := by omega
   rw [← hdq, Nat.pow_add]
   exact Nat.mul_le_mul_right _ h1
 · rw [if_neg h]
   obtain ⟨c, hc⟩ : ∃ c, (lastP f m e - e).toNat = c := ⟨_, rfl⟩
   rw [hc]
   refine ⟨rnd_le (Nat.lt_of_lt_of_le h2 (pow_mono (by omega))), fun h' => absurd h' h, fun hL => rnd_ge ?_⟩
   exact Nat.le_trans (pow_mono (by omega)) h1
theorem same_refl (m : Nat) (e : Int) : Same m e m e := Or.inl ⟨0, by simp, by simp⟩
theorem same_word {m : Nat} {e : Int} (h0 : 0 < m) (hm : m < 9007199254740992) (h1 : -1022 ≤ e + m.log2) (h2 : e + m.log2 ≤ 1023) : ∃ R, 0 < R ∧ R < 9218868437227405312 ∧ Same m e (rmag double R) (rplace double R) := by
 obtain ⟨a1, a2, a3⟩ := frac_is h0 hm
 obtain ⟨q, hq⟩ : ∃ q : Nat, (q : Int) = e + m.log2 + 1023 := ⟨(e + m.log2 + 1023).toNat, by omega⟩
 obtain ⟨b1, b2⟩ := normal_rung (q := q) (F := fracN m) (by omega) a2
 refine ⟨q * 4503599627370496 + fracN m, by omega, by omega, ?_⟩
 rw [b1, b2, a3]
 exact .inr ⟨52 - m.log2, rfl, by omega⟩
def Fmt (f : Format) : Prop := f = half ∨ f = single ∨ f = double
theorem wide_num {f : Format} (hf : Fmt f) {r : Nat} (h0 : 0 < r) (hr : r < f.infRung) : ∃ R, 0 < R ∧ R < 9218868437227405312 ∧ Same (rmag f r) (rplace f r) (rmag double R) (rplace double R) := by
 have hm0 := rmag_pos (f := f) h0
 have hm1 := rmag_lt f r
 have hl : (rmag f r).log2 < f.fractionBits + 1 := (Nat.log2_lt (by omega)).2 hm1
 have hp := place_ge f r
 rcases hf with rfl | rfl | rfl
 · have d1 : half.infRung = 31744 := by decide
   have d2 : half.binade = 1024 := by decide
   have d3 : half.leastPlace = -24 := by decide
   have d4 : half.fractionBits = 10 := rfl
   have hp2 : rplace half r ≤ 5 := by unfold rplace; rw [d2, d3]; split <;> omega
   rw [d4] at hl hm1
   rw [d3] at hp
   exact same_word hm0 (by omega) (by omega) (by omega)
 · have d1 : single.infRung = 2139095040 := by decide
   have d2 : single.binade = 8388608 := by decide
   have d3 : single.leastPlace = -149 := by decide
   have d4 : single.fractionBits = 23 := rfl
   have hp2 : rplace single r ≤ 104 := by unfold rplace; rw [d2, d3]; split <;> omega
   rw [d4] at hl hm1
   rw [d3] at hp
   exact same_word hm0 (by omega) (by omega) (by omega)
 · rw [d_inf] at hr
   exact ⟨r, h0, hr, same_refl _ _⟩
def wide (f : Format) (r : Nat) : Nat := if f.infRung < r then 9221120237041090561 else if r = f.infRung then 9218868437227405312 else double.nearest false (rmag f r) (rplace f r)
theorem wide_zero {f : Format} (hf : Fmt f) : wide f 0 = 0 := by
 rcases hf with rfl | rfl | rfl <;> decide
theorem wide_is {f : Format} (hf : Fmt f) {r : Nat} (h0 : 0 < r) (hr : r < f.infRung) : 0 < wide f r ∧ wide f r < 9218868437227405312 ∧ Same (rmag f r) (rplace f r) (rmag double (wide f r)) (rplace double (wide f r)) := by
 obtain ⟨R, h1, h2, h3⟩ := wide_num hf h0 hr
 have e : wide f r = R := by
  unfold wide
  rw [if_neg (by omega), if_neg (by omega)]
  exact nearest_exact double false h1 (by rw [d_inf]; exact h2) h3
 rw [e]
 exact ⟨h1, h2, h3⟩
theorem wide_inf {f : Format} : wide f f.infRung = 9218868437227405312 := by
 unfold wide
 rw [if_neg (by omega), if_pos rfl]
theorem wide_nan {f : Format} {r : Nat} (h : f.infRung < r) : wide f r = 9221120237041090561 := if_pos h
theorem wide_double {r : Nat} (hr : r ≤ 9218868437227405312) : wide double r = r := by
 rcases Nat.eq_or_lt_of_le hr with h | h
 · rw [h]; exact wide_inf
 · by_cases h0 : r = 0
   · subst h0; exact wide_zero (.inr (.inr rfl))
   · unfold wide
     rw [d_inf, if_neg (by omega), if_neg (by omega)]
     exact nearest_exact double false (by omega) (by rw [d_inf]; exact h) (same_refl _ _)
def wideW (f : Format) (b : Nat) : Nat := wide f (b % f.signWeight) + (if f.signWeight ≤ b then 9223372036854775808 else 0)
theorem wide_lt {f : Format} (hf : Fmt f) (r : Nat) : wide f r < 9223372036854775808 := by
 by_cases h1 : f.infRung < r
 · rw [wide_nan h1]; decide
 · by_cases h2 : r = f.infRung
   · rw [h2, wide_inf]; decide
   · by_cases h0 : r = 0
     · rw [h0, wide_zero hf]; decide
     · have := (wide_is hf (r := r) (by omega) (by omega)).2.1
       omega
theorem wideW_mod {f : Format} (hf : Fmt f) (b : Nat) : wideW f b % 9223372036854775808 = wide f (b % f.signWeight) ∧ (9223372036854775808 ≤ wideW f b ↔ f.signWeight ≤ b) ∧ wideW f b < 18446744073709551616 := by
 have := wide_lt hf (b % f.signWeight)
 unfold wideW
 split <;> omega
theorem near_small {f : Format} {m : Nat} {e : Int} (hm : m ≠ 0) (hinf : f.binade ≤ f.infRung) (hk : keptP f m e < f.binade) : f.nearest false m e = keptP f m e ∧ exP f m e = wholeP f m e := by
 obtain ⟨_, _, h3⟩ := kept_le f m e hm
 have hl : lastP f m e = f.leastPlace := by
  have h1 : f.leastPlace ≤ lastP f m e := by unfold lastP; omega
  rcases Int.lt_or_eq_of_le h1 with h | h
  · have := h3 h
    have h4 : f.binade = 2 ^ f.fractionBits := rfl
    omega
  · exact h.symm
 have hn : f.nearest false m e = keptP f m e := by
  rw [nearest_is f m e hm, hl, Int.sub_self]
  simp only [Int.toNat_zero, Nat.zero_mul, Nat.zero_add]
  omega
 refine ⟨hn, ?_⟩
 unfold exP
 rw [hn, decide_eq_true (by omega)]
 rfl
theorem near_big {f : Format} {m : Nat} {e : Int} {B : Nat} (hm : m ≠ 0) (hB : (lastP f m e - f.leastPlace).toNat * f.binade + keptP f m e = B) :
 (f.infRung ≤ B → f.nearest false m e = f.infRung ∧ exP f m e = false) ∧ (B < f.infRung → f.nearest false m e = B ∧ exP f m e = wholeP f m e) := by
 have hn := nearest_is f m e hm
 rw [hB] at hn
 refine ⟨fun h => ?_, fun h => ?_⟩
 · have e1 : f.nearest false m e = f.infRung := by omega
   refine ⟨e1, ?_⟩
   unfold exP
   rw [e1, decide_eq_false (by omega)]
   rfl
 · have e1 : f.nearest false m e = B := by omega
   refine ⟨e1, ?_⟩
   unfold exP
   rw [e1, decide_eq_true h]
   rfl
theorem half_is : half.infRung = 31744 ∧ half.binade = 1024 ∧ half.leastPlace = -24 ∧ half.fractionBits = 10 ∧ half.signWeight = 32768 := by decide
theorem double_is : double.infRung = 9218868437227405312 ∧ double.binade = 4503599627370496 ∧ double.leastPlace = -1074 ∧ double.fractionBits = 52 ∧ double.signWeight = 9223372036854775808 := by decide
end Go.Proofs.YtjapgpmoojfhnaaGreatDoor.Fl
