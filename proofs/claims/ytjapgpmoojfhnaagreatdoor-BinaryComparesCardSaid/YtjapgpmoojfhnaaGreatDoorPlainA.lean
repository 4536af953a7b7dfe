/- Floating-point numbers, plainly: a number that a format has is its own nearest. -/
import Ieee.Arith
import Derived.Laws.FloatBits
namespace Go.Proofs.YtjapgpmoojfhnaaGreatDoor.Fl
open Ieee

/-- The significand and the place of a rung. -/
def rmag (f : Format) (r : Nat) : Nat := if r < f.binade then r else f.binade + r % f.binade
def rplace (f : Format) (r : Nat) : Int := if r < f.binade then f.leastPlace else f.leastPlace + ((r / f.binade - 1 : Nat) : Int)

theorem binade_pos (f : Format) : 0 < f.binade := Nat.two_pow_pos _
theorem rmag_pos {f : Format} {r : Nat} (h : 0 < r) : 0 < rmag f r := by
  unfold rmag
  split
  · exact h
  · have := binade_pos f; omega
theorem rmag_lt (f : Format) (r : Nat) : rmag f r < 2 ^ (f.fractionBits + 1) := by
  have h2 : 2 ^ (f.fractionBits + 1) = 2 * f.binade := by rw [Nat.pow_succ, Nat.mul_comm]; rfl
  unfold rmag
  split
  · omega
  · have := Nat.mod_lt r (binade_pos f); omega
theorem read_rung (f : Format) (neg : Bool) {r : Nat} (h : r < f.infRung) : f.read (f.word neg r) = .number neg (rmag f r) (rplace f r) := by
  have hs := f.infRung_lt
  have hw : 0 < f.signWeight := Nat.two_pow_pos _
  have h1 : (f.word neg r) % f.signWeight = r := by
    unfold Format.word
    cases neg
    · simp only [Bool.false_eq_true, if_false]; exact Nat.mod_eq_of_lt (by omega)
    · simp only [if_true]; rw [Nat.add_mod_left]; exact Nat.mod_eq_of_lt (by omega)
  have h2 : ((f.word neg r) / f.signWeight % 2 == 1) = neg := by
    unfold Format.word
    cases neg
    · simp only [Bool.false_eq_true, if_false]; rw [Nat.div_eq_of_lt (by omega)]; rfl
    · simp only [if_true]; rw [Nat.add_div_left _ hw, Nat.div_eq_of_lt (by omega)]; rfl
  unfold Format.read rmag rplace
  simp only [h1, h2, h, if_true]
  split <;> rfl
theorem log2_shift {m d : Nat} (hm : m ≠ 0) : (m * 2 ^ d).log2 = m.log2 + d := by
  have h2 : m * 2 ^ d ≠ 0 := Nat.mul_ne_zero hm (Nat.ne_of_gt (Nat.two_pow_pos _))
  have a1 : 2 ^ m.log2 ≤ m := (Nat.le_log2 hm).1 (Nat.le_refl _)
  have a2 : m < 2 ^ (m.log2 + 1) := (Nat.log2_lt hm).1 (Nat.lt_succ_self _)
  have b1 : m.log2 + d ≤ (m * 2 ^ d).log2 := (Nat.le_log2 h2).2 (by rw [Nat.pow_add]; exact Nat.mul_le_mul_right _ a1)
  have b2 : (m * 2 ^ d).log2 < m.log2 + 1 + d := (Nat.log2_lt h2).2 (by rw [Nat.pow_add]; exact Nat.mul_lt_mul_of_pos_right a2 (Nat.two_pow_pos _))
  omega
/-- Where the last digit of a rung's number is kept. -/
theorem last_place (f : Format) {r : Nat} (h0 : 0 < r) : max (rplace f r + (rmag f r).log2 - f.fractionBits) f.leastPlace = rplace f r := by
  have hm := rmag_pos (f := f) h0
  unfold rplace
  unfold rmag at hm ⊢
  split
  · rename_i hr
    have : r.log2 < f.fractionBits := (Nat.log2_lt (by omega)).2 hr
    omega
  · rename_i hr
    rw [if_neg hr] at hm
    have hlt := Nat.mod_lt r (binade_pos f)
    have e1 : f.fractionBits ≤ (f.binade + r % f.binade).log2 := (Nat.le_log2 (by omega)).2 (by show f.binade ≤ _; omega)
    have e2 : (f.binade + r % f.binade).log2 < f.fractionBits + 1 := (Nat.log2_lt (by omega)).2 (by rw [Nat.pow_succ]; show _ < f.binade * 2; omega)
    have e3 : (f.binade + r % f.binade).log2 = f.fractionBits := by omega
    rw [e3]
    omega
theorem rung_of (f : Format) (r : Nat) : (rplace f r - f.leastPlace).toNat * f.binade + rmag f r = r := by
  unfold rplace rmag
  split
  · simp
  · rename_i hr
    have e : (f.leastPlace + ((r / f.binade - 1 : Nat) : Int) - f.leastPlace).toNat = r / f.binade - 1 := by omega
    rw [e]
    have h1 : 1 ≤ r / f.binade := (Nat.one_le_div_iff (binade_pos f)).2 (by omega)
    have h2 := Nat.div_add_mod r f.binade
    have h3 : (r / f.binade - 1) * f.binade + f.binade = r / f.binade * f.binade := by
      rw [← Nat.succ_mul]; congr 1; omega
    have h4 : r / f.binade * f.binade = f.binade * (r / f.binade) := Nat.mul_comm _ _
    omega
theorem cut_exact (m d : Nat) (neg : Bool) (hm : m ≠ 0) : Toward.even.cut neg (m * 2 ^ d) d = m := by
  unfold Toward.cut
  have hl := log2_shift (d := d) hm
  have hmin : min d ((m * 2 ^ d).log2 + 2) = d := by omega
  have hp : 0 < 2 ^ d := Nat.two_pow_pos _
  simp only [hmin, Nat.shiftLeft_eq, Nat.one_mul, Nat.mul_mod_left, Nat.mul_div_cancel _ hp, Nat.mul_zero]
  have h1 : decide (2 ^ d < 0) = false := by simp
  have h2 : ((2 ^ d == 0) : Bool) = false := by rw [beq_eq_false_iff_ne]; omega
  simp [h2]
/-- A number that the format has is its own nearest. -/
theorem nearest_exact (f : Format) (neg : Bool) {r mag : Nat} {place : Int} (h0 : 0 < r) (hr : r < f.infRung)
    (h : (∃ d : Nat, mag = rmag f r * 2 ^ d ∧ place + d = rplace f r) ∨ (∃ d : Nat, rmag f r = mag * 2 ^ d ∧ rplace f r + d = place)) : f.nearest neg mag place = f.word neg r := by
  have hm := rmag_pos (f := f) h0
  have hl := last_place f h0
  have hg := rung_of f r
  have hmag : mag ≠ 0 := by
    rcases h with ⟨d, h1, _⟩ | ⟨d, h1, _⟩
    · rw [h1]; exact Nat.mul_ne_zero (by omega) (Nat.ne_of_gt (Nat.two_pow_pos _))
    · intro h2; rw [h2] at h1; omega
  have hlast : max (place + mag.log2 - f.fractionBits) f.leastPlace = rplace f r := by
    rcases h with ⟨d, h1, h2⟩ | ⟨d, h1, h2⟩
    · rw [h1, log2_shift (by omega)]
      rw [show place + ((rmag f r).log2 + d : Nat) - (f.fractionBits : Int) = rplace f r + (rmag f r).log2 - f.fractionBits by omega]
      exact hl
    · rw [h1, log2_shift hmag] at hl
      rw [show place + (mag.log2 : Int) - (f.fractionBits : Int) = rplace f r + (mag.log2 + d : Nat) - f.fractionBits by omega]
      exact hl
  unfold Format.nearest
  rw [if_neg hmag]
  simp only [hlast]
  have hk : Toward.even.cut neg (mag <<< (place - rplace f r).toNat) (rplace f r - place).toNat = rmag f r := by
    rcases h with ⟨d, h1, h2⟩ | ⟨d, h1, h2⟩
    · rw [show (place - rplace f r).toNat = 0 by omega, show (rplace f r - place).toNat = d by omega, Nat.shiftLeft_zero, h1]
      exact cut_exact _ _ _ (by omega)
    · rw [show (place - rplace f r).toNat = d by omega, show (rplace f r - place).toNat = 0 by omega, Nat.shiftLeft_eq, ← h1]
      have := cut_exact (rmag f r) 0 neg (by omega)
      simpa using this
  rw [hk, hg, Nat.min_eq_left (by omega)]
end Go.Proofs.YtjapgpmoojfhnaaGreatDoor.Fl
