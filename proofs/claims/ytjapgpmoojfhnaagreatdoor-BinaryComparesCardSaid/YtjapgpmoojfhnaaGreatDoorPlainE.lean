/- The nearest word of a format, found as the program finds it. -/
import Derived.Test.YtjapgpmoojfhnaaGreatDoorPlainC
namespace Go.Proofs.YtjapgpmoojfhnaaGreatDoor.Fl
open Ieee

/-- The format of sixteen bits. -/
def half : Format := { exponentBits := 5, fractionBits := 10 }
/-- The place of the last digit that is kept. -/
def lastP (f : Format) (m : Nat) (e : Int) : Int := max (e + m.log2 - f.fractionBits) f.leastPlace
/-- m / 2^c, the half to even. -/
def rnd (m c : Nat) : Nat := m / 2 ^ c + (if 2 ^ (c - 1) < m % 2 ^ c ∨ (m % 2 ^ c = 2 ^ (c - 1) ∧ m / 2 ^ c % 2 = 1) then 1 else 0)
def keptP (f : Format) (m : Nat) (e : Int) : Nat := if lastP f m e ≤ e then m * 2 ^ (e - lastP f m e).toNat else rnd m (lastP f m e - e).toNat
/-- Nothing is lost. -/
def wholeP (f : Format) (m : Nat) (e : Int) : Bool := decide (lastP f m e ≤ e) || (m % 2 ^ (lastP f m e - e).toNat == 0)
def exP (f : Format) (m : Nat) (e : Int) : Bool := decide (f.nearest false m e < f.infRung) && wholeP f m e

theorem lt_log (m : Nat) (hm : m ≠ 0) : 2 ^ m.log2 ≤ m ∧ m < 2 ^ (m.log2 + 1) := ⟨(Nat.le_log2 hm).1 (Nat.le_refl _), (Nat.log2_lt hm).1 (Nat.lt_succ_self _)⟩
theorem pow_mono {a b : Nat} (h : a ≤ b) : 2 ^ a ≤ 2 ^ b := Nat.pow_le_pow_right (by decide) h
theorem rnd_far {m c : Nat} (h : m < 2 ^ (c - 1)) (hc : 0 < c) : rnd m c = 0 := by
  have e : 2 ^ c = 2 * 2 ^ (c - 1) := by rw [← Nat.pow_succ']; congr 1; omega
  unfold rnd
  rw [Nat.div_eq_of_lt (by omega), Nat.mod_eq_of_lt (by omega), if_neg (by omega)]
theorem cut_rnd (m c : Nat) (hc : 0 < c) (hm : m ≠ 0) : Toward.even.cut false m c = rnd m c := by
  obtain ⟨h1, h2⟩ := lt_log m hm
  by_cases h : c ≤ m.log2 + 2
  · unfold Toward.cut rnd
    simp only [Nat.shiftLeft_eq, Nat.one_mul, Nat.min_eq_left h]
    have e : 2 ^ c = 2 * 2 ^ (c - 1) := by rw [← Nat.pow_succ']; congr 1; omega
    congr 1
    generalize m % 2 ^ c = R
    generalize m / 2 ^ c = Q
    rw [e]
    generalize 2 ^ (c - 1) = H
    by_cases a1 : H < R
    · rw [if_pos (.inl a1), decide_eq_true (by omega)]; rfl
    · rw [decide_eq_false (by omega)]
      by_cases a2 : R = H
      · by_cases a3 : Q % 2 = 1
        · rw [if_pos (.inr ⟨a2, a3⟩), a2, a3]; simp
        · rw [if_neg (by omega)]; simp [a3]
      · rw [if_neg (by omega)]
        have : (2 * H == 2 * R) = false := by rw [beq_eq_false_iff_ne]; omega
        rw [this]; rfl
  · rw [rnd_far (Nat.lt_of_lt_of_le h2 (pow_mono (by omega))) hc]
    unfold Toward.cut
    simp only [Nat.shiftLeft_eq, Nat.one_mul, Nat.min_eq_right (by omega : m.log2 + 2 ≤ c)]
    have e : 2 ^ (m.log2 + 2) = 2 * 2 ^ (m.log2 + 1) := by rw [← Nat.pow_succ']
    rw [Nat.div_eq_of_lt (by omega), Nat.mod_eq_of_lt (by omega), decide_eq_false (by omega)]
    have : (2 ^ (m.log2 + 2) == 2 * m) = false := by rw [beq_eq_false_iff_ne]; omega
    rw [this]; rfl
theorem nearest_is (f : Format) (m : Nat) (e : Int) (hm : m ≠ 0) : f.nearest false m e = min ((lastP f m e - f.leastPlace).toNat * f.binade + keptP f m e) f.infRung := by
  have hk : Toward.even.cut false (m <<< (e - lastP f m e).toNat) (lastP f m e - e).toNat = keptP f m e := by
    unfold keptP
    by_cases h : lastP f m e ≤ e
    · rw [if_pos h, Nat.shiftLeft_eq, show (lastP f m e - e).toNat = 0 by omega]
      have := cut_exact (m * 2 ^ (e - lastP f m e).toNat) 0 false (Nat.mul_ne_zero hm (Nat.ne_of_gt (Nat.two_pow_pos _)))
      simpa using this
    · rw [if_neg h, show (e - lastP f m e).toNat = 0 by omega, Nat.shiftLeft_zero]
      exact cut_rnd _ _ (by omega) hm
  unfold Format.nearest
  rw [if_neg hm]
  unfold lastP at hk ⊢
  simp only [hk]
  rfl
theorem rnd_le {m c k : Nat} (h : m < 2 ^ (c + k)) : rnd m c ≤ 2 ^ k := by
  have h1 : m / 2 ^ c < 2 ^ k := by rw [Nat.div_lt_iff_lt_mul (Nat.two_pow_pos _), ← Nat.pow_add, Nat.add_comm]; exact h
  unfold rnd
  split <;> omega
theorem rnd_ge {m c k : Nat} (h : 2 ^ (c + k) ≤ m) : 2 ^ k ≤ rnd m c := by
  have h1 : 2 ^ k ≤ m / 2 ^ c := by rw [Nat.le_div_iff_mul_le (Nat.two_pow_pos _), ← Nat.pow_add, Nat.add_comm]; exact h
  unfold rnd
  omega
theorem kept_le (f : Format) (m : Nat) (e : Int) (hm : m ≠ 0) : keptP f m e ≤ 2 ^ (f.fractionBits + 1) ∧ (lastP f m e ≤ e → keptP f m e < 2 ^ (f.fractionBits + 1)) ∧ (f.leastPlace < lastP f m e → 2 ^ f.fractionBits ≤ keptP f m e) := by
  obtain ⟨h1, h2⟩ := lt_log m hm
  have hl : lastP f m e = max (e + m.log2 - f.fractionBits) f.leastPlace := rfl
  unfold keptP
  by_cases h : lastP f m e ≤ e
  · rw [if_pos h]
    obtain ⟨d, hd⟩ : ∃ d, (e - lastP f m e).toNat = d := ⟨_, rfl⟩
    rw [hd]
    have hdl : m.log2 + d ≤ f.fractionBits := by omega
    have a : m * 2 ^ d < 2 ^ (f.fractionBits + 1) := by
      have : m * 2 ^ d < 2 ^ (m.log2 + 1) * 2 ^ d := Nat.mul_lt_mul_of_pos_right h2 (Nat.two_pow_pos _)
      rw [← Nat.pow_add] at this
      exact Nat.lt_of_lt_of_le this (pow_mono (by omega))
    refine ⟨Nat.le_of_lt a, fun _ => a, fun hL => ?_⟩
    have hdq : m.log2 + d = f.fractionBits := by omega
    rw [← hdq, Nat.pow_add]
    exact Nat.mul_le_mul_right _ h1
  · rw [if_neg h]
    obtain ⟨c, hc⟩ : ∃ c, (lastP f m e - e).toNat = c := ⟨_, rfl⟩
    rw [hc]
    refine ⟨rnd_le (Nat.lt_of_lt_of_le h2 (pow_mono (by omega))), fun h' => absurd h' h, fun hL => rnd_ge ?_⟩
    exact Nat.le_trans (pow_mono (by omega)) h1
/-- Same numbers. -/
theorem same_refl (m : Nat) (e : Int) : Same m e m e := Or.inl ⟨0, by simp, by simp⟩
theorem same_symm {a b : Nat} {i j : Int} (h : Same a i b j) : Same b j a i := by
  rcases h with h | h
  · exact .inr h
  · exact .inl h
theorem pow_cancel {b c x y : Nat} (h : b * 2 ^ x = c * 2 ^ y) (hxy : y ≤ x) : c = b * 2 ^ (x - y) := by
  have e : 2 ^ x = 2 ^ (x - y) * 2 ^ y := by rw [← Nat.pow_add]; congr 1; omega
  rw [e, ← Nat.mul_assoc] at h
  exact (Nat.mul_right_cancel (Nat.two_pow_pos _) h).symm
theorem same_trans {a b c : Nat} {i j k : Int} (h1 : Same a i b j) (h2 : Same b j c k) : Same a i c k := by
  rcases h1 with ⟨d, ha, hi⟩ | ⟨d, hb, hj⟩ <;> rcases h2 with ⟨d', hb', hj'⟩ | ⟨d', hc, hk⟩
  · exact .inl ⟨d + d', by rw [ha, hb', Nat.pow_add, Nat.mul_assoc, Nat.mul_comm (2 ^ d')], by omega⟩
  · by_cases h : d' ≤ d
    · refine .inl ⟨d - d', ?_, by omega⟩
      rw [ha, hc, Nat.mul_assoc, ← Nat.pow_add]
      congr 2; omega
    · refine .inr ⟨d' - d, ?_, by omega⟩
      rw [ha, hc, Nat.mul_assoc, ← Nat.pow_add]
      congr 2; omega
  · rw [hb'] at hb
    by_cases h : d ≤ d'
    · exact .inl ⟨d' - d, pow_cancel hb h, by omega⟩
    · exact .inr ⟨d - d', pow_cancel hb.symm (by omega), by omega⟩
  · exact .inr ⟨d + d', by rw [hc, hb, Nat.pow_add, Nat.mul_assoc], by omega⟩
theorem same_log {m m' : Nat} {e e' : Int} (hm : m ≠ 0) (h : Same m e m' e') : e + m.log2 = e' + m'.log2 ∧ m' ≠ 0 := by
  rcases h with ⟨d, h1, h2⟩ | ⟨d, h1, h2⟩
  · have hm' : m' ≠ 0 := by intro h0; rw [h0] at h1; omega
    rw [h1, log2_shift hm']; exact ⟨by omega, hm'⟩
  · rw [h1, log2_shift hm]; exact ⟨by omega, Nat.mul_ne_zero hm (Nat.ne_of_gt (Nat.two_pow_pos _))⟩
/-- A number that the format has: its word, where the last digit is kept, and nothing is lost. -/
theorem nearest_same (f : Format) {r mag : Nat} {place : Int} (h0 : 0 < r) (hr : r < f.infRung) (h : Same mag place (rmag f r) (rplace f r)) (hodd : mag % 2 = 1) : f.nearest false mag place = r ∧ exP f mag place = true := by
  have hn := nearest_exact f false h0 hr h
  have hn' : f.nearest false mag place = r := hn
  refine ⟨hn', ?_⟩
  have hl := last_place f h0
  obtain ⟨hs, _⟩ := same_log (by omega) h
  have hlast : lastP f mag place = rplace f r := by
    unfold lastP
    rw [show place + (mag.log2 : Int) - f.fractionBits = rplace f r + (rmag f r).log2 - f.fractionBits by omega]
    exact hl
  have hle : rplace f r ≤ place := by
    rcases h with ⟨d, h1, h2⟩ | ⟨d, h1, h2⟩
    · cases d with
      | zero => omega
      | succ d => rw [Nat.pow_succ, ← Nat.mul_assoc] at h1; omega
    · omega
  unfold exP wholeP
  rw [hn', hlast, decide_eq_true hr, decide_eq_true hle]
  rfl
end Go.Proofs.YtjapgpmoojfhnaaGreatDoor.Fl
