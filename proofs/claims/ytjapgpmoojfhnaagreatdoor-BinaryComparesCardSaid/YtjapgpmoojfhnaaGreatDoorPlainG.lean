/- The words of the small formats as words of sixty-four bits. -/
import Derived.Test.YtjapgpmoojfhnaaGreatDoorPlainE
namespace Go.Proofs.YtjapgpmoojfhnaaGreatDoor.Fl
open Ieee

theorem same_word {m : Nat} {e : Int} (h0 : 0 < m) (hm : m < 9007199254740992) (h1 : -1022 ≤ e + m.log2) (h2 : e + m.log2 ≤ 1023) : ∃ R, 0 < R ∧ R < 9218868437227405312 ∧ Same m e (rmag double R) (rplace double R) := by
  obtain ⟨a1, a2, a3⟩ := frac_is h0 hm
  obtain ⟨q, hq⟩ : ∃ q : Nat, (q : Int) = e + m.log2 + 1023 := ⟨(e + m.log2 + 1023).toNat, by omega⟩
  obtain ⟨b1, b2⟩ := normal_rung (q := q) (F := fracN m) (by omega) a2
  refine ⟨q * 4503599627370496 + fracN m, by omega, by omega, ?_⟩
  rw [b1, b2, a3]
  exact .inr ⟨52 - m.log2, rfl, by omega⟩
/-- The three formats. -/
def Fmt (f : Format) : Prop := f = half ∨ f = single ∨ f = double
theorem wide_num {f : Format} (hf : Fmt f) {r : Nat} (h0 : 0 < r) (hr : r < f.infRung) : ∃ R, 0 < R ∧ R < 9218868437227405312 ∧ Same (rmag f r) (rplace f r) (rmag double R) (rplace double R) := by
  have hm0 := rmag_pos (f := f) h0
  have hm1 := rmag_lt f r
  have hl : (rmag f r).log2 < f.fractionBits + 1 := (Nat.log2_lt (by omega)).2 hm1
  have hp := place_ge f r
  rcases hf with rfl | rfl | rfl
  · have d1 : half.infRung = 31744 := by decide
    have d2 : half.binade = 1024 := by decide
    have d3 : half.leastPlace = -24 := by decide
    have d4 : half.fractionBits = 10 := rfl
    have hp2 : rplace half r ≤ 5 := by unfold rplace; rw [d2, d3]; split <;> omega
    rw [d4] at hl hm1
    rw [d3] at hp
    exact same_word hm0 (by omega) (by omega) (by omega)
  · have d1 : single.infRung = 2139095040 := by decide
    have d2 : single.binade = 8388608 := by decide
    have d3 : single.leastPlace = -149 := by decide
    have d4 : single.fractionBits = 23 := rfl
    have hp2 : rplace single r ≤ 104 := by unfold rplace; rw [d2, d3]; split <;> omega
    rw [d4] at hl hm1
    rw [d3] at hp
    exact same_word hm0 (by omega) (by omega) (by omega)
  · rw [d_inf] at hr
    exact ⟨r, h0, hr, same_refl _ _⟩
/-- The word of sixty-four bits, less its sign, of a rung. -/
def wide (f : Format) (r : Nat) : Nat := if f.infRung < r then 9221120237041090561 else if r = f.infRung then 9218868437227405312 else double.nearest false (rmag f r) (rplace f r)
theorem wide_zero {f : Format} (hf : Fmt f) : wide f 0 = 0 := by
  rcases hf with rfl | rfl | rfl <;> decide
theorem wide_is {f : Format} (hf : Fmt f) {r : Nat} (h0 : 0 < r) (hr : r < f.infRung) : 0 < wide f r ∧ wide f r < 9218868437227405312 ∧ Same (rmag f r) (rplace f r) (rmag double (wide f r)) (rplace double (wide f r)) := by
  obtain ⟨R, h1, h2, h3⟩ := wide_num hf h0 hr
  have e : wide f r = R := by
    unfold wide
    rw [if_neg (by omega), if_neg (by omega)]
    exact nearest_exact double false h1 (by rw [d_inf]; exact h2) h3
  rw [e]
  exact ⟨h1, h2, h3⟩
theorem wide_inf {f : Format} : wide f f.infRung = 9218868437227405312 := by
  unfold wide
  rw [if_neg (by omega), if_pos rfl]
theorem wide_nan {f : Format} {r : Nat} (h : f.infRung < r) : wide f r = 9221120237041090561 := if_pos h
theorem wide_double {r : Nat} (hr : r ≤ 9218868437227405312) : wide double r = r := by
  rcases Nat.eq_or_lt_of_le hr with h | h
  · rw [h]; exact wide_inf
  · by_cases h0 : r = 0
    · subst h0; exact wide_zero (.inr (.inr rfl))
    · unfold wide
      rw [d_inf, if_neg (by omega), if_neg (by omega)]
      exact nearest_exact double false (by omega) (by rw [d_inf]; exact h) (same_refl _ _)
/-- The word of sixty-four bits of a word of a format. -/
def wideW (f : Format) (b : Nat) : Nat := wide f (b % f.signWeight) + (if f.signWeight ≤ b then 9223372036854775808 else 0)
theorem wide_lt {f : Format} (hf : Fmt f) (r : Nat) : wide f r < 9223372036854775808 := by
  by_cases h1 : f.infRung < r
  · rw [wide_nan h1]; decide
  · by_cases h2 : r = f.infRung
    · rw [h2, wide_inf]; decide
    · by_cases h0 : r = 0
      · rw [h0, wide_zero hf]; decide
      · have := (wide_is hf (r := r) (by omega) (by omega)).2.1
        omega
theorem wideW_mod {f : Format} (hf : Fmt f) (b : Nat) : wideW f b % 9223372036854775808 = wide f (b % f.signWeight) ∧ (9223372036854775808 ≤ wideW f b ↔ f.signWeight ≤ b) ∧ wideW f b < 18446744073709551616 := by
  have := wide_lt hf (b % f.signWeight)
  unfold wideW
  split <;> omega
theorem near_small {f : Format} {m : Nat} {e : Int} (hm : m ≠ 0) (hinf : f.binade ≤ f.infRung) (hk : keptP f m e < f.binade) : f.nearest false m e = keptP f m e ∧ exP f m e = wholeP f m e := by
  obtain ⟨_, _, h3⟩ := kept_le f m e hm
  have hl : lastP f m e = f.leastPlace := by
    have h1 : f.leastPlace ≤ lastP f m e := by unfold lastP; omega
    rcases Int.lt_or_eq_of_le h1 with h | h
    · have := h3 h
      have h4 : f.binade = 2 ^ f.fractionBits := rfl
      omega
    · exact h.symm
  have hn : f.nearest false m e = keptP f m e := by
    rw [nearest_is f m e hm, hl, Int.sub_self]
    simp only [Int.toNat_zero, Nat.zero_mul, Nat.zero_add]
    omega
  refine ⟨hn, ?_⟩
  unfold exP
  rw [hn, decide_eq_true (by omega)]
  rfl
theorem near_big {f : Format} {m : Nat} {e : Int} {B : Nat} (hm : m ≠ 0) (hB : (lastP f m e - f.leastPlace).toNat * f.binade + keptP f m e = B) :
    (f.infRung ≤ B → f.nearest false m e = f.infRung ∧ exP f m e = false) ∧ (B < f.infRung → f.nearest false m e = B ∧ exP f m e = wholeP f m e) := by
  have hn := nearest_is f m e hm
  rw [hB] at hn
  refine ⟨fun h => ?_, fun h => ?_⟩
  · have e1 : f.nearest false m e = f.infRung := by omega
    refine ⟨e1, ?_⟩
    unfold exP
    rw [e1, decide_eq_false (by omega)]
    rfl
  · have e1 : f.nearest false m e = B := by omega
    refine ⟨e1, ?_⟩
    unfold exP
    rw [e1, decide_eq_true h]
    rfl
/-- The formats' numbers. -/
theorem half_is : half.infRung = 31744 ∧ half.binade = 1024 ∧ half.leastPlace = -24 ∧ half.fractionBits = 10 ∧ half.signWeight = 32768 := by decide
theorem single_is : single.infRung = 2139095040 ∧ single.binade = 8388608 ∧ single.leastPlace = -149 ∧ single.fractionBits = 23 ∧ single.signWeight = 2147483648 := by decide
theorem double_is : double.infRung = 9218868437227405312 ∧ double.binade = 4503599627370496 ∧ double.leastPlace = -1074 ∧ double.fractionBits = 52 ∧ double.signWeight = 9223372036854775808 := by decide
end Go.Proofs.YtjapgpmoojfhnaaGreatDoor.Fl
