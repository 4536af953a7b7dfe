/- The library's reading of a number of at most 64 bits times a power of ten: it is the nearest rung. The library's reading of a number of at most 64 bits times a power of ten is the nearest rung. From the number of quarters to the nearest rung; the library's reading is the nearest rung. Texts of decimals: their digits as numbers, and what a reader of them has seen up to a place. -/
import Derived.Test.YtjapgpmoojfhnaaGreatDoorB02
import Derived.Test.YtjapgpmoojfhnaaGreatDoorB16
namespace Go.Proofs.YtjapgpmoojfhnaaGreatDoor.Fl
open Ieee

/-- A number times a power of ten, as a fraction of units of 2^-1074. -/
def vN (d : Nat) (p : Int) : Nat := if 0 ≤ p then d * 10 ^ p.toNat * 2 ^ 1074 else d * 2 ^ 1074
def vD (p : Int) : Nat := if 0 ≤ p then 1 else 10 ^ (-p).toNat
theorem vD_pos (p : Int) : 0 < vD p := by
  unfold vD
  split
  · decide
  · exact Nat.pow_pos (by decide)
def bitl (d : Nat) : Nat := d.log2 + 1
def pfe (d : Nat) (p : Int) : Int := min 1074 (53 - (bitl d : Int) - lp p)
def pfs (d : Nat) (p : Int) : Int := 61 - (bitl d : Int) - pfe d p - lp p
/-- The rounding of a number of quarters. -/
def rnd4 (u : Nat) : Nat := (u + 1 + u / 4 % 2) / 4
def pack (m : Nat) (e : Int) : Nat := if m / 4503599627370496 % 2 = 0 then m else if 972 ≤ e then 9218868437227405312 else m - 4503599627370496 + (1075 + e).toNat * 4503599627370496
def pf64 (h l d : Nat) (p : Int) : Nat :=
  if 64 ≤ pfs d p then 0 else
  let u := usc (d * 2 ^ (64 - bitl d)) h l (pfs d p).toNat
  if 36028797018963966 ≤ u then pack (rnd4 (u / 2 ||| u % 2)) (1 - pfe d p) else pack (rnd4 u) (-pfe d p)

theorem or_one (q : Nat) : q ||| 1 = if q % 2 = 0 then q + 1 else q := by
  have h := Nat.div_add_mod (q ||| 1) 2
  have h1 : (q ||| 1) % 2 = 1 := by
    rw [Nat.mod_two_eq_one_iff_testBit_zero, Nat.testBit_or]
    simp
  have h2 : (q ||| 1) / 2 = q / 2 := by
    have : (q ||| 1) >>> 1 = q >>> 1 ||| 1 >>> 1 := Nat.shiftRight_or_distrib
    simpa [Nat.shiftRight_succ] using this
  split <;> omega
/-- The same ratio, the same yield. -/
theorem sticky_eq {n d n' d' : Nat} (hd : 0 < d) (hd' : 0 < d') (e : n * d' = n' * d) : sticky n d = sticky n' d' := by
  have h1 : n / d = n' / d' := by
    have a : n / d = n * d' / (d * d') := by rw [Nat.mul_div_mul_right _ _ hd']
    have b : n' / d' = n' * d / (d' * d) := by rw [Nat.mul_div_mul_right _ _ hd]
    rw [a, b, e, Nat.mul_comm d d']
  have h2 : n % d = 0 ↔ n' % d' = 0 := by
    have a : n % d * d' = n * d' % (d * d') := (Nat.mul_mod_mul_right d' n d).symm
    have b : n' % d' * d = n' * d % (d' * d) := (Nat.mul_mod_mul_right d n' d').symm
    rw [e, Nat.mul_comm d d', ← b] at a
    constructor
    · intro h
      rw [h, Nat.zero_mul] at a
      rcases Nat.mul_eq_zero.1 a.symm with h | h
      · exact h
      · omega
    · intro h
      rw [h, Nat.zero_mul] at a
      rcases Nat.mul_eq_zero.1 a with h | h
      · exact h
      · omega
  unfold sticky
  rw [h1]
  by_cases h : n % d = 0
  · rw [if_pos h, if_pos (h2.1 h)]
  · rw [if_neg h, if_neg (fun x => h (h2.2 x))]
/-- What is known of a number of quarters. -/
theorem sticky_cases (n U : Nat) (hU : 0 < U) : ∃ f, f * U ≤ 4 * n ∧ 4 * n < (f + 1) * U ∧ ((4 * n = f * U ∧ sticky (4 * n) U = f) ∨ (f * U < 4 * n ∧ sticky (4 * n) U = if f % 2 = 0 then f + 1 else f)) := by
  have hd := Nat.div_add_mod (4 * n) U
  have hm := Nat.mod_lt (4 * n) hU
  rw [Nat.mul_comm U] at hd
  refine ⟨4 * n / U, ?_, ?_, ?_⟩
  · omega
  · rw [Nat.add_mul, Nat.one_mul]; omega
  · rcases Nat.eq_zero_or_pos (4 * n % U) with h | h
    · left
      rw [h] at hd
      refine ⟨by omega, ?_⟩
      rw [sticky, if_pos h, Nat.or_zero]
    · right
      refine ⟨by omega, ?_⟩
      rw [sticky, if_neg (by omega), or_one]
/-- Halving a number of quarters. -/
theorem sticky_half {n U : Nat} (hU : 0 < U) : (sticky (4 * n) U / 2 ||| sticky (4 * n) U % 2) = sticky (4 * n) (U * 2) := by
  obtain ⟨f, h0, h1, h2⟩ := sticky_cases n U hU
  obtain ⟨f', g0, g1, g2⟩ := sticky_cases n (U * 2) (by omega)
  have hf : f' = f / 2 := by
    have a1 : f' * (U * 2) = f' * 2 * U := by rw [Nat.mul_comm U 2, ← Nat.mul_assoc]
    have a2 : (f' + 1) * (U * 2) = (f' * 2 + 2) * U := by rw [Nat.mul_comm U 2, ← Nat.mul_assoc]; congr 1; omega
    rw [a1] at g0; rw [a2] at g1
    have b1 : f' * 2 < f + 1 := Nat.lt_of_mul_lt_mul_right (a := U) (by omega)
    have b2 : f < f' * 2 + 2 := Nat.lt_of_mul_lt_mul_right (a := U) (by omega)
    omega
  have a1 : f' * (U * 2) = f' * 2 * U := by rw [Nat.mul_comm U 2, ← Nat.mul_assoc]
  rw [a1] at g2
  have hodd : f % 2 = 1 → f' * 2 * U + U = f * U := fun h => by
    rw [show f = f' * 2 + 1 by omega, Nat.add_mul, Nat.one_mul]
  have heven : f % 2 = 0 → f' * 2 * U = f * U := fun h => by rw [show f = f' * 2 by omega]
  have orz : ∀ a b, b < 2 → a ||| b = if b = 0 then a else if a % 2 = 0 then a + 1 else a := by
    intro a b hb
    rcases Nat.eq_zero_or_pos b with h | h
    · subst h; simp
    · obtain rfl : b = 1 := by omega
      rw [or_one]; simp
  rw [orz _ _ (Nat.mod_lt _ (by decide))]
  rcases h2 with ⟨e1, e2⟩ | ⟨e1, e2⟩ <;> rcases g2 with ⟨f1, f2⟩ | ⟨f1, f2⟩ <;> rw [e2, f2]
  · have : f % 2 = 0 := by
      rcases Nat.mod_two_eq_zero_or_one f with h | h
      · exact h
      · have := hodd h; omega
    rw [if_pos this]; omega
  · have : f % 2 = 1 := by
      rcases Nat.mod_two_eq_zero_or_one f with h | h
      · have := heven h; omega
      · exact h
    rw [if_neg (by omega), hf]
  · exfalso
    rcases Nat.mod_two_eq_zero_or_one f with h | h
    · have := heven h; omega
    · have := hodd h; omega
  · have hu : (if f % 2 = 0 then f + 1 else f) % 2 = 1 ∧ (if f % 2 = 0 then f + 1 else f) / 2 = f / 2 := by split <;> omega
    rw [hu.1, hu.2, hf]
    simp
/-- The rounding of quarters is the rounding. -/
theorem rnd4_is {n U : Nat} (hU : 0 < U) : ∃ q, q * U ≤ n ∧ n < (q + 1) * U ∧
    ((rnd4 (sticky (4 * n) U) = q ∧ (2 * n < (2 * q + 1) * U ∨ (2 * n = (2 * q + 1) * U ∧ q % 2 = 0))) ∨ (rnd4 (sticky (4 * n) U) = q + 1 ∧ ((2 * q + 1) * U < 2 * n ∨ (2 * n = (2 * q + 1) * U ∧ q % 2 = 1)))) := by
  obtain ⟨f, h0, h1, h2⟩ := sticky_cases n U hU
  refine ⟨f / 4, ?_, ?_, ?_⟩
  · have : 4 * (f / 4) * U ≤ f * U := Nat.mul_le_mul_right _ (by omega)
    rw [Nat.mul_assoc] at this
    omega
  · have : (f + 1) * U ≤ 4 * (f / 4 + 1) * U := Nat.mul_le_mul_right _ (by omega)
    rw [Nat.mul_assoc] at this
    omega
  · obtain ⟨Q, hQ⟩ : ∃ Q, f / 4 = Q := ⟨_, rfl⟩
    rw [hQ]
    have e2 : 2 * ((2 * Q + 1) * U) = (4 * Q + 2) * U := by rw [← Nat.mul_assoc]; congr 1; omega
    have b : f = 4 * Q ∨ f = 4 * Q + 1 ∨ f = 4 * Q + 2 ∨ f = 4 * Q + 3 := by omega
    have m1 : ∀ a b : Nat, a ≤ b → a * U ≤ b * U := fun a b h => Nat.mul_le_mul_right _ h
    unfold rnd4
    rcases b with b | b | b | b <;> subst b
    · left
      have k := m1 (4 * Q + 1) (4 * Q + 1) (Nat.le_refl _)
      have k2 : (4 * Q + 2) * U = (4 * Q + 1) * U + U := by rw [← Nat.succ_mul]
      refine ⟨?_, .inl (by omega)⟩
      rcases h2 with ⟨_, e⟩ | ⟨_, e⟩ <;> rw [e]
      · omega
      · rw [if_pos (by omega)]; omega
    · left
      refine ⟨?_, .inl (by
        have := h1
        rw [show 4 * Q + 1 + 1 = 4 * Q + 2 from rfl] at this
        omega)⟩
      rcases h2 with ⟨_, e⟩ | ⟨_, e⟩ <;> rw [e]
      · omega
      · rw [if_neg (by omega)]; omega
    · rcases h2 with ⟨e1, e⟩ | ⟨e1, e⟩ <;> rw [e]
      · rcases Nat.mod_two_eq_zero_or_one Q with h | h
        · exact .inl ⟨by omega, .inr ⟨by omega, h⟩⟩
        · exact .inr ⟨by omega, .inr ⟨by omega, h⟩⟩
      · right
        rw [if_pos (by omega)]
        exact ⟨by omega, .inl (by omega)⟩
    · right
      have k2 : (4 * Q + 3) * U = (4 * Q + 2) * U + U := by rw [← Nat.succ_mul]
      refine ⟨?_, .inl (by omega)⟩
      rcases h2 with ⟨_, e⟩ | ⟨_, e⟩ <;> rw [e]
      · omega
      · rw [if_neg (by omega)]; omega
end Go.Proofs.YtjapgpmoojfhnaaGreatDoor.Fl

namespace Go.Proofs.YtjapgpmoojfhnaaGreatDoor.Fl
open Ieee

theorem pack_is {k m : Nat} (hm : m < 9007199254740992) (hk : k = 0 ∨ 4503599627370496 ≤ m) : pack m ((k : Int) - 1074) = min (k * 4503599627370496 + m) 9218868437227405312 := by
  unfold pack
  split
  · have : m < 4503599627370496 := by omega
    rw [Nat.min_eq_left (by omega)]
    omega
  · split
    · rw [Nat.min_eq_right (by omega)]
    · rw [Nat.min_eq_left (by omega), show (1075 + ((k : Int) - 1074)).toNat = k + 1 by omega]
      omega

theorem lp_bounds {p : Int} (h0 : -345 ≤ p) (h1 : p ≤ 310) : -1147 ≤ lp p ∧ lp p ≤ 1029 := by unfold lp; omega
theorem bitl_bounds {d : Nat} (h0 : 0 < d) (h : d < 18446744073709551616) : 1 ≤ bitl d ∧ bitl d ≤ 64 ∧ 9223372036854775808 ≤ d * 2 ^ (64 - bitl d) ∧ d * 2 ^ (64 - bitl d) < 18446744073709551616 ∧ d < 2 ^ bitl d := by
  obtain ⟨a, b⟩ := lt_log d (by omega)
  have hb : d.log2 ≤ 63 := by
    have := (Nat.log2_lt (by omega : d ≠ 0)).2 (show d < 2 ^ 64 by omega)
    omega
  unfold bitl
  refine ⟨by omega, by omega, ?_, ?_, b⟩
  · have : 2 ^ d.log2 * 2 ^ (64 - (d.log2 + 1)) ≤ d * 2 ^ (64 - (d.log2 + 1)) := Nat.mul_le_mul_right _ a
    rw [← Nat.pow_add, show d.log2 + (64 - (d.log2 + 1)) = 63 by omega] at this
    simpa using this
  · have : d * 2 ^ (64 - (d.log2 + 1)) < 2 ^ (d.log2 + 1) * 2 ^ (64 - (d.log2 + 1)) := Nat.mul_lt_mul_of_pos_right b (Nat.two_pow_pos _)
    rw [← Nat.pow_add, show d.log2 + 1 + (64 - (d.log2 + 1)) = 64 by omega] at this
    simpa using this

/-- The two fractions are one number. -/
theorem ratio {d : Nat} {p : Int} {b s k : Nat} (hb : b ≤ 64) (hs : (s : Int) = 61 - b - (1074 - (k : Int)) - lp p) (hl0 : -1147 ≤ lp p) (hneg : p < 0 → lp p ≤ 127) :
    d * 2 ^ (64 - b) * tN p * (vD p * 2 ^ k) = 4 * vN d p * (tD p * 2 ^ (128 + s)) := by
  unfold vD vN tN tD
  by_cases h : 0 ≤ p
  · simp only [if_pos h, Nat.one_mul]
    have e : 2 ^ (64 - b) * 2 ^ (127 - lp p).toNat * 2 ^ k = 4 * 2 ^ 1074 * 2 ^ (lp p - 127).toNat * 2 ^ (128 + s) := by
      rw [show (4 : Nat) = 2 ^ 2 from rfl]
      simp only [← Nat.pow_add]
      congr 1
      omega
    generalize 2 ^ (64 - b) = x1 at *
    generalize 2 ^ (127 - lp p).toNat = x2 at *
    generalize 2 ^ k = x3 at *
    generalize 2 ^ (lp p - 127).toNat = x4 at *
    generalize 2 ^ (128 + s) = x5 at *
    generalize 2 ^ 1074 = x6 at *
    generalize 10 ^ p.toNat = x7 at *
    calc d * x1 * (x7 * x2) * x3 = d * x7 * (x1 * x2 * x3) := by simp only [Nat.mul_comm, Nat.mul_left_comm]
      _ = d * x7 * (4 * x6 * x4 * x5) := by rw [e]
      _ = _ := by simp only [Nat.mul_assoc, Nat.mul_comm, Nat.mul_left_comm]
  · simp only [if_neg h]
    have e : 2 ^ (64 - b) * 2 ^ (127 - lp p).toNat * 2 ^ k = 4 * 2 ^ 1074 * 2 ^ (128 + s) := by
      rw [show (4 : Nat) = 2 ^ 2 from rfl]
      simp only [← Nat.pow_add]
      congr 1
      have := hneg (by omega)
      omega
    generalize 2 ^ (64 - b) = x1 at *
    generalize 2 ^ (127 - lp p).toNat = x2 at *
    generalize 2 ^ k = x3 at *
    generalize 2 ^ (128 + s) = x5 at *
    generalize 2 ^ 1074 = x6 at *
    generalize 10 ^ (-p).toNat = x7 at *
    calc d * x1 * x2 * (x7 * x3) = d * x7 * (x1 * x2 * x3) := by simp only [Nat.mul_comm, Nat.mul_left_comm]
      _ = d * x7 * (4 * x6 * x5) := by rw [e]
      _ = _ := by simp only [Nat.mul_assoc, Nat.mul_comm, Nat.mul_left_comm]

/-- A number far below the least one. -/
theorem near_tiny {d b h l : Nat} {p : Int} (dlt : d < 2 ^ b) (hp : p < 0) (hb : (b : Int) + 1076 < -lp p) (R : Row1 p h l) : Near (vN d p) (vD p) 0 := by
  refine ⟨by decide, .inl rfl, .inr (.inl ?_)⟩
  rw [val_zero, val_low (by rw [d_binade]; decide), Nat.zero_add, Nat.zero_add, Nat.one_mul]
  have ht := R.up
  have htop := R.top
  obtain ⟨z, hz⟩ : ∃ z, (2 : Nat) ^ 128 = z := ⟨_, rfl⟩
  have hup : tN p ≤ z * tD p := Nat.le_trans ht (Nat.mul_le_mul_right _ (by omega))
  unfold vN vD
  unfold tN tD at hup
  rw [if_neg (by omega)] at hup ⊢
  rw [if_neg (by omega)] at hup ⊢
  have e1 : 2 ^ (127 - lp p).toNat = z * 2 ^ (-1 - lp p).toNat := by rw [← hz, ← Nat.pow_add]; congr 1; omega
  rw [e1] at hup
  have h3 : 2 ^ (-1 - lp p).toNat ≤ 10 ^ (-p).toNat := Nat.le_of_mul_le_mul_left hup (by rw [← hz]; exact Nat.two_pow_pos _)
  obtain ⟨m, hm⟩ : ∃ m : Nat, m = 1074 := ⟨_, rfl⟩
  rw [← hm]
  have h4 : 2 * (d * 2 ^ m) < 2 ^ (b + (m + 1)) := by
    rw [Nat.pow_add, Nat.pow_succ, Nat.mul_comm (2 ^ m) 2, Nat.mul_left_comm]
    exact Nat.mul_lt_mul_of_pos_right dlt (by have := Nat.two_pow_pos m; omega)
  have h5 : 2 ^ (b + (m + 1)) ≤ 2 ^ (-1 - lp p).toNat := Nat.pow_le_pow_right (by decide) (by omega)
  exact Nat.lt_of_lt_of_le h4 (Nat.le_trans h5 h3)

theorem low_bound {x n U T N s8 : Nat} (hT : 0 < T) (x0 : 9223372036854775808 ≤ x) (big : 170141183460469231731687303715884105728 * T ≤ N) (hs : s8 = 340282366920938463463374607431768211456 * 256) (hr : x * N * U = 4 * n * (T * s8)) : 4503599627370496 * U ≤ n := by
  have a1 : 9223372036854775808 * (170141183460469231731687303715884105728 * T) ≤ x * N := Nat.mul_le_mul x0 big
  have a2 : 9223372036854775808 * (170141183460469231731687303715884105728 * T) * U ≤ x * N * U := Nat.mul_le_mul_right _ a1
  rw [hr] at a2
  have a3 : (9223372036854775808 * 170141183460469231731687303715884105728 * U) * T ≤ (4 * n * s8) * T := by
    have e1 : (9223372036854775808 * 170141183460469231731687303715884105728 * U) * T = 9223372036854775808 * (170141183460469231731687303715884105728 * T) * U := by
      rw [Nat.mul_assoc _ U T, Nat.mul_comm U T, ← Nat.mul_assoc, ← Nat.mul_assoc]
    have e2 : (4 * n * s8) * T = 4 * n * (T * s8) := by rw [Nat.mul_assoc (4 * n), Nat.mul_comm _ T]
    rw [e1, e2]; exact a2
  have a4 := Nat.le_of_mul_le_mul_right a3 hT
  subst hs
  omega
theorem high_bound {x n U T N S : Nat} (hT : 0 < T) (x1 : x < 18446744073709551616) (a0 : N ≤ 339950059921992234495148655666698125312 * T) (hs : 340282366920938463463374607431768211456 * 256 ≤ S) (hr : x * N * U = 4 * n * (T * S)) : n + 17592186044416 * U ≤ 18014398509481984 * U := by
  have a1 : x * N ≤ 18446744073709551616 * (339950059921992234495148655666698125312 * T) := Nat.mul_le_mul (Nat.le_of_lt x1) a0
  have a2 : x * N * U ≤ 18446744073709551616 * (339950059921992234495148655666698125312 * T) * U := Nat.mul_le_mul_right _ a1
  rw [hr] at a2
  have a3 : (4 * n * S) * T ≤ (18446744073709551616 * 339950059921992234495148655666698125312 * U) * T := by
    have e2 : (4 * n * S) * T = 4 * n * (T * S) := by rw [Nat.mul_assoc (4 * n), Nat.mul_comm _ T]
    have e1 : (18446744073709551616 * 339950059921992234495148655666698125312 * U) * T = 18446744073709551616 * (339950059921992234495148655666698125312 * T) * U := by
      rw [Nat.mul_assoc _ U T, Nat.mul_comm U T, ← Nat.mul_assoc, ← Nat.mul_assoc]
    rw [e1, e2]; exact a2
  have a4 := Nat.le_of_mul_le_mul_right a3 hT
  have a5 : 4 * n * (340282366920938463463374607431768211456 * 256) ≤ 4 * n * S := Nat.mul_le_mul_left _ hs
  omega

end Go.Proofs.YtjapgpmoojfhnaaGreatDoor.Fl

namespace Go.Proofs.YtjapgpmoojfhnaaGreatDoor.Fl
open Ieee

theorem near_top {n dV k U q m : Nat} (hV : 0 < dV) (hq : q = 9007199254740991) (hm : m = 9007199254740992) (hden : ∀ q, q * 2 ^ k * dV = q * U) (up2 : n < 9007199254740992 * U) (lo : 18014398509481983 * U ≤ 2 * n) :
    Near n dV (min (k * 4503599627370496 + m) 9218868437227405312) := by
  have h1 : q * U ≤ n := by subst hq; omega
  have h2 : n < (q + 1) * U := by subst hq; omega
  have h3 : (2 * q + 1) * U ≤ 2 * n := by subst hq; omega
  refine near_of_rnd (k := k) (q := q) (m := m) hV (.inr (by omega)) (by omega) (by rw [hden]; exact h1) (by rw [hden]; exact h2) (.inr ⟨by omega, ?_⟩)
  rw [hden]
  rcases Nat.lt_or_ge ((2 * q + 1) * U) (2 * n) with h | h
  · exact .inl h
  · exact .inr ⟨Nat.le_antisymm h h3, by omega⟩

/-- From the number of quarters to the nearest rung. -/
theorem near_fin {n dV k U : Nat} (hV : 0 < dV) (hUd : dV * 2 ^ k = U) (hge : k = 0 ∨ 4503599627370496 * U ≤ n) (hle : n + 17592186044416 * U ≤ 18014398509481984 * U) :
    Near n dV (if 36028797018963966 ≤ sticky (4 * n) U then pack (rnd4 (sticky (4 * n) U / 2 ||| sticky (4 * n) U % 2)) (((k + 1 : Nat) : Int) - 1074) else pack (rnd4 (sticky (4 * n) U)) ((k : Int) - 1074)) := by
  have hU : 0 < U := by rw [← hUd]; exact Nat.mul_pos hV (Nat.two_pow_pos _)
  have hden : ∀ q, q * 2 ^ k * dV = q * U := fun q => by rw [← hUd, Nat.mul_assoc, Nat.mul_comm (2 ^ k)]
  have hden2 : ∀ a, a * 2 ^ (k + 1) * dV = a * (U * 2) := fun a => by
    rw [Nat.pow_succ, ← Nat.mul_assoc, Nat.mul_right_comm, hden, Nat.mul_assoc]
  have eU2 : ∀ a, a * (U * 2) = a * 2 * U := fun a => by rw [Nat.mul_comm U 2, ← Nat.mul_assoc]
  obtain ⟨f, f0, f1, f2⟩ := sticky_cases n U hU
  by_cases hbig : 36028797018963966 ≤ sticky (4 * n) U
  · rw [if_pos hbig, sticky_half hU]
    have ff : 36028797018963966 ≤ f := by
      rcases f2 with ⟨_, e⟩ | ⟨_, e⟩
      · omega
      · rw [e] at hbig
        split at hbig <;> omega
    have fU : 36028797018963966 * U ≤ 4 * n := Nat.le_trans (Nat.mul_le_mul_right _ ff) f0
    obtain ⟨q, q0, q1, q2⟩ := rnd4_is (n := n) (U := U * 2) (by omega)
    have qlt : q < 9007199254740000 := by
      rw [eU2] at q0
      have h2 : q * 2 * U < 18014398509480000 * U := by omega
      have := Nat.lt_of_mul_lt_mul_right h2
      omega
    have qge : 4503599627370495 ≤ q := by
      rw [eU2] at q1
      have h2 : 36028797018963966 * U < (4 * ((q + 1) * 2)) * U := by rw [Nat.mul_assoc]; omega
      have := Nat.lt_of_mul_lt_mul_right h2
      omega
    clear f0 f1 f2 ff hbig f
    rcases Nat.lt_or_ge q 4503599627370496 with hq | hq
    · -- the number lies just below a power of two
      obtain rfl : q = 4503599627370495 := by omega
      have up2 : n < 9007199254740992 * U := by rw [eU2] at q1; omega
      have hm : rnd4 (sticky (4 * n) (U * 2)) = 4503599627370496 := by
        rcases q2 with ⟨_, h | h⟩ | ⟨h, _⟩
        · rw [eU2] at h; omega
        · have := h.2; omega
        · omega
      have e := pack_is (k := k + 1) (m := rnd4 (sticky (4 * n) (U * 2))) (by omega) (.inr (by omega))
      rw [e]
      have := near_top (m := 9007199254740992) hV rfl rfl hden up2 (by omega)
      rw [show (k + 1) * 4503599627370496 + rnd4 (sticky (4 * n) (U * 2)) = k * 4503599627370496 + 9007199254740992 by omega]
      exact this
    · have hm : rnd4 (sticky (4 * n) (U * 2)) < 9007199254740992 ∧ 4503599627370496 ≤ rnd4 (sticky (4 * n) (U * 2)) := by rcases q2 with ⟨h, _⟩ | ⟨h, _⟩ <;> omega
      rw [pack_is hm.1 (.inr hm.2)]
      refine near_of_rnd hV (.inr hq) (by omega) (by rw [hden2]; exact q0) (by rw [hden2]; exact q1) ?_
      rw [hden2]
      exact q2
  · rw [if_neg hbig]
    obtain ⟨q, q0, q1, q2⟩ := rnd4_is (n := n) (U := U) hU
    have hf : f ≤ 36028797018963965 := by
      rcases f2 with ⟨_, e⟩ | ⟨_, e⟩
      · omega
      · rw [e] at hbig
        split at hbig <;> omega
    have hst : sticky (4 * n) U ≤ 36028797018963965 := by omega
    have hqf : q < 9007199254740992 := by
      have h2 : (4 * q) * U < (f + 1) * U := by rw [Nat.mul_assoc]; omega
      have := Nat.lt_of_mul_lt_mul_right h2
      omega
    clear f0 f1 f2 hf f
    have hlow : k = 0 ∨ 4503599627370496 ≤ q := by
      rcases hge with h | h
      · exact .inl h
      · right
        have h3 : 4503599627370496 * U < (q + 1) * U := by omega
        have := Nat.lt_of_mul_lt_mul_right h3
        omega
    have hm : rnd4 (sticky (4 * n) U) < 9007199254740992 := by
      unfold rnd4
      omega
    rw [pack_is hm (by rcases q2 with ⟨h, _⟩ | ⟨h, _⟩ <;> omega)]
    refine near_of_rnd hV hlow hqf (by rw [hden]; exact q0) (by rw [hden]; exact q1) ?_
    rw [hden]
    exact q2

/-- ████ THE READING IS THE NEAREST RUNG. ████ -/
theorem pf64_near {d h l : Nat} {p : Int} (hd0 : 0 < d) (hd : d < 18446744073709551616) (h0 : -345 ≤ p) (h1 : p ≤ 310) (R : Row1 p h l) : Near (vN d p) (vD p) (pf64 h l d p) := by
  obtain ⟨lb0, lb1⟩ := lp_bounds h0 h1
  obtain ⟨b0, b1, x0, x1, dlt⟩ := bitl_bounds hd0 hd
  have hneg : p < 0 → lp p ≤ 127 := by intro h; unfold lp; omega
  have hV := vD_pos p
  have hT := tD_pos p
  unfold pf64
  obtain ⟨b, hb⟩ : ∃ b, bitl d = b := ⟨_, rfl⟩
  rw [hb] at b0 b1 x0 x1 dlt ⊢
  obtain ⟨e, he⟩ : ∃ e, pfe d p = e := ⟨_, rfl⟩
  obtain ⟨s, hs⟩ : ∃ s, pfs d p = s := ⟨_, rfl⟩
  have he' : e = min 1074 (53 - (b : Int) - lp p) := by rw [← he, pfe, hb]
  have hs' : s = 61 - (b : Int) - e - lp p := by rw [← hs, pfs, hb, he]
  rw [he, hs]
  by_cases h64 : 64 ≤ s
  · rw [if_pos h64]
    have hp : p < 0 := by
      rcases Int.lt_or_le p 0 with h | h
      · exact h
      · exfalso
        have : 0 ≤ lp p := by unfold lp; omega
        omega
    exact near_tiny dlt hp (by omega) R
  · rw [if_neg h64]
    have hs8 : 8 ≤ s := by omega
    obtain ⟨sn, hsn⟩ : ∃ n : Nat, s = n := ⟨s.toNat, by omega⟩
    obtain ⟨k, hk⟩ : ∃ n : Nat, e = 1074 - n := ⟨(1074 - e).toNat, by omega⟩
    have hsn8 : 8 ≤ sn := by omega
    rw [hsn, Int.toNat_natCast, usc_spec R x1 x0 hsn8]
    have hr := ratio (d := d) (p := p) (b := b) (s := sn) (k := k) b1 (by omega) lb0 hneg
    have hU : 0 < vD p * 2 ^ k := Nat.mul_pos hV (Nat.two_pow_pos _)
    have hDen : 0 < tD p * 2 ^ (128 + sn) := Nat.mul_pos hT (Nat.two_pow_pos _)
    simp only
    rw [sticky_eq hDen hU hr, show (1 - e : Int) = ((k + 1 : Nat) : Int) - 1074 by omega, show (-e : Int) = (k : Int) - 1074 by omega]
    have hpw : 2 ^ (128 + sn) = 340282366920938463463374607431768211456 * 2 ^ sn := by rw [Nat.pow_add]
    have c127 : (2 : Nat) ^ 127 = 170141183460469231731687303715884105728 := by decide
    have c128 : (2 : Nat) ^ 128 = 340282366920938463463374607431768211456 := by decide
    have c118 : (2 : Nat) ^ 118 = 332306998946228968225951765070086144 := by decide
    refine near_fin hV rfl ?_ ?_
    · rcases Nat.eq_zero_or_pos k with h | h
      · exact .inl h
      · right
        have hsn' : sn = 8 := by omega
        refine low_bound hT x0 (by have := R.big; rwa [c127] at this) ?_ hr
        rw [hpw, hsn']
    · refine high_bound hT x1 ?_ ?_ hr
      · have htop := R.top
        rw [c128, c118] at htop
        exact Nat.le_trans R.up (Nat.mul_le_mul_right _ (by omega))
      · rw [hpw]
        refine Nat.mul_le_mul_left _ ?_
        have := Nat.pow_le_pow_right (show 0 < 2 by decide) hsn8
        simpa using this
theorem fin_m {n dV k U : Nat} (hV : 0 < dV) (hUd : dV * 2 ^ k = U) (hle : n + 17592186044416 * U ≤ 18014398509481984 * U) : rnd4 (sticky (4 * n) U / 2 ||| sticky (4 * n) U % 2) < 9007199254740992 := by
  have hU : 0 < U := by rw [← hUd]; exact Nat.mul_pos hV (Nat.two_pow_pos _)
  rw [sticky_half hU]
  obtain ⟨q, q0, q1, q2⟩ := rnd4_is (n := n) (U := U * 2) (by omega)
  have qlt : q < 9007199254740000 := by
    rw [Nat.mul_comm U 2, ← Nat.mul_assoc] at q0
    have h2 : q * 2 * U < 18014398509480000 * U := by omega
    have := Nat.lt_of_mul_lt_mul_right h2
    omega
  rcases q2 with ⟨h, _⟩ | ⟨h, _⟩ <;> omega
/-- The significand that is packed has at most 53 digits. -/
theorem pf64_m {d h l : Nat} {p : Int} (hd0 : 0 < d) (hd : d < 18446744073709551616) (h0 : -345 ≤ p) (h1 : p ≤ 310) (R : Row1 p h l) (h64 : ¬ 64 ≤ pfs d p) :
    rnd4 (usc (d * 2 ^ (64 - bitl d)) h l (pfs d p).toNat / 2 ||| usc (d * 2 ^ (64 - bitl d)) h l (pfs d p).toNat % 2) < 9007199254740992 := by
  obtain ⟨lb0, lb1⟩ := lp_bounds h0 h1
  obtain ⟨b0, b1, x0, x1, dlt⟩ := bitl_bounds hd0 hd
  have hneg : p < 0 → lp p ≤ 127 := by intro h; unfold lp; omega
  have hV := vD_pos p
  have hT := tD_pos p
  obtain ⟨b, hb⟩ : ∃ b, bitl d = b := ⟨_, rfl⟩
  rw [hb] at b0 b1 x0 x1 dlt ⊢
  obtain ⟨e, he⟩ : ∃ e, pfe d p = e := ⟨_, rfl⟩
  obtain ⟨s, hs⟩ : ∃ s, pfs d p = s := ⟨_, rfl⟩
  have he' : e = min 1074 (53 - (b : Int) - lp p) := by rw [← he, pfe, hb]
  have hs' : s = 61 - (b : Int) - e - lp p := by rw [← hs, pfs, hb, he]
  rw [hs] at h64 ⊢
  have hs8 : 8 ≤ s := by omega
  obtain ⟨sn, hsn⟩ : ∃ n : Nat, s = n := ⟨s.toNat, by omega⟩
  obtain ⟨k, hk⟩ : ∃ n : Nat, e = 1074 - n := ⟨(1074 - e).toNat, by omega⟩
  have hsn8 : 8 ≤ sn := by omega
  rw [hsn, Int.toNat_natCast, usc_spec R x1 x0 hsn8]
  have hr := ratio (d := d) (p := p) (b := b) (s := sn) (k := k) b1 (by omega) lb0 hneg
  have hU : 0 < vD p * 2 ^ k := Nat.mul_pos hV (Nat.two_pow_pos _)
  have hDen : 0 < tD p * 2 ^ (128 + sn) := Nat.mul_pos hT (Nat.two_pow_pos _)
  rw [sticky_eq hDen hU hr]
  have hpw : 2 ^ (128 + sn) = 340282366920938463463374607431768211456 * 2 ^ sn := by rw [Nat.pow_add]
  have c128 : (2 : Nat) ^ 128 = 340282366920938463463374607431768211456 := by decide
  have c118 : (2 : Nat) ^ 118 = 332306998946228968225951765070086144 := by decide
  refine fin_m hV rfl (high_bound hT x1 ?_ ?_ hr)
  · have htop := R.top
    rw [c128, c118] at htop
    exact Nat.le_trans R.up (Nat.mul_le_mul_right _ (by omega))
  · rw [hpw]
    refine Nat.mul_le_mul_left _ ?_
    have := Nat.pow_le_pow_right (show 0 < 2 by decide) hsn8
    simpa using this
theorem usc_lt {x h l s : Nat} (hx : x < 18446744073709551616) (hh : h < 18446744073709551616) (hs : 8 ≤ s) : usc x h l s < 144115188075855872 := by
  have lA : x * h / 18446744073709551616 < 18446744073709551616 := by
    have : x * h < 18446744073709551616 * 18446744073709551616 := Nat.mul_lt_mul_of_lt_of_lt hx hh
    omega
  have key : ∀ a, a < 18446744073709551616 → a / 2 ^ s < 72057594037927937 := fun a ha => by
    have h2 : (2 : Nat) ^ 8 ≤ 2 ^ s := Nat.pow_le_pow_right (by decide) hs
    have h3 : a / 2 ^ s ≤ a / 2 ^ 8 := Nat.div_le_div_left h2 (by decide)
    have h4 : a / 2 ^ 8 = a / 256 := rfl
    omega
  have or1 : ∀ a, a < 72057594037927937 → ∀ b, b < 2 → a ||| b < 144115188075855872 := fun a ha b hb => by
    rcases (show b = 0 ∨ b = 1 by omega) with rfl | rfl
    · rw [Nat.or_zero]; omega
    · rw [or_one]; split <;> omega
  unfold usc
  simp only
  split
  · exact or1 _ (key _ lA) 1 (by decide)
  · refine or1 _ ?_ _ (by split <;> decide)
    split
    · exact key _ (by omega)
    · exact key _ lA
end Go.Proofs.YtjapgpmoojfhnaaGreatDoor.Fl

namespace Go.Proofs.YtjapgpmoojfhnaaGreatDoor.Fl
open Go Go.Lib
open Go.Proofs.YtjapgpmoojfhnaaGreatDoor.Dc (Digs digB sgnB dec_ne)

/-- The value of digits, the most significant first. -/
def num (l : List Nat) : Nat := l.foldl (fun a d => 10 * a + d) 0
theorem num_snoc (l : List Nat) (x : Nat) : num (l ++ [x]) = 10 * num l + x := by simp [num]
theorem foldl_num (l : List Nat) : ∀ a, l.foldl (fun a d => 10 * a + d) a = a * 10 ^ l.length + num l := by
  induction l with
  | nil => intro a; simp [num]
  | cons x l ih =>
    intro a
    have e2 : num (x :: l) = (10 * 0 + x) * 10 ^ l.length + num l := ih (10 * 0 + x)
    have e1 : (x :: l).foldl (fun a d => 10 * a + d) a = (10 * a + x) * 10 ^ l.length + num l := ih (10 * a + x)
    rw [e1, e2, List.length_cons, Nat.pow_succ, Nat.add_mul, Nat.mul_zero, Nat.zero_add]
    have : 10 * a * 10 ^ l.length = a * (10 ^ l.length * 10) := by rw [Nat.mul_comm 10 a, Nat.mul_assoc, Nat.mul_comm 10]
    omega
theorem num_append (l m : List Nat) : num (l ++ m) = num l * 10 ^ m.length + num m := by
  conv => lhs; unfold num
  rw [List.foldl_append, foldl_num m]
  rfl
theorem num_cons (x : Nat) (l : List Nat) : num (x :: l) = x * 10 ^ l.length + num l := by
  have := num_append [x] l
  rw [List.singleton_append] at this
  rw [this]
  simp [num]
theorem num_lt : ∀ {l : List Nat}, Digs l → num l < 10 ^ l.length
  | [], _ => by simp [num]
  | x :: l, h => by
    rw [num_cons, List.length_cons, Nat.pow_succ]
    have h1 := num_lt (l := l) (fun y hy => h y (by simp [hy]))
    have h2 := h x (by simp)
    have h3 : x * 10 ^ l.length ≤ 9 * 10 ^ l.length := Nat.mul_le_mul_right _ (by omega)
    omega
theorem num_ge {x : Nat} {l : List Nat} (hx : x ≠ 0) : 10 ^ l.length ≤ num (x :: l) := by
  rw [num_cons]
  have : 1 * 10 ^ l.length ≤ x * 10 ^ l.length := Nat.mul_le_mul_right _ (by omega)
  omega
theorem num_dec (u : Nat) : ∃ el : List Nat, Digs el ∧ decDigits u = digB el ∧ num el = u ∧ el ≠ [] := by
  induction u using Nat.strongRecOn with
  | _ u ih =>
    rw [decDigits]
    by_cases h : u < 10
    · rw [dif_pos h]
      exact ⟨[u], fun x hx => by simp at hx; omega, by simp [digB], by simp [num], by simp⟩
    · rw [dif_neg h]
      obtain ⟨el, h1, h2, h3, h4⟩ := ih (u / 10) (by omega)
      refine ⟨el ++ [u % 10], fun x hx => ?_, ?_, ?_, by simp⟩
      · rcases List.mem_append.1 hx with hx | hx
        · exact h1 x hx
        · simp at hx; omega
      · rw [h2]; simp [digB]
      · rw [num_snoc, h3]; omega
theorem take_snoc {l : List Nat} {k x : Nat} (h : l[k]? = some x) : l.take (k + 1) = l.take k ++ [x] := by
  rw [List.take_add_one, h]
  rfl
/-- What is read of the digits up to place k: nineteen at most are kept. -/
def mantN (l : List Nat) (k : Nat) : Nat := num (l.take (min k 19))
def truncN (l : List Nat) (k : Nat) : Bool := ((l.take k).drop 19).any (· != 0)
theorem mantN_succ {l : List Nat} {k x : Nat} (h : l[k]? = some x) (hk : k < 19) : mantN l (k + 1) = 10 * mantN l k + x := by
  unfold mantN
  rw [show min (k + 1) 19 = k + 1 by omega, show min k 19 = k by omega, take_snoc h, num_snoc]
theorem mantN_stay {l : List Nat} {k : Nat} (hk : 19 ≤ k) : mantN l (k + 1) = mantN l k := by
  unfold mantN
  rw [show min (k + 1) 19 = 19 by omega, show min k 19 = 19 by omega]
theorem truncN_low {l : List Nat} {k : Nat} (hk : k ≤ 19) : truncN l k = false := by
  unfold truncN
  rw [List.drop_eq_nil_of_le (by rw [List.length_take]; omega)]
  rfl
theorem truncN_succ {l : List Nat} {k x : Nat} (h : l[k]? = some x) (hk : 19 ≤ k) : truncN l (k + 1) = (truncN l k || (x != 0)) := by
  obtain ⟨hkl, _⟩ := List.getElem?_eq_some_iff.1 h
  unfold truncN
  rw [take_snoc h, List.drop_append_of_le_length (by rw [List.length_take]; omega), List.any_append]
  simp
theorem mantN_lt {l : List Nat} (h : Digs l) (k : Nat) : mantN l k < 10 ^ min k 19 := by
  unfold mantN
  have := num_lt (l := l.take (min k 19)) (fun x hx => h x (List.mem_of_mem_take hx))
  refine Nat.lt_of_lt_of_le this (Nat.pow_le_pow_right (by decide) ?_)
  rw [List.length_take]
  omega
/-- The text of a decimal that is not nought. -/
structure DecTxt (s : ByteArray) (g : Bool) (l : List Nat) (E : Int) : Prop where
  txt : s.data.toList = sgnB g ++ digB l ++ 101 :: itoa E
  digs : Digs l
  head : ∀ x, l.head? = some x → x ≠ 0
  ne : l ≠ []
  len : l.length ≤ 400
  lo : -2000 ≤ E
  hi : E ≤ 2000
/-- The same by places: a: the sign's length; b: where the exponent's digits begin. -/
structure DecPos (s : ByteArray) (g : Bool) (l : List Nat) (E : Int) (a b : Nat) (el : List Nat) : Prop where
  ha : a = if g then 1 else 0
  sign : g = true → s.data.toList[0]? = some 45
  coef : ∀ k x : Nat, l[k]? = some x → s.data.toList[a + k]? = some (UInt8.ofNat (48 + x))
  e : s.data.toList[a + l.length]? = some 101
  hb : b = a + l.length + 1 + (if E < 0 then 1 else 0)
  esign : E < 0 → s.data.toList[a + l.length + 1]? = some 45
  edigs : Digs el
  edig : ∀ k x : Nat, el[k]? = some x → s.data.toList[b + k]? = some (UInt8.ofNat (48 + x))
  enum : num el = E.natAbs
  ene : el ≠ []
  size : s.size = b + el.length
theorem DecTxt.pos {s : ByteArray} {g : Bool} {l : List Nat} {E : Int} (h : DecTxt s g l E) : ∃ a b el, DecPos s g l E a b el := by
  obtain ⟨el, h1, h2, h3, h4⟩ := num_dec E.natAbs
  have hit : itoa E = (if E < 0 then [45] else []) ++ digB el := by
    unfold itoa
    split
    · rw [h2]; rfl
    · rw [show E.toNat = E.natAbs by omega, h2]; rfl
  have hsz : s.size = s.data.toList.length := by simp
  have hdl : ∀ m : List Nat, (digB m).length = m.length := fun m => by simp [digB]
  have hsl : (sgnB g).length = if g then 1 else 0 := by cases g <;> rfl
  have hal : (sgnB g ++ digB l).length = (if g then 1 else 0) + l.length := by rw [List.length_append, hsl, hdl]
  have hdig : ∀ (m : List Nat) (k x : Nat), m[k]? = some x → (digB m)[k]? = some (UInt8.ofNat (48 + x)) := fun m k x hx => by simp [digB, hx]
  have htxt := h.txt
  rw [hit] at htxt
  have hel : (if E < 0 then ([45] : List UInt8) else []).length = if E < 0 then 1 else 0 := by split <;> rfl
  refine ⟨if g then 1 else 0, (if g then 1 else 0) + l.length + 1 + (if E < 0 then 1 else 0), el, rfl, ?_, ?_, ?_, rfl, ?_, h1, ?_, h3, h4, ?_⟩
  · intro hg
    rw [htxt, hg]; rfl
  · intro k x hx
    have hk : k < l.length := (List.getElem?_eq_some_iff.1 hx).1
    rw [htxt, List.getElem?_append_left (by rw [hal]; omega), List.getElem?_append_right (by rw [hsl]; omega), hsl, Nat.add_sub_cancel_left]
    exact hdig l k x hx
  · rw [htxt, List.getElem?_append_right (by rw [hal]; omega), hal, Nat.sub_self]; rfl
  · intro hE
    rw [htxt, List.getElem?_append_right (by rw [hal]; omega), hal, Nat.add_sub_cancel_left, if_pos hE]; rfl
  · intro k x hx
    rw [htxt, List.getElem?_append_right (by rw [hal]; omega), hal, show (if g then 1 else 0) + l.length + 1 + (if E < 0 then 1 else 0) + k - ((if g then 1 else 0) + l.length) = ((if E < 0 then 1 else 0) + k) + 1 by omega, List.getElem?_cons_succ,
      List.getElem?_append_right (by rw [hel]; omega), hel, Nat.add_sub_cancel_left]
    exact hdig el k x hx
  · rw [hsz, htxt, List.length_append, hal, List.length_cons, List.length_append, hel, hdl]
    omega
theorem DecTxt.first {s : ByteArray} {g : Bool} {l : List Nat} {E : Int} (h : DecTxt s g l E) : ∃ x r, l = x :: r ∧ x ≠ 0 := by
  cases hl : l with
  | nil => exact absurd hl h.ne
  | cons x r => exact ⟨x, r, rfl, h.head x (by rw [hl]; rfl)⟩
theorem mantN_pos {s : ByteArray} {g : Bool} {l : List Nat} {E : Int} (h : DecTxt s g l E) {k : Nat} (hk : 0 < k) (_ : k ≤ l.length) : 0 < mantN l k := by
  obtain ⟨x, r, rfl, hx⟩ := h.first
  unfold mantN
  obtain ⟨j, hj⟩ : ∃ j, min k 19 = j + 1 := ⟨min k 19 - 1, by omega⟩
  rw [hj, List.take_succ_cons]
  exact Nat.lt_of_lt_of_le (Nat.pow_pos (by decide)) (num_ge hx)
/-- The exponent's digits are at most four. -/
theorem few_digits {s : ByteArray} {g : Bool} {l : List Nat} {E : Int} (h : DecTxt s g l E) {a b : Nat} {el : List Nat} (P : DecPos s g l E a b el) : el.length ≤ 5 := by
  have h1 : s.data.toList.length = s.size := by simp
  have h2 := P.size
  rw [h.txt] at h1
  have h3 := Go.Proofs.YtjapgpmoojfhnaaGreatDoor.Dc.itoa_len h.lo h.hi
  have h4 : (sgnB g).length = if g then 1 else 0 := by cases g <;> rfl
  have h5 : (digB l).length = l.length := by simp [digB]
  rw [List.length_append, List.length_append, List.length_cons, h4, h5] at h1
  have hb := P.hb
  have ha := P.ha
  rw [← ha] at h1
  split at hb <;> omega
end Go.Proofs.YtjapgpmoojfhnaaGreatDoor.Fl
