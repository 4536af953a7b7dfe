/- The rounding of the floating-point operations is the nearest rung. The rounding of a quotient whose last digit says whether anything is left over. The product and the quotient of two floating-point numbers that are whole numbers are nearest to the true ones. The library's powers of ten as words, and the exact product and quotient by them. What the library's exact road reckons. A number within a millionth of a millionth of a millionth of a float lies nearest to it. One number at two exponents. The digits kept against the whole number. The decimal expansion of a float: its digits, its exponent, and what they are worth. -/
import Derived.Test.YtjapgpmoojfhnaaGreatDoorB06
import Derived.Test.YtjapgpmoojfhnaaGreatDoorB15
import Derived.Test.YtjapgpmoojfhnaaGreatDoorB17
namespace Go.Proofs.YtjapgpmoojfhnaaGreatDoor.Fl
open Ieee

/-- m * 2^e, rounded, is nearest to the number n / d of units that it is. -/
theorem near_frac {m n d : Nat} {e : Int} (hm : m ≠ 0) (hd : 0 < d) (hr : n * 2 ^ (-(e + 1074)).toNat = m * 2 ^ (e + 1074).toNat * d) : Near n d (double.nearest false m e) := by
  have hnear := nearest_is double m e hm
  obtain ⟨d1, d2, d3, d4, _⟩ := double_is
  rw [d1, d2, d3] at hnear
  rw [hnear]
  obtain ⟨lg0, lg1⟩ := lt_log m hm
  obtain ⟨kl1, kl2, kl3⟩ := kept_le double m e hm
  rw [d3] at kl3
  rw [d4] at kl1 kl2 kl3
  have hL : lastP double m e = max (e + m.log2 - 52) (-1074) := by unfold lastP; rw [d3, d4]; rfl
  obtain ⟨L, hLL⟩ : ∃ L, lastP double m e = L := ⟨_, rfl⟩
  rw [hLL] at kl2 kl3 hL ⊢
  have hk0 : -1074 ≤ L := by omega
  obtain ⟨k, hk⟩ : ∃ k : Nat, L = (k : Int) - 1074 := ⟨(L + 1074).toNat, by omega⟩
  rw [show (L - -1074).toNat = k by omega]
  have p52 : (2 : Nat) ^ 52 = 4503599627370496 := by decide
  have p53 : (2 : Nat) ^ (52 + 1) = 9007199254740992 := by decide
  rw [p53] at kl1 kl2
  rw [p52] at kl3
  by_cases hle : L ≤ e
  · -- nothing is dropped
    have hkp : keptP double m e = m * 2 ^ (e - L).toNat := by unfold keptP; rw [hLL, if_pos hle]
    obtain ⟨q, hq⟩ : ∃ q, keptP double m e = q := ⟨_, rfl⟩
    rw [hq] at kl1 kl2 kl3 hkp ⊢
    have e0 : (-(e + 1074)).toNat = 0 := by omega
    rw [e0, Nat.pow_zero, Nat.mul_one] at hr
    have hval : q * 2 ^ k * d = n := by
      rw [hr, hkp, Nat.mul_assoc m, ← Nat.pow_add, show (e - L).toNat + k = (e + 1074).toNat by omega]
    refine near_of_rnd (q := q) hd ?_ (kl2 hle) (Nat.le_of_eq hval) ?_ (.inl ⟨rfl, .inl ?_⟩)
    · by_cases h0 : k = 0
      · exact .inl h0
      · exact .inr (kl3 (by omega))
    · rw [Nat.add_mul, Nat.add_mul, hval, Nat.one_mul]
      have : 0 < 2 ^ k * d := Nat.mul_pos (Nat.two_pow_pos _) hd
      omega
    · rw [Nat.add_mul, Nat.add_mul, Nat.mul_assoc 2, Nat.mul_assoc 2, hval, Nat.one_mul]
      have : 0 < 2 ^ k * d := Nat.mul_pos (Nat.two_pow_pos _) hd
      omega
  · obtain ⟨c, hc⟩ : ∃ c : Nat, L - e = c := ⟨(L - e).toNat, by omega⟩
    have hkp : keptP double m e = rnd m c := by unfold keptP; rw [hLL, if_neg hle, show (L - e).toNat = c by omega]
    rw [hkp]
    have hc0 : 0 < c := by omega
    have hP : 0 < 2 ^ c := Nat.two_pow_pos c
    have hdm := Nat.div_add_mod m (2 ^ c)
    have hml := Nat.mod_lt m hP
    obtain ⟨q, hq⟩ : ∃ q, m / 2 ^ c = q := ⟨_, rfl⟩
    obtain ⟨r, hrr⟩ : ∃ r, m % 2 ^ c = r := ⟨_, rfl⟩
    have hrnd : rnd m c = q + (if 2 ^ (c - 1) < r ∨ (r = 2 ^ (c - 1) ∧ q % 2 = 1) then 1 else 0) := by unfold rnd; rw [hq, hrr]
    rw [hrr] at hml hdm
    rw [hq] at hdm
    have hhalf : 2 ^ c = 2 * 2 ^ (c - 1) := by rw [← Nat.pow_succ']; congr 1; omega
    -- n * 2^c = m * (2^k * d)
    have key : n * 2 ^ c = m * (2 ^ k * d) := by
      have e1 : n * 2 ^ c * 2 ^ (-(e + 1074)).toNat = m * (2 ^ k * d) * 2 ^ (-(e + 1074)).toNat := by
        rw [Nat.mul_right_comm, hr]
        have e2 : 2 ^ (e + 1074).toNat * 2 ^ c = 2 ^ k * 2 ^ (-(e + 1074)).toNat := by rw [← Nat.pow_add, ← Nat.pow_add]; congr 1; omega
        calc m * 2 ^ (e + 1074).toNat * d * 2 ^ c = m * d * (2 ^ (e + 1074).toNat * 2 ^ c) := by simp only [Nat.mul_assoc, Nat.mul_comm, Nat.mul_left_comm]
          _ = m * d * (2 ^ k * 2 ^ (-(e + 1074)).toNat) := by rw [e2]
          _ = _ := by simp only [Nat.mul_assoc, Nat.mul_comm]
      exact Nat.eq_of_mul_eq_mul_right (Nat.two_pow_pos _) e1
    obtain ⟨U, hU⟩ : ∃ U, 2 ^ k * d = U := ⟨_, rfl⟩
    have hU0 : 0 < U := by rw [← hU]; exact Nat.mul_pos (Nat.two_pow_pos _) hd
    rw [hU] at key
    have den : ∀ a, a * 2 ^ k * d = a * U := fun a => by rw [Nat.mul_assoc, hU]
    obtain ⟨P, hPP⟩ : ∃ P, 2 ^ c = P := ⟨_, rfl⟩
    obtain ⟨H, hH⟩ : ∃ H, 2 ^ (c - 1) = H := ⟨_, rfl⟩
    rw [hPP] at hP hdm hml key hhalf
    rw [hH] at hhalf hrnd
    rw [hhalf] at key hdm hml hP
    -- q
    have hq53 : q < 9007199254740992 := by
      rw [← hq]
      refine (Nat.div_lt_iff_lt_mul (Nat.two_pow_pos c)).2 (Nat.lt_of_lt_of_le lg1 ?_)
      rw [← p53, ← Nat.pow_add]
      exact Nat.pow_le_pow_right (by decide) (by omega)
    have hlow : k = 0 ∨ 4503599627370496 ≤ q := by
      by_cases h0 : k = 0
      · exact .inl h0
      · right
        rw [← hq]
        refine (Nat.le_div_iff_mul_le (Nat.two_pow_pos c)).2 (Nat.le_trans ?_ lg0)
        rw [← p52, ← Nat.pow_add]
        exact Nat.pow_le_pow_right (by decide) (by omega)
    -- comparisons
    have up : ∀ a b : Nat, a ≤ b * m → a * U ≤ b * n * (2 * H) := fun a b h => by
      rw [Nat.mul_assoc b, key, ← Nat.mul_assoc]
      exact Nat.mul_le_mul_right _ h
    have upl : ∀ a b : Nat, b * m < a → b * n * (2 * H) < a * U := fun a b h => by
      rw [Nat.mul_assoc b, key, ← Nat.mul_assoc]
      exact Nat.mul_lt_mul_of_pos_right h hU0
    have cancel_le : ∀ a b : Nat, a * (2 * H) ≤ b * (2 * H) → a ≤ b := fun a b h => Nat.le_of_mul_le_mul_right h hP
    have cancel_lt : ∀ a b : Nat, a * (2 * H) < b * (2 * H) → a < b := fun a b h => Nat.lt_of_mul_lt_mul_right h
    have sw : ∀ a, a * U * (2 * H) = a * (2 * H) * U := fun a => Nat.mul_right_comm _ _ _
    have hqm : q * (2 * H) ≤ m := by rw [Nat.mul_comm]; omega
    have hqm1 : m < (q + 1) * (2 * H) := by rw [Nat.add_mul, Nat.one_mul, Nat.mul_comm q]; omega
    have l0 : q * U ≤ n := cancel_le _ _ (by rw [sw]; have := up (q * (2 * H)) 1 (by omega); rwa [Nat.one_mul] at this)
    have l1 : n < (q + 1) * U := cancel_lt _ _ (by rw [sw]; have := upl ((q + 1) * (2 * H)) 1 (by omega); rwa [Nat.one_mul] at this)
    have h2m : 2 * m = 2 * (2 * H * q) + 2 * r := by omega
    have e2 : (2 * q + 1) * (2 * H) = 2 * (2 * H * q) + 2 * H := by rw [Nat.add_mul, Nat.one_mul, Nat.mul_assoc 2 q, Nat.mul_comm q]
    have e3 : 2 * n * (2 * H) = 2 * m * U := by rw [Nat.mul_assoc 2 n, key, ← Nat.mul_assoc]
    have lt_mid : r < H → 2 * n < (2 * q + 1) * U := fun h => cancel_lt _ _ (by rw [sw]; exact upl _ 2 (by rw [e2]; omega))
    have gt_mid : H < r → (2 * q + 1) * U < 2 * n := fun h => cancel_lt _ _ (by
      rw [sw, e3]
      refine Nat.mul_lt_mul_of_pos_right ?_ hU0
      rw [e2]
      omega)
    have eq_mid : r = H → 2 * n = (2 * q + 1) * U := fun h => Nat.eq_of_mul_eq_mul_right hP (by
      rw [sw, e3]
      congr 1
      rw [e2]; omega)
    refine near_of_rnd (q := q) hd hlow hq53 (by rw [den]; exact l0) (by rw [den]; exact l1) ?_
    rw [den, hrnd]
    rcases Nat.lt_trichotomy r H with h | h | h
    · left
      rw [if_neg (by omega)]
      exact ⟨rfl, .inl (lt_mid h)⟩
    · rcases Nat.mod_two_eq_zero_or_one q with ho | ho
      · left
        rw [if_neg (by omega)]
        exact ⟨rfl, .inr ⟨eq_mid h, ho⟩⟩
      · right
        rw [if_pos (.inr ⟨h, ho⟩)]
        exact ⟨rfl, .inr ⟨eq_mid h, ho⟩⟩
    · right
      rw [if_pos (.inl h)]
      exact ⟨rfl, .inl (gt_mid h)⟩
end Go.Proofs.YtjapgpmoojfhnaaGreatDoor.Fl

namespace Go.Proofs.YtjapgpmoojfhnaaGreatDoor.Fl
open Ieee

/-- An odd number of at least 56 digits that stands for one between its neighbours: its rounding is that one's nearest rung. -/
theorem near_sticky {m n d : Nat} {e : Int} (hm1 : m % 2 = 1) (hlg : 54 ≤ m.log2) (hd : 0 < d) (h1 : (m - 1) * (2 ^ (e + 1074).toNat * d) < n * 2 ^ (-(e + 1074)).toNat) (h2 : n * 2 ^ (-(e + 1074)).toNat < (m + 1) * (2 ^ (e + 1074).toNat * d)) :
    Near n d (double.nearest false m e) := by
  have hm : m ≠ 0 := by omega
  have hnear := nearest_is double m e hm
  obtain ⟨d1, d2, d3, d4, _⟩ := double_is
  rw [d1, d2, d3] at hnear
  rw [hnear]
  obtain ⟨lg0, lg1⟩ := lt_log m hm
  have hL : lastP double m e = max (e + m.log2 - 52) (-1074) := by unfold lastP; rw [d3, d4]; rfl
  obtain ⟨L, hLL⟩ : ∃ L, lastP double m e = L := ⟨_, rfl⟩
  rw [hLL] at hL ⊢
  obtain ⟨k, hk⟩ : ∃ k : Nat, L = (k : Int) - 1074 := ⟨(L + 1074).toNat, by omega⟩
  rw [show (L - -1074).toNat = k by omega]
  have p52 : (2 : Nat) ^ 52 = 4503599627370496 := by decide
  have p53 : (2 : Nat) ^ (52 + 1) = 9007199254740992 := by decide
  obtain ⟨c, hc⟩ : ∃ c : Nat, L - e = c := ⟨(L - e).toNat, by omega⟩
  have hkp : keptP double m e = rnd m c := by unfold keptP; rw [hLL, if_neg (by omega), show (L - e).toNat = c by omega]
  rw [hkp]
  have hc3 : 2 ≤ c := by omega
  have hP : 0 < 2 ^ c := Nat.two_pow_pos c
  have hdm := Nat.div_add_mod m (2 ^ c)
  have hml := Nat.mod_lt m hP
  have hq53 : m / 2 ^ c < 9007199254740992 := by
    refine (Nat.div_lt_iff_lt_mul (Nat.two_pow_pos c)).2 (Nat.lt_of_lt_of_le lg1 ?_)
    rw [← p53, ← Nat.pow_add]
    exact Nat.pow_le_pow_right (by decide) (by omega)
  have hlow : k = 0 ∨ 4503599627370496 ≤ m / 2 ^ c := by
    by_cases h0 : k = 0
    · exact .inl h0
    · right
      refine (Nat.le_div_iff_mul_le (Nat.two_pow_pos c)).2 (Nat.le_trans ?_ lg0)
      rw [← p52, ← Nat.pow_add]
      exact Nat.pow_le_pow_right (by decide) (by omega)
  obtain ⟨q, hq⟩ : ∃ q, m / 2 ^ c = q := ⟨_, rfl⟩
  obtain ⟨r, hrr⟩ : ∃ r, m % 2 ^ c = r := ⟨_, rfl⟩
  have hrnd : rnd m c = q + (if 2 ^ (c - 1) < r ∨ (r = 2 ^ (c - 1) ∧ q % 2 = 1) then 1 else 0) := by unfold rnd; rw [hq, hrr]
  rw [hrr] at hml hdm
  rw [hq] at hdm hq53 hlow
  have hhalf : 2 ^ c = 2 * 2 ^ (c - 1) := by rw [← Nat.pow_succ']; congr 1; omega
  have hquart : 2 ^ (c - 1) = 2 * 2 ^ (c - 2) := by rw [← Nat.pow_succ']; congr 1; omega
  -- the number's bounds, in units of the last place kept
  have e2 : 2 ^ (e + 1074).toNat * 2 ^ c = 2 ^ k * 2 ^ (-(e + 1074)).toNat := by rw [← Nat.pow_add, ← Nat.pow_add]; congr 1; omega
  have swap : ∀ a, a * (2 ^ (e + 1074).toNat * d) * 2 ^ c = a * (2 ^ k * d) * 2 ^ (-(e + 1074)).toNat := fun a => by
    calc a * (2 ^ (e + 1074).toNat * d) * 2 ^ c = a * d * (2 ^ (e + 1074).toNat * 2 ^ c) := by simp only [Nat.mul_assoc, Nat.mul_comm, Nat.mul_left_comm]
      _ = a * d * (2 ^ k * 2 ^ (-(e + 1074)).toNat) := by rw [e2]
      _ = _ := by simp only [Nat.mul_assoc, Nat.mul_comm, Nat.mul_left_comm]
  have k1 : (m - 1) * (2 ^ k * d) < n * 2 ^ c := by
    have h := Nat.mul_lt_mul_of_pos_right h1 hP
    rw [swap, Nat.mul_right_comm n] at h
    exact Nat.lt_of_mul_lt_mul_right h
  have k2 : n * 2 ^ c < (m + 1) * (2 ^ k * d) := by
    have h := Nat.mul_lt_mul_of_pos_right h2 hP
    rw [swap, Nat.mul_right_comm n] at h
    exact Nat.lt_of_mul_lt_mul_right h
  obtain ⟨U, hU⟩ : ∃ U, 2 ^ k * d = U := ⟨_, rfl⟩
  have hU0 : 0 < U := by rw [← hU]; exact Nat.mul_pos (Nat.two_pow_pos _) hd
  rw [hU] at k1 k2
  have den : ∀ a, a * 2 ^ k * d = a * U := fun a => by rw [Nat.mul_assoc, hU]
  obtain ⟨P, hPP⟩ : ∃ P, 2 ^ c = P := ⟨_, rfl⟩
  obtain ⟨H, hH⟩ : ∃ H, 2 ^ (c - 1) = H := ⟨_, rfl⟩
  obtain ⟨K, hK⟩ : ∃ K, 2 ^ (c - 2) = K := ⟨_, rfl⟩
  rw [hPP] at hP hdm hml k1 k2 hhalf
  rw [hH] at hhalf hquart hrnd
  rw [hK] at hquart
  rw [hhalf] at k1 k2 hdm hml hP
  clear hPP hH hK hhalf h1 h2 e2 swap hq hrr hnear lg0 lg1 hL hLL hkp
  have hrodd : r % 2 = 1 := by
    have : 2 * H * q = 2 * (H * q) := Nat.mul_assoc 2 H q
    omega
  have cancel_le : ∀ a b : Nat, a * (2 * H) ≤ b * (2 * H) → a ≤ b := fun a b h => Nat.le_of_mul_le_mul_right h hP
  have cancel_lt : ∀ a b : Nat, a * (2 * H) < b * (2 * H) → a < b := fun a b h => Nat.lt_of_mul_lt_mul_right h
  have sw : ∀ a, a * U * (2 * H) = a * (2 * H) * U := fun a => Nat.mul_right_comm _ _ _
  have hqm : q * (2 * H) ≤ m - 1 := by rw [Nat.mul_comm]; omega
  have hqm1 : m + 1 ≤ (q + 1) * (2 * H) := by rw [Nat.add_mul, Nat.one_mul, Nat.mul_comm q]; omega
  have l0 : q * U ≤ n := cancel_le _ _ (by
    rw [sw]
    exact Nat.le_of_lt (Nat.lt_of_le_of_lt (Nat.mul_le_mul_right _ hqm) k1))
  have l1 : n < (q + 1) * U := cancel_lt _ _ (by
    rw [sw]
    exact Nat.lt_of_lt_of_le k2 (Nat.mul_le_mul_right _ hqm1))
  have e2 : (2 * q + 1) * (2 * H) = 2 * (2 * H * q) + 2 * H := by rw [Nat.add_mul, Nat.one_mul, Nat.mul_assoc 2 q, Nat.mul_comm q]
  have lt_mid : r < H → 2 * n < (2 * q + 1) * U := fun h => cancel_lt _ _ (by
    rw [sw, Nat.mul_assoc 2 n]
    have h3 : 2 * ((m + 1) * U) ≤ (2 * q + 1) * (2 * H) * U := by
      rw [← Nat.mul_assoc 2 (m + 1) U]
      refine Nat.mul_le_mul_right _ ?_
      rw [e2]
      omega
    omega)
  have gt_mid : H < r → (2 * q + 1) * U < 2 * n := fun h => cancel_lt _ _ (by
    rw [sw, Nat.mul_assoc 2 n]
    have h3 : (2 * q + 1) * (2 * H) * U ≤ 2 * ((m - 1) * U) := by
      rw [← Nat.mul_assoc 2 (m - 1) U]
      refine Nat.mul_le_mul_right _ ?_
      rw [e2]
      omega
    omega)
  refine near_of_rnd (q := q) hd hlow hq53 (by rw [den]; exact l0) (by rw [den]; exact l1) ?_
  rw [den, hrnd]
  rcases Nat.lt_trichotomy r H with h | h | h
  · left
    rw [if_neg (by omega)]
    exact ⟨rfl, .inl (lt_mid h)⟩
  · exfalso; omega
  · right
    rw [if_pos (.inl h)]
    exact ⟨rfl, .inl (gt_mid h)⟩
/-- The rounding of a quotient, as the format reckons it. -/
theorem near_quot {m n N D : Nat} {i j : Int} (hm0 : 0 < m) (hm : m < 9007199254740992) (hn0 : 0 < n) (hD : 0 < D) (hr : N * n * 2 ^ (-(i - j + 1074)).toNat = m * D * 2 ^ (i - j + 1074).toNat) :
    Near N D (double.nearest false (2 * (m <<< (54 + n.log2 - m.log2) / n) + (m <<< (54 + n.log2 - m.log2) % n != 0).toNat) (i - j - ((54 + n.log2 - m.log2 : Nat) : Int) - 1)) := by
  obtain ⟨m0, _⟩ := lt_log m (by omega)
  obtain ⟨_, n1⟩ := lt_log n (by omega)
  have ml : m.log2 ≤ 52 := by
    have := (Nat.log2_lt (by omega : m ≠ 0)).2 (show m < 2 ^ 53 by omega)
    omega
  obtain ⟨t, ht⟩ : ∃ t, 54 + n.log2 - m.log2 = t := ⟨_, rfl⟩
  rw [ht, Nat.shiftLeft_eq]
  obtain ⟨e, he⟩ : ∃ e, i - j - (t : Int) - 1 = e := ⟨_, rfl⟩
  rw [he]
  -- n * A = 2 X B
  obtain ⟨A, hA⟩ : ∃ A, N * 2 ^ (-(e + 1074)).toNat = A := ⟨_, rfl⟩
  obtain ⟨B, hB⟩ : ∃ B, 2 ^ (e + 1074).toNat * D = B := ⟨_, rfl⟩
  have key : n * A = 2 * (m * 2 ^ t) * B := by
    have e3 : 2 ^ (i - j + 1074).toNat * 2 ^ (-(e + 1074)).toNat = 2 * 2 ^ t * 2 ^ (e + 1074).toNat * 2 ^ (-(i - j + 1074)).toNat := by
      rw [← Nat.pow_succ', ← Nat.pow_add, ← Nat.pow_add, ← Nat.pow_add]
      congr 1
      omega
    refine Nat.eq_of_mul_eq_mul_right (Nat.two_pow_pos (-(i - j + 1074)).toNat) ?_
    calc n * A * 2 ^ (-(i - j + 1074)).toNat = N * n * 2 ^ (-(i - j + 1074)).toNat * 2 ^ (-(e + 1074)).toNat := by rw [← hA]; simp only [Nat.mul_assoc, Nat.mul_comm, Nat.mul_left_comm]
      _ = m * D * (2 ^ (i - j + 1074).toNat * 2 ^ (-(e + 1074)).toNat) := by rw [hr]; simp only [Nat.mul_assoc]
      _ = m * D * (2 * 2 ^ t * 2 ^ (e + 1074).toNat * 2 ^ (-(i - j + 1074)).toNat) := by rw [e3]
      _ = _ := by rw [← hB]; simp only [Nat.mul_assoc, Nat.mul_comm, Nat.mul_left_comm]
  obtain ⟨X, hX⟩ : ∃ X, m * 2 ^ t = X := ⟨_, rfl⟩
  have hXl : 2 ^ 54 * 2 ^ n.log2 ≤ X := by
    rw [← hX]
    have e1 : 2 ^ (m.log2) * 2 ^ t ≤ m * 2 ^ t := Nat.mul_le_mul_right _ m0
    rwa [← Nat.pow_add, show m.log2 + t = 54 + n.log2 by omega, Nat.pow_add] at e1
  rw [hX] at key ⊢
  have hdm := Nat.div_add_mod X n
  have hml := Nat.mod_lt X hn0
  have hq : 2 ^ 53 ≤ X / n := by
    refine (Nat.le_div_iff_mul_le hn0).2 (Nat.le_trans ?_ hXl)
    have e1 : (2 : Nat) ^ 54 = 2 ^ 53 * 2 := by decide
    rw [e1, Nat.mul_assoc]
    refine Nat.mul_le_mul_left _ ?_
    rw [Nat.mul_comm, ← Nat.pow_succ]
    exact Nat.le_of_lt n1
  obtain ⟨q, hqq⟩ : ∃ q, X / n = q := ⟨_, rfl⟩
  obtain ⟨r, hrr⟩ : ∃ r, X % n = r := ⟨_, rfl⟩
  rw [hqq] at hdm hq ⊢
  rw [hrr] at hdm hml ⊢
  have p53 : (2 : Nat) ^ 53 = 9007199254740992 := by decide
  rw [p53] at hq
  by_cases h0 : r = 0
  · rw [h0]
    have hs : (((0 : Nat) != 0 : Bool)).toNat = 0 := rfl
    rw [hs, Nat.add_zero]
    refine near_frac (by omega) hD ?_
    rw [hA]
    have h1 : n * A = n * (2 * q * 2 ^ (e + 1074).toNat * D) := by
      rw [key, ← hdm, h0, Nat.add_zero, ← hB]
      simp only [Nat.mul_assoc, Nat.mul_comm, Nat.mul_left_comm]
    exact Nat.eq_of_mul_eq_mul_left hn0 h1
  · have hs : ((r != 0 : Bool)).toNat = 1 := by
      have : (r != 0) = true := by simp [h0]
      rw [this]; rfl
    rw [hs]
    have hB0 : 0 < B := by rw [← hB]; exact Nat.mul_pos (Nat.two_pow_pos _) hD
    have hlog : 54 ≤ (2 * q + 1).log2 := (Nat.le_log2 (by omega)).2 (by
      have : (2 : Nat) ^ 54 = 18014398509481984 := by decide
      rw [this]; omega)
    refine near_sticky (by omega) hlog hD ?_ ?_
    · rw [hA, hB]
      refine Nat.lt_of_mul_lt_mul_left (a := n) ?_
      rw [key, ← Nat.mul_assoc]
      refine Nat.mul_lt_mul_of_pos_right ?_ hB0
      rw [← hdm, Nat.mul_add, show 2 * q + 1 - 1 = 2 * q by omega, Nat.mul_left_comm n 2 q]
      omega
    · rw [hA, hB]
      refine Nat.lt_of_mul_lt_mul_left (a := n) ?_
      rw [key, ← Nat.mul_assoc]
      refine Nat.mul_lt_mul_of_pos_right ?_ hB0
      rw [← hdm, Nat.mul_add, show n * (2 * q + 1 + 1) = 2 * (n * q) + 2 * n by rw [show 2 * q + 1 + 1 = 2 * (q + 1) by omega, Nat.mul_left_comm, Nat.mul_add, Nat.mul_one, Nat.mul_add]]
      omega
end Go.Proofs.YtjapgpmoojfhnaaGreatDoor.Fl

namespace Go.Proofs.YtjapgpmoojfhnaaGreatDoor.Fl
open Ieee

theorem pow_part {a b x y : Nat} (h : a * 2 ^ x = b * 2 ^ y) : a * 2 ^ (-((y : Int) - x)).toNat = b * 2 ^ ((y : Int) - x).toNat := by
  rcases Nat.le_total x y with hxy | hxy
  · rw [show (-((y : Int) - x)).toNat = 0 by omega, show ((y : Int) - x).toNat = y - x by omega, Nat.pow_zero, Nat.mul_one]
    refine Nat.eq_of_mul_eq_mul_right (Nat.two_pow_pos x) ?_
    rw [h, Nat.mul_assoc, ← Nat.pow_add, show y - x + x = y by omega]
  · rw [show (-((y : Int) - x)).toNat = x - y by omega, show ((y : Int) - x).toNat = 0 by omega, Nat.pow_zero, Nat.mul_one]
    refine Nat.eq_of_mul_eq_mul_right (Nat.two_pow_pos y) ?_
    rw [← h, Nat.mul_assoc, ← Nat.pow_add, show x - y + y = x by omega]
/-- A rung's value as its significand at its place. -/
theorem val_mag (r : Nat) : ∃ i : Nat, rplace double r = (i : Int) - 1074 ∧ val double r = rmag double r * 2 ^ i := by
  have h := place_ge double r
  rw [d_least] at h
  refine ⟨(rplace double r + 1074).toNat, by omega, ?_⟩
  unfold val
  rw [d_least, show rplace double r - -1074 = rplace double r + 1074 by omega]
theorem mul_near {R T a b : Nat} (hR : val double R = a * 2 ^ 1074) (hT : val double T = b * 2 ^ 1074) (hR0 : 0 < R) (hT0 : 0 < T) : Near (a * b * 2 ^ 1074) 1 (double.nearest false (rmag double R * rmag double T) (rplace double R + rplace double T)) := by
  obtain ⟨i, hi, vi⟩ := val_mag R
  obtain ⟨j, hj, vj⟩ := val_mag T
  have m0 := rmag_pos (f := double) hR0
  have n0 := rmag_pos (f := double) hT0
  have mn : rmag double R * rmag double T ≠ 0 := Nat.ne_of_gt (Nat.mul_pos m0 n0)
  refine near_frac mn (by decide) ?_
  rw [Nat.mul_one]
  obtain ⟨z, hz⟩ : ∃ z : Nat, z = 1074 := ⟨_, rfl⟩
  rw [← hz] at hR hT ⊢
  have h : a * b * 2 ^ z * 2 ^ z = rmag double R * rmag double T * 2 ^ (i + j) := by
    calc a * b * 2 ^ z * 2 ^ z = (a * 2 ^ z) * (b * 2 ^ z) := by simp only [Nat.mul_assoc, Nat.mul_comm, Nat.mul_left_comm]
      _ = (rmag double R * 2 ^ i) * (rmag double T * 2 ^ j) := by rw [← hR, ← hT, vi, vj]
      _ = _ := by rw [Nat.pow_add]; simp only [Nat.mul_assoc, Nat.mul_comm, Nat.mul_left_comm]
  have := pow_part h
  rw [show ((i + j : Nat) : Int) - (z : Int) = rplace double R + rplace double T + 1074 by omega] at this
  exact this
theorem div_near {R T a b : Nat} (hR : val double R = a * 2 ^ 1074) (hT : val double T = b * 2 ^ 1074) (hR0 : 0 < R) (hT0 : 0 < T) (hb : 0 < b) :
    Near (a * 2 ^ 1074) b (double.nearest false (2 * (rmag double R <<< (54 + (rmag double T).log2 - (rmag double R).log2) / rmag double T) + (rmag double R <<< (54 + (rmag double T).log2 - (rmag double R).log2) % rmag double T != 0).toNat)
      (rplace double R - rplace double T - ((54 + (rmag double T).log2 - (rmag double R).log2 : Nat) : Int) - 1)) := by
  obtain ⟨i, hi, vi⟩ := val_mag R
  obtain ⟨j, hj, vj⟩ := val_mag T
  have m0 := rmag_pos (f := double) hR0
  have n0 := rmag_pos (f := double) hT0
  have ml := rmag_lt double R
  have p53 : (2 : Nat) ^ (52 + 1) = 9007199254740992 := by decide
  obtain ⟨_, _, _, d4, _⟩ := double_is
  rw [d4, p53] at ml
  refine near_quot m0 ml n0 hb ?_
  obtain ⟨z, hz⟩ : ∃ z : Nat, z = 1074 := ⟨_, rfl⟩
  rw [← hz] at hR hT ⊢
  have h : a * 2 ^ z * rmag double T * 2 ^ j = rmag double R * b * 2 ^ (i + z) := by
    calc a * 2 ^ z * rmag double T * 2 ^ j = (a * 2 ^ z) * (rmag double T * 2 ^ j) := by rw [Nat.mul_assoc]
      _ = (rmag double R * 2 ^ i) * (b * 2 ^ z) := by rw [← hR, ← hT, vi, vj]
      _ = _ := by rw [Nat.pow_add]; simp only [Nat.mul_assoc, Nat.mul_comm, Nat.mul_left_comm]
  have := pow_part h
  rw [show ((i + z : Nat) : Int) - (j : Int) = rplace double R - rplace double T + (z : Int) by omega] at this
  subst hz
  exact this
theorem word_false (f : Format) (n : Nat) : f.word false n = n := by
  unfold Format.word
  rfl
theorem nearest_neg (f : Format) (g : Bool) (m : Nat) (e : Int) : f.nearest g m e = f.word g (f.nearest false m e) := by
  by_cases h : m = 0
  · unfold Format.nearest
    rw [if_pos h, if_pos h, word_false]
  · unfold Format.nearest
    simp only [if_neg h]
    rw [word_false]
    rfl
theorem mul_words (f : Format) {g : Bool} {R T : Nat} (hR : R < f.infRung) (hT : T < f.infRung) :
    f.mul (f.word g R) (f.word false T) = some (f.word g (f.nearest false (rmag f R * rmag f T) (rplace f R + rplace f T))) := by
  unfold Format.mul
  rw [read_rung f g hR, read_rung f false hT]
  show some (f.nearest (g ^^ false) _ _) = _
  rw [Bool.xor_false, nearest_neg]
theorem div_words (f : Format) {g : Bool} {R T : Nat} (hf : f.fractionBits = 52) (hR : R < f.infRung) (hT : T < f.infRung) (hT0 : rmag f T ≠ 0) :
    f.div (f.word g R) (f.word false T) = some (f.word g (f.nearest false (2 * (rmag f R <<< (54 + (rmag f T).log2 - (rmag f R).log2) / rmag f T) + (rmag f R <<< (54 + (rmag f T).log2 - (rmag f R).log2) % rmag f T != 0).toNat)
      (rplace f R - rplace f T - ((54 + (rmag f T).log2 - (rmag f R).log2 : Nat) : Int) - 1))) := by
  unfold Format.div
  rw [read_rung f g hR, read_rung f false hT]
  unfold Datum.quotient
  simp only [hT0, if_false, hf]
  show some (f.nearest (g ^^ false) _ _) = _
  rw [Bool.xor_false, nearest_neg]
end Go.Proofs.YtjapgpmoojfhnaaGreatDoor.Fl

namespace Go.Proofs.YtjapgpmoojfhnaaGreatDoor.Fl
open Ieee

/-- The library's powers of ten, as words. -/
def tenW : List Nat := [4607182418800017408, 4621819117588971520, 4636737291354636288, 4652007308841189376, 4666723172467343360, 4681608360884174848, 4696837146684686336, 4711630319722168320, 4726483295884279808, 4741671816366391296, 4756540486875873280, 4771362005757984768, 4786511204640096256, 4801453603149578240, 4816244402031689728, 4831355200913801216, 4846369599423283200, 4861130398305394688, 4876203697187506176, 4891288408196988160, 4906019910204099648, 4921056587992461136, 4936209963552724370]
def tenOk (k : Nat) : Bool := (val double (tenW.getD k 0) == 10 ^ k * 2 ^ 1074) && (decide (0 < tenW.getD k 0) && decide (tenW.getD k 0 < 9218868437227405312))
theorem tens_ok : (List.range 23).all tenOk = true := by decide +kernel
theorem ten_val {k : Nat} (h : k < 23) : val double (tenW.getD k 0) = 10 ^ k * 2 ^ 1074 ∧ 0 < tenW.getD k 0 ∧ tenW.getD k 0 < 9218868437227405312 := by
  have := List.all_eq_true.mp tens_ok k (List.mem_range.mpr h)
  unfold tenOk at this
  rw [Bool.and_eq_true, Bool.and_eq_true] at this
  exact ⟨eq_of_beq this.1, of_decide_eq_true this.2.1, of_decide_eq_true this.2.2⟩
end Go.Proofs.YtjapgpmoojfhnaaGreatDoor.Fl

namespace Go.Proofs.YtjapgpmoojfhnaaGreatDoor.Fl
open Ieee

theorem wordN_rung {m : Nat} (h0 : 0 < m) (h : m < 9007199254740992) : val double (wordN m) = m * 2 ^ 1074 ∧ 0 < wordN m ∧ wordN m < 9218868437227405312 := by
  obtain ⟨hl, hF, hm⟩ := frac_is h0 h
  obtain ⟨r1, r2⟩ := normal_rung (q := m.log2 + 1023) (F := fracN m) (by omega) hF
  refine ⟨?_, by unfold wordN; omega, by unfold wordN; omega⟩
  obtain ⟨i, hi, vi⟩ := val_mag (wordN m)
  rw [vi, show rmag double (wordN m) = m * 2 ^ (52 - m.log2) by unfold wordN; rw [r1, hm], Nat.mul_assoc, ← Nat.pow_add]
  rw [show rplace double (wordN m) = ((m.log2 + 1023 : Nat) : Int) - 1075 by unfold wordN; rw [r2]] at hi
  rw [show 52 - m.log2 + i = 1074 by omega]
theorem wordN_near {m : Nat} (h0 : 0 < m) (h : m < 9007199254740992) : Near (m * 2 ^ 1074) 1 (wordN m) := by
  obtain ⟨w1, w2, w3⟩ := wordN_rung h0 h
  exact near_self (by omega) w3 (by rw [w1, Nat.mul_one])
theorem near_whole {V V' R R' : Nat} (h : Near (V * 2 ^ 1074) 1 R) (h' : Near (V' * 2 ^ 1074) 1 R') (hle : V ≤ V') : R ≤ R' :=
  near_mono (by omega) (by omega) h h' (by rw [Nat.mul_one, Nat.mul_one]; exact Nat.mul_le_mul_right _ hle)
/-- The float product of two rungs. -/
def mulR (R T : Nat) : Nat := double.nearest false (rmag double R * rmag double T) (rplace double R + rplace double T)
/-- The float quotient of two rungs. -/
def divR (R T : Nat) : Nat := double.nearest false (2 * (rmag double R <<< (54 + (rmag double T).log2 - (rmag double R).log2) / rmag double T) + (rmag double R <<< (54 + (rmag double T).log2 - (rmag double R).log2) % rmag double T != 0).toNat)
  (rplace double R - rplace double T - ((54 + (rmag double T).log2 - (rmag double R).log2 : Nat) : Int) - 1)
theorem mulR_near {R T a b : Nat} (hR : val double R = a * 2 ^ 1074) (hT : val double T = b * 2 ^ 1074) (hR0 : 0 < R) (hT0 : 0 < T) : Near (a * b * 2 ^ 1074) 1 (mulR R T) := mul_near hR hT hR0 hT0
theorem divR_near {R T a b : Nat} (hR : val double R = a * 2 ^ 1074) (hT : val double T = b * 2 ^ 1074) (hR0 : 0 < R) (hT0 : 0 < T) (hb : 0 < b) : Near (a * 2 ^ 1074) b (divR R T) := div_near hR hT hR0 hT0 hb
/-- A product that is rounded to at most 10^15 is exact. -/
theorem whole_le {V R : Nat} (hV : 0 < V) (h : Near (V * 2 ^ 1074) 1 R) (hle : R ≤ 4831355200913801216) : val double R = V * 2 ^ 1074 ∧ 0 < R := by
  have hlt : V < 9007199254740992 := by
    refine Nat.lt_of_not_le fun hge => ?_
    have := near_whole (wordN_near (m := 9007199254740991) (by omega) (by omega)) h (by omega)
    have hw : wordN 9007199254740991 = 4845873199050653695 := by decide +kernel
    omega
  obtain ⟨w1, w2, w3⟩ := wordN_rung hV hlt
  have := near_unique (by omega) h (wordN_near hV hlt)
  rw [this]
  exact ⟨w1, w2⟩
end Go.Proofs.YtjapgpmoojfhnaaGreatDoor.Fl

namespace Go.Proofs.YtjapgpmoojfhnaaGreatDoor.Fl
open Ieee

end Go.Proofs.YtjapgpmoojfhnaaGreatDoor.Fl

namespace Go.Proofs.YtjapgpmoojfhnaaGreatDoor.Fl
open Ieee

theorem v_cross (a j : Nat) (E : Int) : vN (a * 10 ^ j) E * vD (E + j) = vN a (E + j) * vD E := by
  unfold vN vD
  obtain ⟨z, hz⟩ : ∃ z : Nat, (2 : Nat) ^ 1074 = z := ⟨_, rfl⟩
  rw [hz]
  by_cases h : 0 ≤ E
  · rw [if_pos h, if_pos h, if_pos (show 0 ≤ E + (j : Int) by omega), if_pos (show 0 ≤ E + (j : Int) by omega), show (E + (j : Int)).toNat = E.toNat + j by omega, Nat.pow_add]
    simp only [Nat.mul_assoc, Nat.mul_comm, Nat.mul_left_comm]
  · rw [if_neg h, if_neg h]
    by_cases h2 : 0 ≤ E + (j : Int)
    · rw [if_pos h2, if_pos h2]
      obtain ⟨m, hm⟩ : ∃ m, (-E).toNat = m := ⟨_, rfl⟩
      rw [hm, show (E + (j : Int)).toNat = j - m by omega, Nat.mul_one]
      have : 10 ^ j = 10 ^ (j - m) * 10 ^ m := by rw [← Nat.pow_add, show j - m + m = j by omega]
      rw [this]
      simp only [Nat.mul_comm, Nat.mul_left_comm]
    · rw [if_neg h2, if_neg h2]
      obtain ⟨m, hm⟩ : ∃ m, (-E).toNat = m := ⟨_, rfl⟩
      rw [hm, show (-(E + (j : Int))).toNat = m - j by omega]
      have : 10 ^ m = 10 ^ (m - j) * 10 ^ j := by rw [← Nat.pow_add, show m - j + j = m by omega]
      rw [this]
      simp only [Nat.mul_assoc, Nat.mul_comm, Nat.mul_left_comm]
theorem vN_lin (a b : Nat) (E : Int) : vN (a + b) E = vN a E + vN b E := by
  unfold vN
  split <;> simp only [Nat.add_mul]
end Go.Proofs.YtjapgpmoojfhnaaGreatDoor.Fl

namespace Go.Proofs.YtjapgpmoojfhnaaGreatDoor.Fl
open Go Go.Lib
open Go.Proofs.YtjapgpmoojfhnaaGreatDoor.Dc (Digs digB sgnB dec_ne)

theorem mant_bounds {l : List Nat} (h : Digs l) (hl : 19 ≤ l.length) : mantN l l.length * 10 ^ (l.length - 19) ≤ num l ∧ num l < (mantN l l.length + 1) * 10 ^ (l.length - 19) := by
  have e : num l = num (l.take 19) * 10 ^ (l.drop 19).length + num (l.drop 19) := by
    rw [← num_append, List.take_append_drop]
  have hd : num (l.drop 19) < 10 ^ (l.drop 19).length := num_lt (fun x hx => h x (List.mem_of_mem_drop hx))
  rw [List.length_drop] at e hd
  have em : mantN l l.length = num (l.take 19) := by unfold mantN; rw [Nat.min_eq_right hl]
  rw [em, e, Nat.add_mul, Nat.one_mul]
  omega
theorem mant_short {l : List Nat} (hl : l.length ≤ 19) : mantN l l.length = num l := by
  unfold mantN
  rw [Nat.min_eq_left hl, List.take_length]
theorem num_zeros : ∀ {m : List Nat}, m.any (· != 0) = false → num m = 0
  | [], _ => rfl
  | x :: m, h => by
    rw [List.any_cons, Bool.or_eq_false_iff] at h
    have hx : x = 0 := by simpa using h.1
    rw [num_cons, hx, num_zeros h.2, Nat.zero_mul]
theorem mant_exact {l : List Nat} (hl : 19 ≤ l.length) (ht : truncN l l.length = false) : num l = mantN l l.length * 10 ^ (l.length - 19) := by
  have e : num l = num (l.take 19) * 10 ^ (l.drop 19).length + num (l.drop 19) := by
    rw [← num_append, List.take_append_drop]
  unfold truncN at ht
  rw [List.take_length] at ht
  rw [e, num_zeros ht, List.length_drop, Nat.add_zero]
  unfold mantN
  rw [Nat.min_eq_right hl]
end Go.Proofs.YtjapgpmoojfhnaaGreatDoor.Fl

namespace Go.Proofs.YtjapgpmoojfhnaaGreatDoor.Fl
open Go Go.Lib
open Go.Proofs.YtjapgpmoojfhnaaGreatDoor.Dc (Digs digB sgnB dec_ne)

/-- The digits of a float, as a whole number, in units of ten to the power of xE. -/
def xN (r : Nat) : Nat := if 0 ≤ oe r then om r * 2 ^ (oe r).toNat else om r * 5 ^ (-oe r).toNat
def xE (r : Nat) : Int := min (oe r) 0
/-- A number without its trailing zeros. -/
theorem strip_ex : ∀ n : Nat, 0 < n → ∃ c z, n = c * 10 ^ z ∧ c % 10 ≠ 0 := by
  intro n
  induction n using Nat.strongRecOn with
  | _ n ih =>
    intro h
    by_cases h1 : n % 10 = 0
    · obtain ⟨c, z, h2, h3⟩ := ih (n / 10) (by omega) (by omega)
      refine ⟨c, z + 1, ?_, h3⟩
      rw [Nat.pow_succ, ← Nat.mul_assoc, ← h2]
      omega
    · exact ⟨n, 0, by simp, h1⟩
/-- c and z: the digits of a float without trailing zeros, and their number. -/
structure Exp10 (r c z : Nat) : Prop where
  fac : xN r = c * 10 ^ z
  odd : c % 10 ≠ 0
theorem exp10_ex {r : Nat} (h0 : 0 < r) : ∃ c z, Exp10 r c z := by
  obtain ⟨_, _, h3, _⟩ := om_spec h0
  have hp : 0 < xN r := by
    unfold xN
    split
    · exact Nat.mul_pos h3 (Nat.two_pow_pos _)
    · exact Nat.mul_pos h3 (Nat.pow_pos (by decide))
  obtain ⟨c, z, h1, h2⟩ := strip_ex (xN r) hp
  exact ⟨c, z, h1, h2⟩
theorem Exp10.pos {r c z : Nat} (h : Exp10 r c z) : 0 < c := by
  have := h.odd
  omega
theorem val_is {r : Nat} (h0 : 0 < r) : val Ieee.double r = om r * 2 ^ (oe r + 1074).toNat := by
  obtain ⟨h1, _, _, _⟩ := om_spec h0
  have hp := place_ge Ieee.double r
  rw [d_least] at hp
  unfold val
  rw [h1, d_least, Nat.mul_assoc, ← Nat.pow_add]
  congr 2
  unfold oe
  omega
theorem pow_odd : ∀ k : Nat, 5 ^ k % 2 = 1
  | 0 => rfl
  | k + 1 => by rw [Nat.pow_succ, Nat.mul_mod, pow_odd k]
theorem Exp10.neg {r c z : Nat} (h0 : 0 < r) (h : Exp10 r c z) (hE : oe r < 0) : z = 0 ∧ c = om r * 5 ^ (-oe r).toNat := by
  obtain ⟨_, h2, _, _⟩ := om_spec h0
  have hv := h.fac
  unfold xN at hv
  rw [if_neg (by omega)] at hv
  have hodd : (om r * 5 ^ (-oe r).toNat) % 2 = 1 := by rw [Nat.mul_mod, h2, pow_odd]
  have hz : z = 0 := by
    rcases Nat.eq_zero_or_pos z with h | h
    · exact h
    · exfalso
      obtain ⟨y, rfl⟩ : ∃ y, z = y + 1 := ⟨z - 1, by omega⟩
      rw [hv, Nat.pow_succ, ← Nat.mul_assoc] at hodd
      omega
  subst hz
  rw [Nat.pow_zero, Nat.mul_one] at hv
  exact ⟨rfl, hv.symm⟩
theorem Exp10.nonneg {r c z : Nat} (h : Exp10 r c z) (hE : 0 ≤ oe r) : c * 10 ^ z = om r * 2 ^ (oe r).toNat := by
  have hv := h.fac
  unfold xN at hv
  rw [if_pos hE] at hv
  exact hv.symm
/-- The value of the expansion is the float's. -/
theorem Exp10.value {r c z : Nat} (h0 : 0 < r) (hr : r < 9218868437227405312) (h : Exp10 r c z) : vN c (xE r + z) = val Ieee.double r * vD (xE r + z) := by
  have hb := (om_bounds h0 hr).2.1
  rw [val_is h0]
  by_cases hE : 0 ≤ oe r
  · have hv := h.nonneg hE
    have e : xE r + z = (z : Int) := by unfold xE; omega
    rw [e]
    unfold vN vD
    obtain ⟨B, hB⟩ : ∃ B : Nat, (1074 : Nat) = B := ⟨_, rfl⟩
    rw [hB, if_pos (by omega), if_pos (by omega), Int.toNat_natCast, hv, Nat.mul_one, Nat.mul_assoc, ← Nat.pow_add]
    congr 2
    omega
  · obtain ⟨rfl, hc⟩ := h.neg h0 (by omega)
    have e : xE r + ((0 : Nat) : Int) = oe r := by unfold xE; omega
    rw [e]
    unfold vN vD
    obtain ⟨B, hB⟩ : ∃ B : Nat, (1074 : Nat) = B := ⟨_, rfl⟩
    rw [hB, if_neg hE, if_neg hE, hc]
    obtain ⟨k, hk⟩ : ∃ k : Nat, (-oe r).toNat = k := ⟨_, rfl⟩
    rw [hk]
    have e2 : (oe r + 1074).toNat + k = B := by omega
    have e3 : (10 : Nat) ^ k = 2 ^ k * 5 ^ k := by rw [← Nat.mul_pow]
    rw [e3, Nat.mul_assoc, Nat.mul_assoc, ← Nat.mul_assoc (2 ^ (oe r + 1074).toNat), ← Nat.pow_add, e2, Nat.mul_comm (5 ^ k)]
theorem pow10_lt {a b : Nat} (h : 10 ^ a < 10 ^ b) : a < b := by
  rcases Nat.lt_or_ge a b with h1 | h1
  · exact h1
  · have := Nat.pow_le_pow_right (n := 10) (by decide) h1
    omega
theorem pow1024 : (2 : Nat) ^ 1024 < 10 ^ 309 := by decide +kernel
theorem two_1024 {k : Nat} (h : k ≤ 1024) : 2 ^ k < 10 ^ 309 := by
  obtain ⟨K, hK⟩ : ∃ K, K = 1024 := ⟨_, rfl⟩
  have p := pow1024
  rw [← hK] at p h
  exact Nat.lt_of_le_of_lt (Nat.pow_le_pow_right (by decide) h) p
theorem pow1074 : (2 : Nat) ^ 1074 < 10 ^ 324 := by decide +kernel
theorem two_1074 : ∃ Z, Z = 324 ∧ ∀ k, k ≤ 1074 → 2 ^ k < 10 ^ Z := by
  obtain ⟨K, hK⟩ : ∃ K, K = 1074 := ⟨_, rfl⟩
  obtain ⟨Z, hZ⟩ : ∃ Z, Z = 324 := ⟨_, rfl⟩
  have p := pow1074
  rw [← hK, ← hZ] at p
  rw [← hK]
  exact ⟨Z, hZ, fun k h => Nat.lt_of_le_of_lt (Nat.pow_le_pow_right (by decide) h) p⟩
/-- Where the digits of a float lie. -/
theorem Exp10.place {r c z n : Nat} (h0 : 0 < r) (hr : r < 9218868437227405312) (h : Exp10 r c z) (h1 : 10 ^ n ≤ c) (h2 : c < 10 ^ (n + 1)) : (n : Int) + (xE r + z) ≤ 308 ∧ -324 ≤ (n : Int) + (xE r + z) ∧ -1074 ≤ xE r + z ∧ z ≤ 308 := by
  obtain ⟨b0, b1, b2, b3⟩ := om_bounds h0 hr
  obtain ⟨_, _, m1, m2⟩ := om_spec h0
  by_cases hE : 0 ≤ oe r
  · have hv := h.nonneg hE
    have hm : om r < 2 ^ ((om r).log2 + 1) := Nat.lt_log2_self
    have h3 : om r * 2 ^ (oe r).toNat < 10 ^ 309 := by
      have h4 : om r * 2 ^ (oe r).toNat < 2 ^ ((om r).log2 + 1) * 2 ^ (oe r).toNat := Nat.mul_lt_mul_of_pos_right hm (Nat.two_pow_pos _)
      rw [← Nat.pow_add] at h4
      exact Nat.lt_trans h4 (two_1024 (by omega))
    rw [← hv] at h3
    have h5 : 10 ^ (n + z) ≤ c * 10 ^ z := by rw [Nat.pow_add]; exact Nat.mul_le_mul_right _ h1
    have h6 := pow10_lt (Nat.lt_of_le_of_lt h5 h3)
    unfold xE
    omega
  · obtain ⟨rfl, hc⟩ := h.neg h0 (by omega)
    obtain ⟨k, hk⟩ : ∃ k : Nat, (-oe r).toNat = k := ⟨_, rfl⟩
    rw [hk] at hc
    have hke : oe r = -(k : Int) := by omega
    have hk2 : k ≤ 1074 := by omega
    have e3 : (10 : Nat) ^ k = 2 ^ k * 5 ^ k := by rw [← Nat.mul_pow]
    have up : n < 16 + k := by
      refine pow10_lt (Nat.lt_of_le_of_lt h1 ?_)
      rw [hc, Nat.pow_add, e3]
      have a1 : om r * 5 ^ k < 10 ^ 16 * 5 ^ k := Nat.mul_lt_mul_of_pos_right (Nat.lt_trans m2 (by decide)) (Nat.pow_pos (by decide))
      have a2 : 10 ^ 16 * 5 ^ k ≤ 10 ^ 16 * (2 ^ k * 5 ^ k) := Nat.mul_le_mul_left _ (Nat.le_mul_of_pos_left _ (Nat.two_pow_pos _))
      omega
    obtain ⟨Z, hZ, hZ2⟩ := two_1074
    have lo : k < n + 1 + Z := by
      refine pow10_lt ?_
      rw [e3, Nat.pow_add]
      have a1 : 5 ^ k ≤ c := by rw [hc]; exact Nat.le_mul_of_pos_left _ m1
      have a2 := hZ2 k hk2
      have a3 : 2 ^ k * 5 ^ k < 2 ^ k * 10 ^ (n + 1) := Nat.mul_lt_mul_of_pos_left (by omega) (Nat.two_pow_pos _)
      have a4 : 2 ^ k * 10 ^ (n + 1) ≤ 10 ^ Z * 10 ^ (n + 1) := Nat.mul_le_mul_right _ (Nat.le_of_lt a2)
      rw [Nat.mul_comm (10 ^ Z)] at a4
      exact Nat.lt_of_lt_of_le a3 a4
    unfold xE
    omega
end Go.Proofs.YtjapgpmoojfhnaaGreatDoor.Fl
