/- Shortest, plainly: of the decimals between the middles the one with the fewest digits; it has at most seventeen of them, and the float is nearest to it. The shortest decimal of a float: at most seventeen digits, and nearest to the float. Texts of numbers, cut, compared and counted on. next: the digits of the number that is greater by one. next at the digits of a number. The test of the interval at digits. The reference: Cmp, digits and scaled at numbers without a sign. -/
import Derived.Test.YtjapgpmoojfhnaaGreatDoorB07
import Derived.Test.YtjapgpmoojfhnaaGreatDoorB08
import Derived.Test.YtjapgpmoojfhnaaGreatDoorB11
import Derived.Test.YtjapgpmoojfhnaaGreatDoorB14
import Derived.Test.YtjapgpmoojfhnaaGreatDoorB18
namespace Go.Proofs.YtjapgpmoojfhnaaGreatDoor.Fl
open Go Go.Lib Ieee
open Go.Proofs.YtjapgpmoojfhnaaGreatDoor.Dc (Digs digB sgnB dec_ne)

def insideN (c lo hi : Nat) (even : Bool) : Bool := (decide (lo < c) && decide (c < hi)) || (even && (decide (c = lo) || decide (c = hi)))
/-- The decimals beside v with j zeros. -/
def dnN (v j : Nat) : Nat := v / 10 ^ j * 10 ^ j
def upN (v j : Nat) : Nat := v / 10 ^ j * 10 ^ j + 10 ^ j
def goDn (v lo hi : Nat) (even : Bool) (j : Nat) : Bool := insideN (dnN v j) lo hi even && (!insideN (upN v j) lo hi even || decide (2 * v < dnN v j + upN v j) || (decide (2 * v = dnN v j + upN v j) && v / 10 ^ j % 2 == 0))
def pickN (v lo hi : Nat) (even : Bool) : Nat → Nat
  | 0 => v
  | j + 1 => if goDn v lo hi even (j + 1) = true then dnN v (j + 1) else if insideN (upN v (j + 1)) lo hi even = true then upN v (j + 1) else pickN v lo hi even j
theorem pick_in {v lo hi : Nat} {even : Bool} (h1 : lo < v) (h2 : v < hi) : ∀ j, insideN (pickN v lo hi even j) lo hi even = true
  | 0 => by simp [pickN, insideN, h1, h2]
  | j + 1 => by
    rw [pickN]
    split
    · rename_i h
      unfold goDn at h
      rw [Bool.and_eq_true] at h
      exact h.1
    · split
      · assumption
      · exact pick_in h1 h2 j
theorem pow10_pos (j : Nat) : 0 < 10 ^ j := Nat.pow_pos (by decide)
theorem pick_le {v lo hi : Nat} {even : Bool} {L : Nat} (hv : v < 10 ^ L) : ∀ j, j ≤ L → pickN v lo hi even j ≤ 10 ^ L
  | 0, _ => Nat.le_of_lt hv
  | j + 1, hj => by
    have hp := pow10_pos (j + 1)
    have h1 : dnN v (j + 1) ≤ v := Nat.div_mul_le_self _ _
    have h2 : upN v (j + 1) ≤ 10 ^ L := by
      obtain ⟨i, hi⟩ : ∃ i, L = i + (j + 1) := ⟨L - (j + 1), by omega⟩
      rw [hi, Nat.pow_add] at hv
      have h3 : v / 10 ^ (j + 1) < 10 ^ i := (Nat.div_lt_iff_lt_mul hp).2 hv
      have h4 : (v / 10 ^ (j + 1) + 1) * 10 ^ (j + 1) ≤ 10 ^ i * 10 ^ (j + 1) := Nat.mul_le_mul_right _ h3
      rw [Nat.add_mul, Nat.one_mul] at h4
      rw [hi, Nat.pow_add]
      exact h4
    rw [pickN]
    split
    · omega
    · split
      · exact h2
      · exact pick_le hv j (by omega)
theorem pick_mult {v lo hi : Nat} {even : Bool} {K : Nat} (hK : insideN (dnN v (K + 1)) lo hi even = true ∨ insideN (upN v (K + 1)) lo hi even = true) : ∀ j, K + 1 ≤ j → 10 ^ (K + 1) ∣ pickN v lo hi even j
  | 0, h => by omega
  | j + 1, h => by
    have hd : 10 ^ (K + 1) ∣ 10 ^ (j + 1) := Nat.pow_dvd_pow 10 h
    have h1 : 10 ^ (K + 1) ∣ dnN v (j + 1) := Nat.dvd_trans hd (Nat.dvd_mul_left _ _)
    have h2 : 10 ^ (K + 1) ∣ upN v (j + 1) := Nat.dvd_add h1 hd
    rw [pickN]
    split
    · exact h1
    · rename_i hg
      split
      · exact h2
      · rename_i hu
        rcases Nat.lt_or_ge K j with hlt | hge
        · exact pick_mult hK j hlt
        · exfalso
          obtain rfl : K = j := by omega
          have hu' : insideN (upN v (K + 1)) lo hi even = false := by simpa using hu
          rcases hK with hk | hk
          · apply hg
            unfold goDn
            rw [hk, hu']
            rfl
          · exact hu hk
/-- Seventeen digits are enough. -/
theorem inside17 {A M S v lo hi t : Nat} {even : Bool} (hS : 0 < S) (hA : A = M * S) (hM : M < 9007199254740992) (hv : v = 4 * A) (hhi : hi = 4 * A + 2 * S) (hlo : lo + 2 * S = 4 * A ∨ (lo + S = 4 * A ∧ M = 4503599627370496)) (j : Nat) (ht : t = 10 ^ j) (h : t * 10000000000000000 ≤ v) : insideN (dnN v j) lo hi even = true ∨ insideN (upN v j) lo hi even = true := by
  have hp := pow10_pos j
  have hA2 : A ≤ 9007199254740991 * S := by rw [hA]; exact Nat.mul_le_mul_right _ (by omega)
  have hA3 : M = 4503599627370496 → A = 4503599627370496 * S := fun h => by rw [hA, h]
  have h1 : dnN v j ≤ v := Nat.div_mul_le_self _ _
  have h2 : v < upN v j := by
    have := Nat.lt_div_mul_add (a := v) hp
    exact this
  have h3 : upN v j = dnN v j + t := by rw [ht]; rfl
  rcases Nat.lt_or_ge lo (dnN v j) with h4 | h4
  · left
    unfold insideN
    rw [decide_eq_true h4, decide_eq_true (by omega : dnN v j < hi)]
    rfl
  · rcases Nat.lt_or_ge (upN v j) hi with h5 | h5
    · right
      unfold insideN
      rw [decide_eq_true (by omega : lo < upN v j), decide_eq_true h5]
      rfl
    · exfalso
      rcases hlo with hlo | ⟨hlo, hm⟩
      · omega
      · have := hA3 hm
        omega
/-- A rung's place and significand. -/
theorem rung_form (r : Nat) : ∃ k, r = k * 4503599627370496 + rmag double r ∧ rplace double r = -1074 + (k : Int) ∧ (k = 0 ∨ 4503599627370496 ≤ rmag double r) ∧ rmag double r < 9007199254740992 := by
  have hlt : rmag double r < 9007199254740992 := rmag_lt double r
  by_cases h : r < 4503599627370496
  · refine ⟨0, ?_, ?_, .inl rfl, hlt⟩
    · unfold rmag; rw [d_binade, if_pos h]; omega
    · unfold rplace; rw [d_binade, if_pos h, d_least]; rfl
  · refine ⟨r / 4503599627370496 - 1, ?_, ?_, .inr ?_, hlt⟩
    · unfold rmag; rw [d_binade, if_neg h]; omega
    · unfold rplace; rw [d_binade, if_neg h, d_least]
    · unfold rmag; rw [d_binade, if_neg h]; omega
/-- What Shortest weighs: the unit, the lower middle, and the exponent of ten. -/
def sS (r : Nat) : Nat := if 0 ≤ rplace double r - 2 then 2 ^ (rplace double r - 2).toNat else 5 ^ (-(rplace double r - 2)).toNat
def sLow (r : Nat) : Nat := if rmag double r = 4503599627370496 ∧ -1074 < rplace double r then 4 * rmag double r - 1 else 4 * rmag double r - 2
def sX (r : Nat) : Int := min (rplace double r - 2) 0
theorem sS_pos (r : Nat) : 0 < sS r := by
  unfold sS
  split
  · exact Nat.two_pow_pos _
  · exact Nat.pow_pos (by decide)
theorem vN_mul (a : Nat) (x : Int) : vN a x = a * vN 1 x := by
  unfold vN
  obtain ⟨B, hB⟩ : ∃ B : Nat, (1074 : Nat) = B := ⟨_, rfl⟩
  rw [hB]
  split
  · rw [Nat.one_mul, Nat.mul_assoc]
  · rw [Nat.one_mul]
theorem vN_one_pos (x : Int) : 0 < vN 1 x := by
  unfold vN
  obtain ⟨B, hB⟩ : ∃ B : Nat, (1074 : Nat) = B := ⟨_, rfl⟩
  rw [hB]
  split
  · exact Nat.mul_pos (Nat.mul_pos (by decide) (pow10_pos _)) (Nat.two_pow_pos _)
  · exact Nat.mul_pos (by decide) (Nat.two_pow_pos _)
/-- Quarter units of a rung's place, in units of ten to the power of sX. -/
theorem quarter {r k : Nat} (hk : rplace double r = -1074 + (k : Int)) (y : Nat) : 4 * vN (y * sS r) (sX r) = y * 2 ^ k * vD (sX r) := by
  unfold sS sX vN vD
  obtain ⟨B, hB⟩ : ∃ B : Nat, (1074 : Nat) = B := ⟨_, rfl⟩
  rw [hB]
  by_cases h : 0 ≤ rplace double r - 2
  · rw [if_pos h, if_pos (by omega), if_pos (by omega), show min (rplace double r - 2) 0 = 0 by omega, show (0 : Int).toNat = 0 from rfl, Nat.pow_zero, Nat.mul_one, Nat.mul_one]
    obtain ⟨e, he⟩ : ∃ e, (rplace double r - 2).toNat = e := ⟨_, rfl⟩
    rw [he, show k = 2 + (e + B) by omega, Nat.pow_add, Nat.pow_add, show (2 : Nat) ^ 2 = 4 from rfl, Nat.mul_assoc, Nat.mul_left_comm 4]
  · rw [if_neg h, if_neg (by omega), if_neg (by omega), show min (rplace double r - 2) 0 = rplace double r - 2 by omega]
    obtain ⟨e, he⟩ : ∃ e, (-(rplace double r - 2)).toNat = e := ⟨_, rfl⟩
    have e1 : k + e = 2 + B := by omega
    have e2 : (10 : Nat) ^ e = 2 ^ e * 5 ^ e := by rw [← Nat.mul_pow]
    rw [he, e2, Nat.mul_assoc y (2 ^ k), ← Nat.mul_assoc (2 ^ k), ← Nat.pow_add, e1, Nat.pow_add, show (2 : Nat) ^ 2 = 4 from rfl]
    rw [Nat.mul_assoc y, Nat.mul_left_comm 4, Nat.mul_assoc 4, Nat.mul_comm (5 ^ e)]
theorem vals_of {r k : Nat} (h0 : 0 < r) (hr : r = k * 4503599627370496 + rmag double r) (hk : k = 0 ∨ 4503599627370496 ≤ rmag double r) (hp : rplace double r = -1074 + (k : Int)) (hlt : rmag double r < 9007199254740992) :
    2 * (val double (r - 1) + val double r) = sLow r * 2 ^ k ∧ 2 * (val double r + val double (r + 1)) = (4 * rmag double r + 2) * 2 ^ k := by
  have hM0 := rmag_pos (f := double) h0
  unfold sLow
  rw [hp]
  generalize hM : rmag double r = M at *
  have v0 := val_at (k := k) (q := M) hk (by omega)
  have v1 := val_at (k := k) (q := M + 1) (by omega) (by omega)
  rw [← hr] at v0
  rw [show k * 4503599627370496 + (M + 1) = r + 1 by omega] at v1
  constructor
  · by_cases hs : M = 4503599627370496 ∧ (-1074 : Int) < -1074 + (k : Int)
    · rw [if_pos hs]
      obtain ⟨i, hi⟩ : ∃ i, k = i + 1 := ⟨k - 1, by omega⟩
      subst hi
      have v2 := val_at (k := i) (q := 9007199254740991) (.inr (by omega)) (by omega)
      rw [show i * 4503599627370496 + 9007199254740991 = r - 1 by omega] at v2
      rw [v0, v2, hs.1, Nat.pow_succ]
      generalize 2 ^ i = z
      omega
    · rw [if_neg hs]
      have v2 := val_at (k := k) (q := M - 1) (by omega) (by omega)
      rw [show k * 4503599627370496 + (M - 1) = r - 1 by omega] at v2
      rw [v0, v2, ← Nat.add_mul, ← Nat.mul_assoc]
      congr 1
      omega
  · rw [v0, v1, ← Nat.add_mul, ← Nat.mul_assoc]
    congr 1
    omega
/-- A decimal between the middles lies nearest to the float. -/
theorem inside_near {r N : Nat} (h0 : 0 < r) (hr : r < 9218868437227405312) (h : insideN N (sLow r * sS r) ((4 * rmag double r + 2) * sS r) (rmag double r % 2 == 0) = true) : Near (vN N (sX r)) (vD (sX r)) r := by
  obtain ⟨k, hf, hp, hk, hlt⟩ := rung_form r
  obtain ⟨w1, w2⟩ := vals_of h0 hf hk hp hlt
  have q1 := quarter hp (sLow r)
  have q2 := quarter hp (4 * rmag double r + 2)
  rw [← w1] at q1
  rw [← w2] at q2
  have e1 : 2 * vN (sLow r * sS r) (sX r) = (val double (r - 1) + val double r) * vD (sX r) := by
    rw [Nat.mul_assoc] at q1
    omega
  have e2 : 2 * vN ((4 * rmag double r + 2) * sS r) (sX r) = (val double r + val double (r + 1)) * vD (sX r) := by
    rw [Nat.mul_assoc] at q2
    omega
  have hu := vN_one_pos (sX r)
  have lt : ∀ {a b : Nat}, a < b → vN a (sX r) < vN b (sX r) := fun {a b} h => by
    rw [vN_mul a, vN_mul b]
    exact Nat.mul_lt_mul_of_pos_right h hu
  have hpar : rmag double r % 2 = 0 → r % 2 = 0 := fun h => by omega
  unfold insideN at h
  rw [Bool.or_eq_true] at h
  refine ⟨Nat.le_of_lt hr, ?_⟩
  rw [← e1, ← e2]
  rcases h with h | h
  · rw [Bool.and_eq_true, decide_eq_true_eq, decide_eq_true_eq] at h
    have a := lt h.1
    have b := lt h.2
    exact ⟨.inr (.inl (by omega)), .inr (.inl (by omega))⟩
  · rw [Bool.and_eq_true, beq_iff_eq, Bool.or_eq_true, decide_eq_true_eq, decide_eq_true_eq] at h
    have hev := hpar h.1
    have hlh : sLow r * sS r < (4 * rmag double r + 2) * sS r := by
      refine Nat.mul_lt_mul_of_pos_right ?_ (sS_pos r)
      unfold sLow
      split <;> omega
    rcases h.2 with h | h
    · subst h
      have b := lt hlh
      exact ⟨.inr (.inr ⟨rfl, hev⟩), .inr (.inl (by omega))⟩
    · subst h
      have b := lt hlh
      exact ⟨.inr (.inl (by omega)), .inr (.inr ⟨rfl, hev⟩)⟩
end Go.Proofs.YtjapgpmoojfhnaaGreatDoor.Fl

namespace Go.Proofs.YtjapgpmoojfhnaaGreatDoor.Fl
open Go Go.Lib Ieee
open Go.Proofs.YtjapgpmoojfhnaaGreatDoor.Dc (Digs digB sgnB dec_ne)

/-- The digits of the value in Shortest's units. -/
def sV (r : Nat) : Nat := 4 * rmag double r * sS r
def sPick (r : Nat) : Nat := pickN (sV r) (sLow r * sS r) ((4 * rmag double r + 2) * sS r) (rmag double r % 2 == 0) ((decDigits (sV r)).length - 1)
structure Short (r c z : Nat) : Prop where
  fac : sPick r = c * 10 ^ z
  odd : c % 10 ≠ 0
theorem low_lt {r : Nat} (h0 : 0 < r) : sLow r * sS r < sV r ∧ sV r < (4 * rmag double r + 2) * sS r ∧ 0 < sLow r * sS r := by
  have hM0 := rmag_pos (f := double) h0
  have hS := sS_pos r
  unfold sV
  refine ⟨Nat.mul_lt_mul_of_pos_right ?_ hS, Nat.mul_lt_mul_of_pos_right (by omega) hS, Nat.mul_pos ?_ hS⟩
  · unfold sLow; split <;> omega
  · unfold sLow; split <;> omega
theorem sPick_in {r : Nat} (h0 : 0 < r) : insideN (sPick r) (sLow r * sS r) ((4 * rmag double r + 2) * sS r) (rmag double r % 2 == 0) = true := by
  obtain ⟨h1, h2, _⟩ := low_lt h0
  exact pick_in h1 h2 _
theorem sPick_pos {r : Nat} (h0 : 0 < r) : 0 < sPick r := by
  have h := sPick_in h0
  obtain ⟨h1, h2, h3⟩ := low_lt h0
  unfold insideN at h
  simp only [Bool.or_eq_true, Bool.and_eq_true, decide_eq_true_eq] at h
  omega
theorem short_ex {r : Nat} (h0 : 0 < r) : ∃ c z, Short r c z := by
  obtain ⟨c, z, h1, h2⟩ := strip_ex (sPick r) (sPick_pos h0)
  exact ⟨c, z, h1, h2⟩
theorem le_pow_lt {c n : Nat} (hc : c % 10 ≠ 0) (h : c ≤ 10 ^ (n + 1)) : c < 10 ^ (n + 1) := by
  rw [Nat.pow_succ] at h ⊢
  omega
theorem strip_small {c z q j n : Nat} (hc : c % 10 ≠ 0) (h : c * 10 ^ z = q * 10 ^ j) (hq : q ≤ 10 ^ (n + 1)) : c < 10 ^ (n + 1) := by
  refine le_pow_lt hc ?_
  rcases Nat.lt_or_ge z j with hlt | hge
  · exfalso
    obtain ⟨i, hi⟩ : ∃ i, j = z + (i + 1) := ⟨j - z - 1, by omega⟩
    rw [hi, Nat.pow_add, Nat.mul_comm (10 ^ z), ← Nat.mul_assoc] at h
    have := Nat.eq_of_mul_eq_mul_right (pow10_pos z) h
    rw [Nat.pow_succ, ← Nat.mul_assoc] at this
    omega
  · obtain ⟨i, hi⟩ : ∃ i, z = i + j := ⟨z - j, by omega⟩
    rw [hi, Nat.pow_add, ← Nat.mul_assoc] at h
    have := Nat.eq_of_mul_eq_mul_right (pow10_pos j) h
    have h2 : c * 1 ≤ c * 10 ^ i := Nat.mul_le_mul_left _ (pow10_pos i)
    omega
theorem Short.small {r c z : Nat} (h0 : 0 < r) (h : Short r c z) : c < 10 ^ 17 := by
  obtain ⟨l1, l2, l3⟩ := low_lt h0
  have hv0 : sV r ≠ 0 := by omega
  obtain ⟨n, d1, d2, d3⟩ := dec_bounds hv0
  have hle : sPick r ≤ 10 ^ (n + 1) := pick_le d3 _ (by omega)
  have hv := h.fac
  rcases Nat.lt_or_ge n 17 with hn | hn
  · have h2 : sPick r ≤ 10 ^ 17 := Nat.le_trans hle (Nat.pow_le_pow_right (by decide) (by omega))
    exact strip_small (z := z) (q := sPick r) (j := 0) (n := 16) h.odd (by rw [Nat.pow_zero, Nat.mul_one]; exact hv.symm) h2
  · obtain ⟨K, hK⟩ : ∃ K, n - 16 = K + 1 := ⟨n - 17, by omega⟩
    obtain ⟨k, hf, hp, hk, hlt⟩ := rung_form r
    have hin : insideN (dnN (sV r) (K + 1)) (sLow r * sS r) ((4 * rmag double r + 2) * sS r) (rmag double r % 2 == 0) = true ∨ insideN (upN (sV r) (K + 1)) (sLow r * sS r) ((4 * rmag double r + 2) * sS r) (rmag double r % 2 == 0) = true := by
      have hM0 := rmag_pos (f := double) h0
      refine inside17 (A := rmag double r * sS r) (M := rmag double r) (t := 10 ^ (K + 1)) (sS_pos r) rfl hlt (by unfold sV; rw [Nat.mul_assoc]) (by rw [Nat.add_mul, Nat.mul_assoc]) ?_ (K + 1) rfl ?_
      · unfold sLow
        split
        · rename_i hs
          right
          refine ⟨?_, hs.1⟩
          rw [← Nat.mul_assoc]
          have e : (4 * rmag double r - 1) * sS r + 1 * sS r = 4 * rmag double r * sS r := by rw [← Nat.add_mul]; congr 1; omega
          omega
        · left
          rw [← Nat.mul_assoc, ← Nat.add_mul]
          congr 1
          omega
      · have e : (10 : Nat) ^ (K + 1) * 10000000000000000 = 10 ^ n := by
          rw [show (10000000000000000 : Nat) = 10 ^ 16 by decide, ← Nat.pow_add]
          congr 1
          omega
        rw [e]
        exact d2
    have hdv := pick_mult hin ((decDigits (sV r)).length - 1) (by omega)
    obtain ⟨q, hq⟩ := hdv
    have hq' : sPick r = q * 10 ^ (K + 1) := by unfold sPick; rw [hq, Nat.mul_comm]
    have hq2 : q ≤ 10 ^ (16 + 1) := by
      have e : (10 : Nat) ^ (n + 1) = 10 ^ 17 * 10 ^ (K + 1) := by rw [← Nat.pow_add]; congr 1; omega
      rw [hq', e] at hle
      exact Nat.le_of_mul_le_mul_right hle (pow10_pos _)
    exact strip_small (n := 16) h.odd (by rw [← hv, hq']) hq2
theorem Short.pos {r c z : Nat} (h : Short r c z) : 0 < c := by
  have := h.odd
  omega
theorem Short.near {r c z : Nat} (h0 : 0 < r) (hr : r < 9218868437227405312) (h : Short r c z) : Near (vN c (sX r + z)) (vD (sX r + z)) r := by
  have h1 := inside_near h0 hr (sPick_in h0)
  rw [h.fac] at h1
  exact near_eq (vD_pos _) (vD_pos _) (v_cross c z (sX r)) h1
theorem val_inf : ∃ K B Z Y : Nat, K = 1024 ∧ B = 1074 ∧ Z = 309 ∧ Y = 324 ∧ val double 9218868437227405312 = 2 ^ K * 2 ^ B ∧ 2 ^ K < 10 ^ Z ∧ 2 ^ B < 10 ^ Y := by
  obtain ⟨K, hK⟩ : ∃ K, K = 1024 := ⟨_, rfl⟩
  obtain ⟨B, hB⟩ : ∃ B, B = 1074 := ⟨_, rfl⟩
  obtain ⟨Z, hZ⟩ : ∃ Z, Z = 309 := ⟨_, rfl⟩
  obtain ⟨Y, hY⟩ : ∃ Y, Y = 324 := ⟨_, rfl⟩
  obtain ⟨k, hk⟩ : ∃ k, k = 2046 := ⟨_, rfl⟩
  have := val_at (k := k) (q := 4503599627370496) (.inr (by decide)) (by decide)
  rw [show k * 4503599627370496 + 4503599627370496 = 9218868437227405312 by omega] at this
  have p1 := pow1024
  have p2 := pow1074
  rw [← hK, ← hZ] at p1
  rw [← hB, ← hY] at p2
  refine ⟨K, B, Z, Y, hK, hB, hZ, hY, ?_, p1, p2⟩
  rw [this]
  have e : (4503599627370496 : Nat) = 2 ^ 52 := by decide
  rw [e, ← Nat.pow_add, ← Nat.pow_add]
  have e2 : 52 + k = K + B := by omega
  rw [e2]
theorem near_range {r c : Nat} {E : Int} (h0 : 0 < r) (hr : r < 9218868437227405312) (hc0 : 0 < c) (hc : c < 10 ^ 17) (h : Near (vN c E) (vD E) r) : -345 ≤ E ∧ E ≤ 310 := by
  obtain ⟨_, lo, hi⟩ := h
  have hv1 : 1 ≤ val double r := by
    have := val_lt (f := double) h0
    omega
  have hlo : val double r * vD E ≤ 2 * vN c E := by
    have e : val double r * vD E ≤ (val double (r - 1) + val double r) * vD E := Nat.mul_le_mul_right _ (by omega)
    omega
  have hhi : 2 * vN c E ≤ (val double r + val double (r + 1)) * vD E := by omega
  obtain ⟨K, B, Z, Y, hK, hB, hZ, hY, hinf, p1, p2⟩ := val_inf
  have hmax : val double r + val double (r + 1) ≤ 2 * (2 ^ K * 2 ^ B) := by
    have a : val double r ≤ val double 9218868437227405312 := Nat.le_of_lt (val_lt (f := double) hr)
    have b : val double (r + 1) ≤ val double 9218868437227405312 := by
      rcases Nat.lt_or_ge (r + 1) 9218868437227405312 with h | h
      · exact Nat.le_of_lt (val_lt (f := double) h)
      · rw [show r + 1 = 9218868437227405312 by omega]; exact Nat.le_refl _
    rw [hinf] at a b
    omega
  unfold vN vD at hlo hhi
  rw [← hB] at hlo hhi
  by_cases hE : 0 ≤ E
  · rw [if_pos hE, if_pos hE, Nat.mul_one] at hhi
    obtain ⟨e, he⟩ : ∃ e, E.toNat = e := ⟨_, rfl⟩
    rw [he] at hhi
    refine ⟨by omega, ?_⟩
    have h1 : 10 ^ e * 2 ^ B ≤ 2 ^ K * 2 ^ B := by
      have a : 1 * (10 ^ e * 2 ^ B) ≤ c * (10 ^ e * 2 ^ B) := Nat.mul_le_mul_right _ hc0
      rw [← Nat.mul_assoc c] at a
      omega
    have h2 := Nat.le_of_mul_le_mul_right h1 (Nat.two_pow_pos B)
    have h3 := pow10_lt (Nat.lt_of_le_of_lt h2 p1)
    omega
  · rw [if_neg hE, if_neg hE] at hlo
    obtain ⟨e, he⟩ : ∃ e, (-E).toNat = e := ⟨_, rfl⟩
    rw [he] at hlo
    refine ⟨?_, by omega⟩
    have h1 : 10 ^ e ≤ 2 * (c * 2 ^ B) := by
      have a : 1 * 10 ^ e ≤ val double r * 10 ^ e := Nat.mul_le_mul_right _ hv1
      omega
    have h2 : c * 2 ^ B < 10 ^ 17 * 10 ^ Y := Nat.mul_lt_mul_of_lt_of_le hc (Nat.le_of_lt p2) (pow10_pos Y)
    rw [← Nat.pow_add] at h2
    have h3 : 10 ^ e < 10 ^ (17 + Y + 1) := by
      rw [Nat.pow_succ]
      omega
    have h4 := pow10_lt h3
    omega
theorem Short.range {r c z : Nat} (h0 : 0 < r) (hr : r < 9218868437227405312) (h : Short r c z) : -345 ≤ sX r + z ∧ sX r + z ≤ 310 := near_range h0 hr h.pos (h.small h0) (h.near h0 hr)
theorem Short.txt {r c z : Nat} (h0 : 0 < r) (hr : r < 9218868437227405312) (h : Short r c z) (g : Bool) : DecTxt ⟨(expB g c (sX r + z)).toArray⟩ g (digL c).reverse (sX r + z) ∧ (digL c).reverse.length ≤ 17 := by
  have hc : c ≠ 0 := by have := h.pos; omega
  obtain ⟨n, h1, h2, h3⟩ := dec_bounds hc
  have hn := pow10_lt (Nat.lt_of_le_of_lt h2 (h.small h0))
  obtain ⟨r1, r2⟩ := h.range h0 hr
  have hl : (digL c).reverse.length ≤ 17 := by rw [List.length_reverse, ← dec_length hc]; omega
  refine ⟨⟨?_, digL_digs hc, ?_, ?_, by omega, by omega, by omega⟩, hl⟩
  · show expB g c (sX r + z) = _
    unfold expB
    rw [dec_is hc]; rfl
  · intro x hx
    obtain ⟨y, l, h4, h5⟩ := digL_head hc
    rw [h4] at hx
    simp at hx
    omega
  · intro he
    obtain ⟨y, l, h4, h5⟩ := digL_head hc
    rw [h4] at he
    cases he
end Go.Proofs.YtjapgpmoojfhnaaGreatDoor.Fl

namespace Go.Proofs.YtjapgpmoojfhnaaGreatDoor.Fl
open Go Go.Lib
open Go.Proofs.YtjapgpmoojfhnaaGreatDoor.Dc (Digs digB sgnB dec_ne)

/-- The sign of a comparison. -/
def sg (a b : Nat) : Int := if a < b then -1 else if b < a then 1 else 0
theorem byte_lt {x y : Nat} (hx : x < 10) (hy : y < 10) : (UInt8.ofNat (48 + x) < UInt8.ofNat (48 + y)) ↔ x < y := by
  rw [UInt8.lt_iff_toNat_lt, Dc.dig_toNat hx, Dc.dig_toNat hy]
  omega
theorem cmp_digs : ∀ {l m : List Nat}, l.length = m.length → Digs l → Digs m → compareBytes (digB8 l) (digB8 m) = sg (num l) (num m)
  | [], [], _, _, _ => rfl
  | [], _ :: _, h, _, _ => by simp at h
  | _ :: _, [], h, _, _ => by simp at h
  | x :: l, y :: m, h, hl, hm => by
    have hlen : l.length = m.length := by simpa using h
    have hx : x < 10 := hl x (by simp)
    have hy : y < 10 := hm y (by simp)
    have hl' : Digs l := fun u hu => hl u (by simp [hu])
    have hm' : Digs m := fun u hu => hm u (by simp [hu])
    have ih := cmp_digs hlen hl' hm'
    have n1 := num_lt hl'
    have n2 := num_lt hm'
    show (if UInt8.ofNat (48 + x) < UInt8.ofNat (48 + y) then (-1 : Int) else if UInt8.ofNat (48 + y) < UInt8.ofNat (48 + x) then 1 else compareBytes (digB8 l) (digB8 m)) = _
    rw [ih, num_cons, num_cons, hlen]
    rw [hlen] at n1
    obtain ⟨p, hp⟩ : ∃ p, 10 ^ m.length = p := ⟨_, rfl⟩
    rw [hp] at n1 n2 ⊢
    by_cases h1 : x < y
    · rw [if_pos ((byte_lt hx hy).2 h1)]
      have : (x + 1) * p ≤ y * p := Nat.mul_le_mul_right _ h1
      rw [Nat.add_mul] at this
      unfold sg
      rw [if_pos (by omega)]
    · rw [if_neg (fun h => h1 ((byte_lt hx hy).1 h))]
      by_cases h2 : y < x
      · rw [if_pos ((byte_lt hy hx).2 h2)]
        have : (y + 1) * p ≤ x * p := Nat.mul_le_mul_right _ h2
        rw [Nat.add_mul] at this
        unfold sg
        rw [if_neg (by omega), if_pos (by omega)]
      · rw [if_neg (fun h => h2 ((byte_lt hy hx).1 h))]
        obtain rfl : x = y := by omega
        have e1 : (x * p + num l < x * p + num m) = (num l < num m) := propext (by omega)
        have e2 : (x * p + num m < x * p + num l) = (num m < num l) := propext (by omega)
        unfold sg
        simp only [e1, e2]
/-- The last j digits of a number. -/
def fixB (j u : Nat) : List UInt8 := digB8 (fixL j u).reverse
theorem num_fix : ∀ j u, num (fixL j u).reverse = u % 10 ^ j
  | 0, u => by simp [fixL, num, Nat.mod_one]
  | j + 1, u => by
    rw [fixL, List.reverse_cons, num_snoc, num_fix j (u / 10), Nat.pow_succ, Nat.mul_comm (10 ^ j), Nat.mod_mul]
    omega
theorem fix_digs : ∀ j u, Digs (fixL j u).reverse
  | 0, u => by simp [fixL, Digs]
  | j + 1, u => by
    intro x hx
    rw [fixL, List.reverse_cons, List.mem_append] at hx
    rcases hx with hx | hx
    · exact fix_digs j (u / 10) x hx
    · simp at hx; omega
theorem fixB_len (j u : Nat) : (fixB j u).length = j := by simp [fixB, digB8, fix_len]
theorem cmp_fix (j u v : Nat) : compareBytes (fixB j u) (fixB j v) = sg (u % 10 ^ j) (v % 10 ^ j) := by
  unfold fixB
  rw [cmp_digs (by rw [List.length_reverse, List.length_reverse, fix_len, fix_len]) (fix_digs j u) (fix_digs j v), num_fix, num_fix]
theorem fix_five : ∀ k, fixB (k + 1) (5 * 10 ^ k) = 53 :: List.replicate k 48
  | 0 => by kernel_rfl
  | k + 1 => by
    have e : 5 * 10 ^ (k + 1) = 10 * (5 * 10 ^ k) := by rw [Nat.pow_succ, Nat.mul_comm (10 ^ k), Nat.mul_left_comm]
    unfold fixB
    rw [fixL, e, Nat.mul_mod_right, Nat.mul_div_cancel_left _ (by decide), List.reverse_cons]
    have ih := fix_five k
    unfold fixB at ih
    unfold digB8 at ih ⊢
    rw [List.map_append, ih, List.replicate_succ']
    rfl
/-- The number, cut. -/
theorem dec_cut {v n j : Nat} (hv : v ≠ 0) (hl : (decDigits v).length = n + j) (hn : 0 < n) : decDigits v = decDigits (v / 10 ^ j) ++ fixB j v ∧ (decDigits (v / 10 ^ j)).length = n ∧ v / 10 ^ j ≠ 0 := by
  obtain ⟨m, h1, h2, h3⟩ := dec_bounds hv
  have hp : 10 ^ j ≤ v := Nat.le_trans (Nat.pow_le_pow_right (by decide) (by omega)) h2
  have e := dec_split j v hp
  refine ⟨e, ?_, ?_⟩
  · have := congrArg List.length e
    rw [hl, List.length_append] at this
    have h4 := fixB_len j v
    unfold fixB at h4
    omega
  · have : 1 ≤ v / 10 ^ j := (Nat.le_div_iff_mul_le (pow10_pos j)).2 (by omega)
    omega
/-- The order of digits is the order of numbers. -/
theorem ord_dec {x y : Nat} (hx : x ≠ 0) (hy : y ≠ 0) : ∃ o : Int, (if (decDigits x).length = (decDigits y).length then compareBytes (decDigits x) (decDigits y) else ((decDigits x).length : Int) - ((decDigits y).length : Int)) = o ∧ (0 < o ↔ y < x) ∧ (o < 0 ↔ x < y) := by
  by_cases h : (decDigits x).length = (decDigits y).length
  · rw [if_pos h]
    refine ⟨sg x y, ?_, ?_⟩
    · rw [dec_is hx, dec_is hy, cmp_digs (by rw [List.length_reverse, List.length_reverse, ← dec_length hx, ← dec_length hy]; exact h) (digL_digs hx) (digL_digs hy), num_digL, num_digL]
    · unfold sg
      split
      · omega
      · split <;> omega
  · rw [if_neg h]
    refine ⟨_, rfl, ?_⟩
    obtain ⟨n, a1, a2, a3⟩ := dec_bounds hx
    obtain ⟨m, b1, b2, b3⟩ := dec_bounds hy
    rcases Nat.lt_or_ge n m with hlt | hge
    · have : (10 : Nat) ^ (n + 1) ≤ 10 ^ m := Nat.pow_le_pow_right (by decide) hlt
      omega
    · have : (10 : Nat) ^ (m + 1) ≤ 10 ^ n := Nat.pow_le_pow_right (by decide) (by omega)
      omega
theorem dec_ten {a : Nat} (h : 10 ≤ a) : decDigits a = decDigits (a / 10) ++ [UInt8.ofNat (48 + a % 10)] := by
  rw [decDigits, dif_neg (by omega)]
theorem trim_snoc (l : List UInt8) (c : UInt8) : trimRightB (l ++ [c]) c = trimRightB l c := by
  unfold trimRightB
  rw [List.reverse_append]
  simp
theorem trim_stop (l : List UInt8) {x c : UInt8} (h : x ≠ c) : trimRightB (l ++ [x]) c = l ++ [x] := by
  unfold trimRightB
  rw [List.reverse_append]
  have : (x == c) = false := by simpa using h
  simp [this]
/-- A number without its trailing nines. -/
theorem nines (a : Nat) (h0 : a ≠ 0) : ∃ b k, a + 1 = (b + 1) * 10 ^ k ∧ b % 10 ≠ 9 ∧ trimRightB (decDigits a) 57 = (if b = 0 then [] else decDigits b) ∧ (decDigits a).length = (if b = 0 then [] else decDigits b).length + k := by
  induction a using Nat.strongRecOn with
  | _ a ih =>
    by_cases h9 : a % 10 = 9
    · by_cases h1 : a < 10
      · obtain rfl : a = 9 := by omega
        exact ⟨0, 1, by decide, by decide, by kernel_rfl, by kernel_rfl⟩
      · obtain ⟨b, k, e1, e2, e3, e4⟩ := ih (a / 10) (by omega) (by omega)
        have ed := dec_ten (a := a) (by omega)
        rw [h9] at ed
        refine ⟨b, k + 1, ?_, e2, ?_, ?_⟩
        · rw [Nat.pow_succ, ← Nat.mul_assoc, ← e1]
          omega
        · rw [ed]
          have := trim_snoc (decDigits (a / 10)) 57
          rw [show UInt8.ofNat (48 + 9) = 57 from rfl, this, e3]
        · rw [ed, List.length_append, e4]
          simp <;> omega
    · refine ⟨a, 0, by simp, h9, ?_, ?_⟩
      · rw [if_neg h0]
        obtain ⟨l, hl⟩ := dec_last a
        rw [hl]
        refine trim_stop _ ?_
        intro he
        have := congrArg UInt8.toNat he
        rw [Dc.dig_toNat (by omega)] at this
        have : (57 : UInt8).toNat = 57 := rfl
        omega
      · rw [if_neg h0, Nat.add_zero]
theorem dec_next {b : Nat} (h : b % 10 ≠ 9) (h0 : b ≠ 0) : ∃ l, decDigits b = l ++ [UInt8.ofNat (48 + b % 10)] ∧ decDigits (b + 1) = l ++ [UInt8.ofNat (48 + b % 10 + 1)] := by
  by_cases h1 : b < 10
  · refine ⟨[], ?_, ?_⟩
    · rw [decDigits, dif_pos h1, Nat.mod_eq_of_lt h1]; rfl
    · rw [decDigits, dif_pos (by omega), Nat.mod_eq_of_lt h1]; rfl
  · refine ⟨decDigits (b / 10), dec_ten (by omega), ?_⟩
    rw [dec_ten (by omega), show (b + 1) / 10 = b / 10 by omega, show (b + 1) % 10 = b % 10 + 1 by omega]
    rfl
end Go.Proofs.YtjapgpmoojfhnaaGreatDoor.Fl

namespace Go.Proofs.YtjapgpmoojfhnaaGreatDoor
open Go.RowKit Go.Lib

theorem zeros_of (k : Nat) (W : World) (hk : k ≤ 5000) : Calls Tryz.prog 76 #[.string ⟨#[48]⟩, .int .i64 (k : Int)] W fun z w' => z = .returned (.string ⟨(List.replicate k (48 : UInt8)).toArray⟩) ∧ Below W.heap.size W w' := by
  have h := Tryz.strings_Repeat ⟨#[48]⟩ k W (by omega) (by show 1 * k ≤ _; omega)
  rw [show (⟨#[48]⟩ : ByteArray).data.toList = [48] from rfl, Fl.repeat_one] at h
  exact h
set_option maxHeartbeats 1000000 in
set_option maxRecDepth 100000 in
theorem next_nil (S : ByteArray) (k : Nat) (hS : (⟨(Lib.trimRightB S.data.toList 57).toArray⟩ : ByteArray) = ⟨#[]⟩) (hs : S.size = k) (hk : k ≤ 5000) (w : World) :
    Calls Tryz.prog 77 #[.string S] w fun x w' => x = .returned (.string (⟨#[49]⟩ ++ ⟨(List.replicate k (48 : UInt8)).toArray⟩)) ∧ Below w.heap.size w w' := by
  have TR : ∀ W, Calls Tryz.prog 124 #[.string S, .string ⟨#[57]⟩] W fun z w' => z = .returned (.string ⟨#[]⟩) ∧ w' = W := fun W => by
    have h := Tryz.strings_TrimRight_one S 57 (by decide) W (by omega)
    rw [hS] at h
    exact h
  have RP := fun W => zeros_of k W hk
  obtain ⟨Z, hZ⟩ : ∃ Z : ByteArray, (⟨(List.replicate k (48 : UInt8)).toArray⟩ : ByteArray) = Z := ⟨_, rfl⟩
  have hZs : Z.size = k := by rw [← hZ, str_size]; simp
  rw [hZ] at RP ⊢
  have w0 : IntKind.i64.wrap (k : Int) = (k : Int) := IntWalk.i64_in _ (by omega)
  have a1 := fun W => run_string_add_sum (P := Tryz.prog) (w := W) ⟨#[49]⟩ Z (by show 1 + Z.size ≤ _; omega)
  have TR := Lib.hid TR
  have RP := Lib.hid RP
  clear hS hZ hk hZs
  go_enter Tryz.func77, Tryz.ntmps77
  go_wp2_with fail
  refine (TR.out _).mono ?_
  rintro x w1 ⟨rfl, rfl⟩
  go_wp2_with fail
  refine (RP.out _).mono ?_
  rintro x w2 ⟨rfl, hb2⟩
  go_wp2_with fail
  go_ret
  exact ⟨rfl, hb2⟩
set_option maxHeartbeats 1000000 in
set_option maxRecDepth 100000 in
theorem next_some (S T P : ByteArray) (k p x y : Nat) (hS : (⟨(Lib.trimRightB S.data.toList 57).toArray⟩ : ByteArray) = T) (hT : T.size = p + 1) (hs : S.size = p + 1 + k) (hk : p + k ≤ 5000) (hx : ∀ h : p < T.size, (T[p]'h).toNat = x) (hy : x + 1 = y) (hy2 : y < 256) (hP : T.extract 0 p = P) (hPs : P.size = p) (hem : T.toList.isEmpty = false) (w : World) :
    Calls Tryz.prog 77 #[.string S] w fun z w' => z = .returned (.string (P ++ ⟨#[UInt8.ofNat y]⟩ ++ ⟨(List.replicate k (48 : UInt8)).toArray⟩)) ∧ Below w.heap.size w w' := by
  have TR : ∀ W, Calls Tryz.prog 124 #[.string S, .string ⟨#[57]⟩] W fun z w' => z = .returned (.string T) ∧ w' = W := fun W => by
    have h := Tryz.strings_TrimRight_one S 57 (by decide) W (by omega)
    rw [hS] at h
    exact h
  have RP := fun W => zeros_of k W (by omega)
  have cvG : ∀ W W' : World, W'.heap = (W.alloc (.cells #[.int .u8 (y : Int)] 5)).heap → (convert 31 9 (.slice (some ⟨W.heap.size, 0, none⟩) 1 1)).run Tryz.prog W' = .ok (.string ⟨#[UInt8.ofNat y]⟩) W' := fun W W' hW => by
    have hr : Reads W' (W.heap.size + 1) (some ⟨W.heap.size, 0, none⟩) 1 (u8s [y]) := by
      have h := Reads.of_block (cs := u8s [y]) (show W'.heap[W.heap.size]? = some (.cells (u8s [y]).toArray 5 (0, 0)) by rw [hW]; exact heap_alloc_new W _)
      have e : W'.heap.size = W.heap.size + 1 := by rw [hW]; simp
      rw [e] at h
      exact h
    exact conv_bytes hr (fun h => by omega)
  have cv := fun W : World => cvG W (W.drew.alloc (.cells #[.int .u8 (y : Int)] 5)) rfl
  have cv2 := fun W : World => cvG W (W.alloc (.cells #[.int .u8 (y : Int)] 5)).drew rfl
  have cv3 := fun W : World => cvG W (W.alloc (.cells #[.int .u8 (y : Int)] 5)) rfl
  clear cvG
  obtain ⟨Z, hZ⟩ : ∃ Z : ByteArray, (⟨(List.replicate k (48 : UInt8)).toArray⟩ : ByteArray) = Z := ⟨_, rfl⟩
  obtain ⟨Y, hY⟩ : ∃ Y : ByteArray, (⟨#[UInt8.ofNat y]⟩ : ByteArray) = Y := ⟨_, rfl⟩
  have hZs : Z.size = k := by rw [← hZ, str_size]; simp
  have hYs : Y.size = 1 := by rw [← hY]; rfl
  rw [hZ] at RP ⊢
  rw [hY] at cv cv2 cv3 ⊢
  have hpT : p < T.size := by omega
  have hx1 := hx hpT
  have hpi : (p : Int) < (T.size : Int) := by omega
  have hp0 : (0 : Int) ≤ (p : Int) := by omega
  have g0 : IntKind.i64.wrap ((S.size : Int) - (T.size : Int)) = (k : Int) := by have := IntWalk.i64_in ((S.size : Int) - (T.size : Int)) (by omega); rw [this]; omega
  have g1 : IntKind.i64.wrap ((T.size : Int) - 1) = (p : Int) := by have := IntWalk.i64_in ((T.size : Int) - 1) (by omega); rw [this]; omega
  have g2 : IntKind.u8.wrap ((x : Int) + 1) = (y : Int) := by rw [IntKind.wrap_u8]; omega
  have a1 := fun W => run_string_add_sum (P := Tryz.prog) (w := W) P Y (by omega)
  have a2 := fun W => run_string_add_sum (P := Tryz.prog) (w := W) (P ++ Y) Z (by rw [ByteArray.size_append]; omega)
  have hple : p ≤ T.size := by omega
  have hpli : (p : Int) ≤ (T.size : Int) := by omega
  have TR := Lib.hid TR
  have RP := Lib.hid RP
  clear hS hZ hk hZs hYs hY hx hs hPs hT hy hy2
  go_enter Tryz.func77, Tryz.ntmps77
  go_wp2_with fail
  refine (TR.out _).mono ?_
  rintro e1 w1 ⟨rfl, rfl⟩
  go_wp2_with fail
  refine (RP.out _).mono ?_
  rintro e2 w2 ⟨rfl, hb2⟩
  go_wp2_with fail
  go_region
  go_wp2_with fail
  go_ret
  exact ⟨rfl, hb2.trans ((((Below.refl _ _).alloc (Nat.le_refl _) _).drew).mono hb2.size)⟩
end Go.Proofs.YtjapgpmoojfhnaaGreatDoor

namespace Go.Proofs.YtjapgpmoojfhnaaGreatDoor
open Go.RowKit Go.Lib

theorem next_any (a : Nat) (ha : a ≠ 0) (hl : (decDigits a).length ≤ 5000) (w : World) :
    Calls Tryz.prog 77 #[.string ⟨(decDigits a).toArray⟩] w fun x w' => x = .returned (.string ⟨(decDigits (a + 1)).toArray⟩) ∧ Below w.heap.size w w' := by
  obtain ⟨b, k, e1, e2, e3, e4⟩ := Fl.nines a ha
  have hS : (⟨(decDigits a).toArray⟩ : ByteArray).data.toList = decDigits a := rfl
  have hz := Fl.dec_zeros (c := b + 1) (by omega) k
  rw [e1, hz]
  by_cases hb : b = 0
  · subst hb
    rw [if_pos rfl] at e3 e4
    have h := next_nil ⟨(decDigits a).toArray⟩ k (by rw [hS, e3]) (by rw [str_size, e4]; simp) (by rw [e4] at hl; simpa using hl) w
    rw [show (⟨#[49]⟩ : ByteArray) = ⟨([49] : List UInt8).toArray⟩ from rfl, str_append] at h
    rw [show decDigits (0 + 1) = [49] by kernel_rfl]
    exact h
  · rw [if_neg hb] at e3 e4
    obtain ⟨l, d1, d2⟩ := Fl.dec_next e2 hb
    have hlen : (decDigits b).length = l.length + 1 := by rw [d1]; simp
    have hT : (⟨(decDigits b).toArray⟩ : ByteArray).size = l.length + 1 := by rw [str_size, hlen]
    have h := next_some ⟨(decDigits a).toArray⟩ ⟨(decDigits b).toArray⟩ ⟨l.toArray⟩ k l.length (48 + b % 10) (48 + b % 10 + 1) (by rw [hS, e3]) hT (by rw [str_size, e4, hlen]) (by rw [e4, hlen] at hl; omega)
      (fun h => by
        have e : (⟨(decDigits b).toArray⟩ : ByteArray)[l.length] = UInt8.ofNat (48 + b % 10) := by
          show (decDigits b).toArray[l.length] = _
          simp [d1]
        rw [e, Dc.dig_toNat (by omega)]) rfl (by omega)
      (by
        apply ByteArray.ext
        apply Array.toList_inj.1
        rw [data_to]
        show (decDigits b).take l.length = l
        rw [d1]
        simp) (str_size l)
      (by
        rw [Lib.toList_data]
        show (decDigits b).isEmpty = false
        rw [d1]
        simp) w
    rw [show (⟨#[UInt8.ofNat (48 + b % 10 + 1)]⟩ : ByteArray) = ⟨([UInt8.ofNat (48 + b % 10 + 1)] : List UInt8).toArray⟩ from rfl, str_append, str_append, ← d2] at h
    exact h
/-- The order of digits, by its sign. -/
theorem ordB_dec {x y : Nat} (hx : x ≠ 0) (hy : y ≠ 0) : (0 < ordB ⟨(decDigits x).toArray⟩ ⟨(decDigits y).toArray⟩ ↔ y < x) ∧ (ordB ⟨(decDigits x).toArray⟩ ⟨(decDigits y).toArray⟩ < 0 ↔ x < y) := by
  obtain ⟨o, h1, h2, h3⟩ := Fl.ord_dec hx hy
  have e : ordB ⟨(decDigits x).toArray⟩ ⟨(decDigits y).toArray⟩ = o := by
    unfold ordB
    rw [str_size, str_size]
    exact h1
  rw [e]
  exact ⟨h2, h3⟩
theorem insideP_dec {c lo hi : Nat} (hc : c ≠ 0) (hlo : lo ≠ 0) (hhi : hi ≠ 0) (even : Bool) : Fl.insideP (ordB ⟨(decDigits c).toArray⟩ ⟨(decDigits lo).toArray⟩) (ordB ⟨(decDigits c).toArray⟩ ⟨(decDigits hi).toArray⟩) even = Fl.insideN c lo hi even := by
  obtain ⟨a1, a2⟩ := ordB_dec hc hlo
  obtain ⟨b1, b2⟩ := ordB_dec hc hhi
  generalize ordB ⟨(decDigits c).toArray⟩ ⟨(decDigits lo).toArray⟩ = x at *
  generalize ordB ⟨(decDigits c).toArray⟩ ⟨(decDigits hi).toArray⟩ = y at *
  have e1 : decide (0 < x) = decide (lo < c) := decide_eq_decide.2 a1
  have e2 : decide (y < 0) = decide (c < hi) := decide_eq_decide.2 b2
  have e3 : (x == 0) = decide (c = lo) := by
    by_cases h : c = lo
    · rw [decide_eq_true h, beq_iff_eq]; omega
    · rw [decide_eq_false h, beq_eq_false_iff_ne]; omega
  have e4 : (y == 0) = decide (c = hi) := by
    by_cases h : c = hi
    · rw [decide_eq_true h, beq_iff_eq]; omega
    · rw [decide_eq_false h, beq_eq_false_iff_ne]; omega
  unfold Fl.insideP Fl.insideN
  rw [e1, e2, e3, e4]
end Go.Proofs.YtjapgpmoojfhnaaGreatDoor

namespace Go.Proofs.YtjapgpmoojfhnaaGreatDoor
open Go.RowKit Go.Lib

set_option maxHeartbeats 1000000 in
set_option maxRecDepth 100000 in
theorem cmp88_ri (A B : Option Addr) (n m c d u v : Nat) (w : World) (hr : Reads w w.heap.size A n (u8s (Fl.digL u))) (h2 : Reads w w.heap.size B m (u8s (Fl.digL v))) (hn : n ≤ 2000) (hm : m ≤ 2000) :
    Calls Tryz.prog 88 #[.agg #[.bool false, .slice A n c], .agg #[.bool false, .slice B m d]] w fun x w' => x = .returned (.int .i64 (cmpN u v)) ∧ Below w.heap.size w w' := by
  have SZ : ∀ W, Below w.heap.size w W → Calls Tryz.prog 128 #[.slice A n c, .slice B m d] W fun x w' => x = .returned (.int .i64 (cmpN u v)) ∧ Below W.heap.size W w' := fun W hW => by
    have h := size_any A B n m c d (Fl.digL u) (Fl.digL v) W (hr.on hW) (h2.on hW) (by omega) (by omega) (digL_le9 u) (digL_le9 v) (digL_noLead u) (digL_noLead v)
    rw [dv_digL, dv_digL] at h
    exact h
  obtain ⟨q1, q2, q3, q4⟩ := two_blocks w (.cells #[.bool false, .slice A n c] 33) (.cells #[.bool false, .slice B m d] 33)
  obtain ⟨w2, hw2⟩ : ∃ w2, (w.alloc (.cells #[.bool false, .slice A n c] 33)).alloc (.cells #[.bool false, .slice B m d] 33) = w2 := ⟨_, rfl⟩
  obtain ⟨X, hX⟩ : ∃ X, w.heap.size = X := ⟨_, rfl⟩
  rw [hw2] at q1 q2 q3 q4
  have S2 := Lib.hid (SZ w2 q3)
  rw [hX] at q1 q2
  have x0 := at_block q1 0 _ rfl
  have x1 := at_block q1 1 _ rfl
  have y0 := at_block q2 0 _ rfl
  have y1 := at_block q2 1 _ rfl
  have HW := Lib.hid (And.intro hw2 (And.intro hX q3))
  clear hr h2 SZ q1 q2 q3 q4 hw2 hX hn hm
  go_enter Tryz.func88, Tryz.ntmps88
  go_upto_region 1 with fail
  rw [HW.out.1, HW.out.2.1]
  go_wp2_with fail
  refine (S2.out).mono ?_
  rintro y w3 ⟨rfl, hb3⟩
  go_wp2_with fail
  go_ret
  exact ⟨rfl, b_trans HW.out.2.2 hb3⟩
set_option maxHeartbeats 1000000 in
set_option maxRecDepth 100000 in
theorem digits91 (A : Option Addr) (n c u : Nat) (hu : u ≠ 0) (hn : n ≤ 2000) (w : World) (hr : Reads w w.heap.size A n (u8s (Fl.digL u))) :
    Calls Tryz.prog 91 #[.agg #[.bool false, .slice A n c]] w fun x w' => x = .returned (.string ⟨(decDigits u).toArray⟩) ∧ Below w.heap.size w w' := by
  have hX1 := heap_alloc_new w (.cells #[.bool false, .slice A n c] 33)
  have hb1 : Below w.heap.size w (w.alloc (.cells #[.bool false, .slice A n c] 33)) := (Below.refl _ _).alloc (Nat.le_refl _) _
  obtain ⟨w2, hw2⟩ : ∃ w2, w.alloc (.cells #[.bool false, .slice A n c] 33) = w2 := ⟨_, rfl⟩
  obtain ⟨X, hX⟩ : ∃ X, w.heap.size = X := ⟨_, rfl⟩
  rw [hw2] at hX1 hb1
  rw [hX] at hX1
  have DT := Lib.hid (digits_text A n c u hu (by omega) w2 (hr.on hb1))
  have x1 := at_block hX1 1 _ rfl
  have HW := Lib.hid (And.intro hw2 (And.intro hX hb1))
  clear hr hu hn hX1 hb1 hw2 hX
  go_enter Tryz.func91, Tryz.ntmps91
  go_upto_region 1 with fail
  rw [HW.out.1, HW.out.2.1]
  go_wp2_with fail
  refine (DT.out).mono ?_
  rintro y w3 ⟨rfl, hb3⟩
  go_wp2_with fail
  go_ret
  exact ⟨rfl, b_trans HW.out.2.2 hb3⟩
end Go.Proofs.YtjapgpmoojfhnaaGreatDoor
