/- Canonical texts of floats, read. -/
import Derived.Test.YtjapgpmoojfhnaaGreatDoorWalkF
import Derived.Lib.ParseIntBCases
import Derived.Lib.BitFns
import Derived.Lib.IndexMore
namespace Go.Proofs.YtjapgpmoojfhnaaGreatDoor.Fl
open Go Go.Lib

theorem bitLen_log2 (m : Nat) (h0 : m ≠ 0) (h : m < 18446744073709551616) : Lib.bitLen m = m.log2 + 1 := by
  induction m using Nat.strongRecOn with
  | _ m ih =>
    rw [Lib.bitLen_half m h0 h]
    by_cases h2 : m = 1
    · subst h2; decide
    · have e : m.log2 = (m / 2).log2 + 1 := by
        rw [Nat.log2_def m, if_pos (by omega)]
      rw [ih (m / 2) (by omega) (by omega) (by omega), e]
      omega
/-- The odd part of a rung's significand, and its exponent. -/
def om (r : Nat) : Nat := rmag Ieee.double r / 2 ^ tzN (rmag Ieee.double r)
def oe (r : Nat) : Int := rplace Ieee.double r + (tzN (rmag Ieee.double r) : Nat)
theorem om_spec {r : Nat} (h0 : 0 < r) : rmag Ieee.double r = om r * 2 ^ tzN (rmag Ieee.double r) ∧ om r % 2 = 1 ∧ 0 < om r ∧ om r < 9007199254740992 := by
  have hM0 : 0 < rmag Ieee.double r := rmag_pos h0
  have hM2 : rmag Ieee.double r < 9007199254740992 := rmag_lt Ieee.double r
  obtain ⟨k, h1, h2⟩ := tz_spec hM0 (by omega)
  have e : om r = 2 * k + 1 := by
    unfold om
    generalize tzN (rmag Ieee.double r) = z at *
    rw [h1]
    exact Nat.mul_div_cancel_left _ (Nat.two_pow_pos _)
  refine ⟨by rw [e, Nat.mul_comm]; exact h1, by omega, by omega, ?_⟩
  have := Nat.div_le_self (rmag Ieee.double r) (2 ^ tzN (rmag Ieee.double r))
  unfold om
  omega
theorem om_same {r : Nat} (h0 : 0 < r) : Same (om r) (oe r) (rmag Ieee.double r) (rplace Ieee.double r) := Or.inr ⟨tzN (rmag Ieee.double r), (om_spec h0).1, rfl⟩
theorem om_bounds {r : Nat} (h0 : 0 < r) (hr : r < 9218868437227405312) : (om r).log2 ≤ 52 ∧ -1074 ≤ oe r ∧ oe r ≤ 1023 ∧ oe r + ((om r).log2 + 1 : Nat) ≤ 1024 := by
  obtain ⟨_, _, h3, h4⟩ := om_spec h0
  have a := same_place h3 h0 (om_same h0)
  obtain ⟨b1, b2, _⟩ := rung_bounds h0 hr
  have hl : (om r).log2 < 53 := (Nat.log2_lt (by omega)).2 h4
  have hp : -1074 ≤ oe r := by
    have := place_ge Ieee.double r
    rw [d_least] at this
    unfold oe
    omega
  generalize ((rmag Ieee.double r).log2 : Int) = x at a b1 b2
  generalize rplace Ieee.double r = y at a b1 b2
  omega
theorem numB_is (r : Nat) : numB r = decDigits (om r) ++ 112 :: itoa (oe r) := rfl
theorem dec_ne_nil (u : Nat) : decDigits u ≠ [] := Dc.dec_ne u
theorem uint_dec {u : Nat} (h : u < 9007199254740992) : parseUintB 64 (decDigits u) = .ok u := by
  rw [parseUintB_64]
  unfold parseMag
  have h1 := Dc.parse_dec u (by omega)
  have h2 := dec_ne_nil u
  cases hd : decDigits u with
  | nil => exact absurd hd h2
  | cons c l => rw [hd] at h1; exact h1
theorem index_one : ∀ {l : List UInt8} {c : UInt8} {r : List UInt8}, (∀ b ∈ l, b ≠ c) → index (l ++ c :: r) [c] = (l.length : Int)
  | [], c, r, _ => by
    rw [List.nil_append, index]
    simp
  | b :: l, c, r, h => by
    have ih := index_one (l := l) (c := c) (r := r) (fun x hx => h x (by simp [hx]))
    have hb : b ≠ c := h b (by simp)
    rw [List.cons_append, index, ih]
    have e : ([c].isPrefixOf (b :: (l ++ c :: r))) = false := by
      simp [List.isPrefixOf]
      exact fun he => hb he.symm
    rw [e]
    simp
theorem cut_num (r : Nat) : cut (numB r) [112] = (decDigits (om r), itoa (oe r), true) := by
  have hb : ∀ b ∈ decDigits (om r), b ≠ (112 : UInt8) := fun b hb he => by
    have := Dc.dec_mem (om r) b hb
    rw [he] at this
    exact absurd this.2 (by decide)
  unfold cut
  rw [numB_is, index_one hb, if_pos (by omega)]
  simp
theorem not_minus (r : Nat) : (numB r).head? ≠ some 45 := by
  intro h
  rw [numB_is] at h
  cases hd : decDigits (om r) with
  | nil => exact dec_ne_nil _ hd
  | cons c l =>
    rw [hd] at h
    have := Dc.dec_mem (om r) c (by rw [hd]; simp)
    simp at h
    rw [h] at this
    exact absurd this.1 (by decide)
end Go.Proofs.YtjapgpmoojfhnaaGreatDoor.Fl
