/- The numbers of the example: the smallest positive float and the middles beside it. -/
import Derived.Test.YtjapgpmoojfhnaaGreatDoorPlainF
import Derived.Test.YtjapgpmoojfhnaaGreatDoorWalkX
namespace Go.Proofs.YtjapgpmoojfhnaaGreatDoor.Fl
open Go.Lib

theorem dec_split : ∀ (k u : Nat), 10 ^ k ≤ u → decDigits u = decDigits (u / 10 ^ k) ++ digB8 (fixL k u).reverse
  | 0, u, _ => by simp [fixL, digB8]
  | k + 1, u, h => by
    have h1 : 10 ^ k ≤ u / 10 := by rw [Nat.le_div_iff_mul_le (by decide), ← Nat.pow_succ]; exact h
    have hp : 0 < 10 ^ k := Nat.pow_pos (n := k) (show 0 < 10 by decide)
    have ih := dec_split k (u / 10) h1
    rw [decDigits, dif_neg (by omega), ih, fixL, Nat.div_div_eq_div_mul, Nat.pow_succ, Nat.mul_comm 10]
    simp [digB8]
def exV : Nat := 4 * 5 ^ 1076
def exLo : Nat := 2 * 5 ^ 1076
def exHi : Nat := 6 * 5 ^ 1076
def exT : Nat := 10 ^ 751
theorem ex_facts : (decide (exT ≤ exV) && decide (exT ≤ exLo) && decide (exT ≤ exHi) && exV / exT == 49 && exLo / exT == 24 && exHi / exT == 74) = true := by kernel_rfl
theorem ex_of : exT ≤ exV ∧ exT ≤ exLo ∧ exT ≤ exHi ∧ exV / exT = 49 ∧ exLo / exT = 24 ∧ exHi / exT = 74 := by
  have h := ex_facts
  simp only [Bool.and_eq_true, decide_eq_true_eq, beq_iff_eq] at h
  obtain ⟨⟨⟨⟨⟨h1, h2⟩, h3⟩, h4⟩, h5⟩, h6⟩ := h
  exact ⟨h1, h2, h3, h4, h5, h6⟩
theorem dec_two {a : Nat} (h0 : 10 ≤ a) (h : a < 100) : decDigits a = [UInt8.ofNat (48 + a / 10), UInt8.ofNat (48 + a % 10)] := by
  rw [decDigits, dif_neg (by omega), decDigits, dif_pos (by omega)]
  rfl
theorem ex_head {u a : Nat} (h : exT ≤ u) (ha : u / exT = a) (h0 : 10 ≤ a) (h1 : a < 100) : ∃ l, decDigits u = UInt8.ofNat (48 + a / 10) :: UInt8.ofNat (48 + a % 10) :: l ∧ l.length = 751 := by
  obtain ⟨K, hK⟩ : ∃ K, K = 751 := ⟨_, rfl⟩
  unfold exT at h ha
  rw [← hK] at h ha ⊢
  have e := dec_split K u h
  rw [ha, dec_two h0 h1] at e
  exact ⟨_, e, by simp [digB8, fix_len]⟩
/-- The texts of the example. -/
theorem ex_texts : ∃ v lo hi : List UInt8, decDigits exV = 52 :: 57 :: v ∧ decDigits exLo = 50 :: 52 :: lo ∧ decDigits exHi = 55 :: 52 :: hi ∧ v.length = 751 ∧ lo.length = 751 ∧ hi.length = 751 := by
  obtain ⟨h1, h2, h3, h4, h5, h6⟩ := ex_of
  obtain ⟨v, a1, a2⟩ := ex_head h1 h4 (by decide) (by decide)
  obtain ⟨lo, b1, b2⟩ := ex_head h2 h5 (by decide) (by decide)
  obtain ⟨hi, c1, c2⟩ := ex_head h3 h6 (by decide) (by decide)
  exact ⟨v, lo, hi, a1, b1, c1, a2, b2, c2⟩
theorem ex_pow {K : Nat} (h : K = 1076) : 4 * 5 ^ K = exV ∧ 2 * 5 ^ K = exLo ∧ 6 * 5 ^ K = exHi := by
  subst h
  unfold exV exLo exHi
  exact ⟨rfl, rfl, rfl⟩
end Go.Proofs.YtjapgpmoojfhnaaGreatDoor.Fl
