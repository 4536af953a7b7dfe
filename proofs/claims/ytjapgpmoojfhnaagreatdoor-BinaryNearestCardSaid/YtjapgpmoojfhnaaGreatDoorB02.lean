/- The rung that is nearest to a number given as a fraction of units of the least place: what it means, that it is one alone, that it is monotone, and how a rounded significand gives it. -/
import Derived.Test.YtjapgpmoojfhnaaGreatDoorB01
set_option maxHeartbeats 16000000
set_option maxRecDepth 100000
set_option linter.unusedSimpArgs false
set_option linter.unusedVariables false
namespace Go.Proofs.YtjapgpmoojfhnaaGreatDoor.Fl
open Ieee
def Near (n d r : Nat) : Prop :=
 r ≤ 9218868437227405312 ∧
 (r = 0 ∨ (val double (r - 1) + val double r) * d < 2 * n ∨ ((val double (r - 1) + val double r) * d = 2 * n ∧ r % 2 = 0)) ∧
 (r = 9218868437227405312 ∨ 2 * n < (val double r + val double (r + 1)) * d ∨ (2 * n = (val double r + val double (r + 1)) * d ∧ r % 2 = 0))
theorem mid_lt {r s : Nat} (h : r < s) : val double r + val double (r + 1) < val double s + val double (s + 1) := by
 have h1 := val_lt (f := double) h
 have h2 := val_lt (f := double) (show r + 1 < s + 1 by omega)
 omega
theorem mid_le {r s : Nat} (h : r ≤ s) : val double r + val double (r + 1) ≤ val double s + val double (s + 1) := by
 rcases Nat.lt_or_ge r s with h1 | h1
 · exact Nat.le_of_lt (mid_lt h1)
 · obtain rfl : r = s := by omega
   exact Nat.le_refl _
theorem near_mono {n d r n' d' r' : Nat} (hd : 0 < d) (hd' : 0 < d') (h : Near n d r) (h' : Near n' d' r') (hle : n * d' ≤ n' * d) : r ≤ r' := by
 rcases Nat.lt_or_ge r' r with hlt | hge
 · exfalso
   obtain ⟨r1, hr1⟩ : ∃ q, r = q + 1 := ⟨r - 1, by omega⟩
   subst hr1
   obtain ⟨hmax, hl, _⟩ := h
   obtain ⟨_, _, hu⟩ := h'
   have hlo : (val double r1 + val double (r1 + 1)) * d ≤ 2 * n := by
    rcases hl with h1 | h1 | h1
    · omega
    · simpa using Nat.le_of_lt h1
    · simpa using Nat.le_of_eq h1.1
   have hup : 2 * n' ≤ (val double r' + val double (r' + 1)) * d' := by
    rcases hu with h1 | h1 | h1
    · omega
    · exact Nat.le_of_lt h1
    · exact Nat.le_of_eq h1.1
   have hm := mid_le (show r' ≤ r1 by omega)
   have e1 : (val double r1 + val double (r1 + 1)) * d * d' ≤ 2 * n * d' := Nat.mul_le_mul_right _ hlo
   have e2 : 2 * n' * d ≤ (val double r' + val double (r' + 1)) * d' * d := Nat.mul_le_mul_right _ hup
   have e3 : 2 * n * d' ≤ 2 * n' * d := by rw [Nat.mul_assoc, Nat.mul_assoc]; exact Nat.mul_le_mul_left 2 hle
   have e4 : (val double r' + val double (r' + 1)) * d' * d ≤ (val double r1 + val double (r1 + 1)) * d * d' := by
    rw [Nat.mul_assoc, Nat.mul_assoc, Nat.mul_comm d d']
    exact Nat.mul_le_mul_right _ hm
   rcases Nat.lt_or_ge r' r1 with hlt2 | hge2
   · have h5 := mid_lt hlt2
     have h6 : (val double r' + val double (r' + 1)) * (d' * d) < (val double r1 + val double (r1 + 1)) * (d' * d) := Nat.mul_lt_mul_of_pos_right h5 (Nat.mul_pos hd' hd)
     rw [Nat.mul_assoc] at e4
     rw [Nat.mul_assoc, Nat.mul_comm d d'] at e1
     rw [Nat.mul_assoc (val double r' + _)] at e2
     omega
   · obtain rfl : r' = r1 := by omega
     have q1 : (val double r' + val double (r' + 1)) * d = 2 * n := by
      have : (val double r' + val double (r' + 1)) * d * d' = 2 * n * d' := by omega
      exact Nat.eq_of_mul_eq_mul_right hd' this
     have q2 : 2 * n' = (val double r' + val double (r' + 1)) * d' := by
      have : 2 * n' * d = (val double r' + val double (r' + 1)) * d' * d := by omega
      exact Nat.eq_of_mul_eq_mul_right hd this
     rcases hl with h1 | h1 | h1
     · omega
     · simp at h1; omega
     · rcases hu with h2 | h2 | h2
       · omega
       · omega
       · omega
 · exact hge
theorem near_unique {n d r s : Nat} (hd : 0 < d) (h : Near n d r) (h' : Near n d s) : r = s :=
 Nat.le_antisymm (near_mono hd hd h h' (Nat.le_refl _)) (near_mono hd hd h' h (Nat.le_refl _))
theorem near_eq {n d r n' d' : Nat} (hd : 0 < d) (hd' : 0 < d') (e : n * d' = n' * d) (h : Near n d r) : Near n' d' r := by
 have key : ∀ x : Nat, (x * d < 2 * n ↔ x * d' < 2 * n') ∧ (x * d = 2 * n ↔ x * d' = 2 * n') ∧ (2 * n < x * d ↔ 2 * n' < x * d') := by
  intro x
  have c1 : x * d * d' = x * d' * d := by rw [Nat.mul_assoc, Nat.mul_comm d d', ← Nat.mul_assoc]
  have c2 : 2 * n * d' = 2 * n' * d := by rw [Nat.mul_assoc, e, ← Nat.mul_assoc]
  refine ⟨?_, ?_, ?_⟩
  · rw [← Nat.mul_lt_mul_right (a0 := hd') (b := x * d), ← Nat.mul_lt_mul_right (a0 := hd) (b := x * d'), c1, c2]
  · constructor
    · intro h; exact Nat.eq_of_mul_eq_mul_right hd (by rw [← c1, ← c2, h])
    · intro h; exact Nat.eq_of_mul_eq_mul_right hd' (by rw [c1, c2, h])
  · rw [← Nat.mul_lt_mul_right (a0 := hd') (b := 2 * n), ← Nat.mul_lt_mul_right (a0 := hd) (b := 2 * n'), c1, c2]
 obtain ⟨h1, h2, h3⟩ := h
 refine ⟨h1, ?_, ?_⟩
 · rcases h2 with h | h | ⟨h, hv⟩
   · exact .inl h
   · exact .inr (.inl ((key _).1.1 h))
   · exact .inr (.inr ⟨(key _).2.1.1 h, hv⟩)
 · rcases h3 with h | h | ⟨h, hv⟩
   · exact .inl h
   · exact .inr (.inl ((key _).2.2.1 h))
   · exact .inr (.inr ⟨((key _).2.1.1 h.symm).symm, hv⟩)
theorem val_at {k q : Nat} (h : k = 0 ∨ 4503599627370496 ≤ q) (hq : q ≤ 9007199254740992) : val double (k * 4503599627370496 + q) = q * 2 ^ k := by
 rcases Nat.lt_or_ge (k * 4503599627370496 + q) 4503599627370496 with hl | hl
 · have hk : k = 0 := by omega
   subst hk
   rw [val_low (by rw [d_binade]; omega)]
   simp
 · rw [val_high (by rw [d_binade]; omega), d_binade]
   rcases Nat.lt_or_ge q 9007199254740992 with h2 | h2
   · have e1 : (k * 4503599627370496 + q) / 4503599627370496 - 1 = k := by omega
     have e2 : 4503599627370496 + (k * 4503599627370496 + q) % 4503599627370496 = q := by omega
     rw [e1, e2]
   · have hq2 : q = 9007199254740992 := by omega
     subst hq2
     have e1 : (k * 4503599627370496 + 9007199254740992) / 4503599627370496 - 1 = k + 1 := by omega
     have e2 : 4503599627370496 + (k * 4503599627370496 + 9007199254740992) % 4503599627370496 = 4503599627370496 := by omega
     rw [e1, e2, Nat.pow_succ]
     omega
theorem near_min {n d r : Nat} (hd : 0 < d)
 (lower : r = 0 ∨ (val double (r - 1) + val double r) * d < 2 * n ∨ ((val double (r - 1) + val double r) * d = 2 * n ∧ r % 2 = 0))
 (upper : 2 * n < (val double r + val double (r + 1)) * d ∨ (2 * n = (val double r + val double (r + 1)) * d ∧ r % 2 = 0)) : Near n d (min r 9218868437227405312) := by
 rcases Nat.lt_or_ge r 9218868437227405312 with hlt | hge
 · rw [Nat.min_eq_left (Nat.le_of_lt hlt)]
   exact ⟨Nat.le_of_lt hlt, lower, .inr upper⟩
 · rw [Nat.min_eq_right hge]
   refine ⟨Nat.le_refl _, ?_, .inl rfl⟩
   right
   have hmid : (val double (9218868437227405312 - 1) + val double 9218868437227405312) * d ≤ (val double (r - 1) + val double r) * d := by
    refine Nat.mul_le_mul_right _ ?_
    have := mid_le (show 9218868437227405312 - 1 ≤ r - 1 by omega)
    rwa [show (9218868437227405312 - 1 + 1) = 9218868437227405312 from rfl, show r - 1 + 1 = r by omega] at this
   rcases lower with h | h | ⟨h, he⟩
   · omega
   · exact .inl (Nat.lt_of_le_of_lt hmid h)
   · rcases Nat.lt_or_ge 9218868437227405312 r with h5 | h5
     · left
       have := mid_lt (show 9218868437227405312 - 1 < r - 1 by omega)
       rw [show (9218868437227405312 - 1 + 1) = 9218868437227405312 from rfl, show r - 1 + 1 = r by omega] at this
       exact Nat.lt_of_lt_of_le (Nat.mul_lt_mul_of_pos_right this hd) (Nat.le_of_eq h)
     · obtain rfl : r = 9218868437227405312 := by omega
       exact .inr ⟨h, by decide⟩
theorem near_of_rnd {n d k q m : Nat} (hd : 0 < d) (hk : k = 0 ∨ 4503599627370496 ≤ q) (hq : q < 9007199254740992) (h0 : q * 2 ^ k * d ≤ n) (h1 : n < (q + 1) * 2 ^ k * d)
 (hm : (m = q ∧ (2 * n < (2 * q + 1) * 2 ^ k * d ∨ (2 * n = (2 * q + 1) * 2 ^ k * d ∧ q % 2 = 0))) ∨ (m = q + 1 ∧ ((2 * q + 1) * 2 ^ k * d < 2 * n ∨ (2 * n = (2 * q + 1) * 2 ^ k * d ∧ q % 2 = 1)))) :
 Near n d (min (k * 4503599627370496 + m) 9218868437227405312) := by
 have vq := val_at (k := k) (q := q) hk (by omega)
 have vq1 := val_at (k := k) (q := q + 1) (by omega) (by omega)
 have hpar : (k * 4503599627370496 + m) % 2 = m % 2 := by omega
 have lower : k * 4503599627370496 + m = 0 ∨ (val double (k * 4503599627370496 + m - 1) + val double (k * 4503599627370496 + m)) * d < 2 * n ∨ ((val double (k * 4503599627370496 + m - 1) + val double (k * 4503599627370496 + m)) * d = 2 * n ∧ m % 2 = 0) := by
  rcases hm with ⟨rfl, _⟩ | ⟨rfl, hm⟩
  · rcases Nat.eq_zero_or_pos (k * 4503599627370496 + m) with hz | hz
    · exact .inl hz
    · right; left
      have hlt := val_lt (f := double) (show k * 4503599627370496 + m - 1 < k * 4503599627370496 + m by omega)
      have h2 : (val double (k * 4503599627370496 + m - 1) + val double (k * 4503599627370496 + m)) * d < (val double (k * 4503599627370496 + m) + val double (k * 4503599627370496 + m)) * d := Nat.mul_lt_mul_of_pos_right (by omega) hd
      refine Nat.lt_of_lt_of_le h2 ?_
      rw [vq, Nat.add_mul]
      omega
  · right
    have e : (val double (k * 4503599627370496 + (q + 1) - 1) + val double (k * 4503599627370496 + (q + 1))) * d = (2 * q + 1) * 2 ^ k * d := by
     rw [show k * 4503599627370496 + (q + 1) - 1 = k * 4503599627370496 + q by omega, vq, vq1, ← Nat.add_mul]
     congr 2
     omega
    rw [e]
    rcases hm with h | ⟨h, ho⟩
    · exact .inl h
    · exact .inr ⟨h.symm, by omega⟩
 have upper : 2 * n < (val double (k * 4503599627370496 + m) + val double (k * 4503599627370496 + m + 1)) * d ∨ (2 * n = (val double (k * 4503599627370496 + m) + val double (k * 4503599627370496 + m + 1)) * d ∧ m % 2 = 0) := by
  rcases hm with ⟨rfl, hm⟩ | ⟨rfl, hm⟩
  · have e : (val double (k * 4503599627370496 + m) + val double (k * 4503599627370496 + m + 1)) * d = (2 * m + 1) * 2 ^ k * d := by
     rw [Nat.add_assoc, vq, vq1, ← Nat.add_mul]
     congr 2
     omega
    rw [e]
    exact hm
  · left
    have hlt := val_lt (f := double) (show k * 4503599627370496 + (q + 1) < k * 4503599627370496 + (q + 1) + 1 by omega)
    have h2 : (val double (k * 4503599627370496 + (q + 1)) + val double (k * 4503599627370496 + (q + 1))) * d < (val double (k * 4503599627370496 + (q + 1)) + val double (k * 4503599627370496 + (q + 1) + 1)) * d := Nat.mul_lt_mul_of_pos_right (by omega) hd
    refine Nat.lt_of_le_of_lt ?_ h2
    rw [vq1, Nat.add_mul]
    omega
 rw [← hpar] at lower upper
 exact near_min hd lower upper
theorem near_self {n d r : Nat} (hd : 0 < d) (hr : r < 9218868437227405312) (h : n = val double r * d) : Near n d r := by
 refine ⟨Nat.le_of_lt hr, ?_, .inr (.inl ?_)⟩
 · rcases Nat.eq_zero_or_pos r with h0 | h0
   · exact .inl h0
   · right; left
     have := val_lt (f := double) (show r - 1 < r by omega)
     rw [h, ← Nat.mul_assoc]
     exact Nat.mul_lt_mul_of_pos_right (by omega) hd
 · have := val_lt (f := double) (show r < r + 1 by omega)
   rw [h, ← Nat.mul_assoc]
   exact Nat.mul_lt_mul_of_pos_right (by omega) hd
end Go.Proofs.YtjapgpmoojfhnaaGreatDoor.Fl
