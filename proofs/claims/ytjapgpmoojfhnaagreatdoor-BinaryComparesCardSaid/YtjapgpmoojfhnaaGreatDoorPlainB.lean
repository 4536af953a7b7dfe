/- Floating-point numbers are ordered as their words' rungs are. -/
import Derived.Test.YtjapgpmoojfhnaaGreatDoorPlainA
namespace Go.Proofs.YtjapgpmoojfhnaaGreatDoor.Fl
open Ieee

/-- A rung's number, in units of the format's least place. -/
def val (f : Format) (r : Nat) : Nat := rmag f r * 2 ^ (rplace f r - f.leastPlace).toNat
theorem val_low {f : Format} {r : Nat} (h : r < f.binade) : val f r = r := by
  simp [val, rmag, rplace, h]
theorem val_high {f : Format} {r : Nat} (h : ¬ r < f.binade) : val f r = (f.binade + r % f.binade) * 2 ^ (r / f.binade - 1) := by
  have e : (f.leastPlace + ((r / f.binade - 1 : Nat) : Int) - f.leastPlace).toNat = r / f.binade - 1 := by omega
  simp only [val, rmag, rplace, h, if_false, e]
theorem val_zero (f : Format) : val f 0 = 0 := val_low (binade_pos f)
theorem val_succ (f : Format) (r : Nat) : val f r < val f (r + 1) := by
  have hb := binade_pos f
  by_cases h1 : r + 1 < f.binade
  · rw [val_low h1, val_low (by omega)]; omega
  · by_cases h2 : r < f.binade
    · have e : r + 1 = f.binade := by omega
      rw [val_low h2, val_high h1, e, Nat.mod_self, Nat.div_self hb]
      simp; omega
    · rw [val_high h2, val_high h1]
      have hd := Nat.div_add_mod r f.binade
      have ht := Nat.mod_lt r hb
      have hq : 1 ≤ r / f.binade := (Nat.one_le_div_iff hb).2 (by omega)
      obtain ⟨q, hq'⟩ : ∃ q, r / f.binade = q + 1 := ⟨r / f.binade - 1, by omega⟩
      obtain ⟨t, htt⟩ : ∃ t, r % f.binade = t := ⟨_, rfl⟩
      rw [hq', htt] at hd
      rw [htt] at ht
      by_cases h3 : t + 1 < f.binade
      · have e1 : (r + 1) / f.binade = q + 1 := by
          rw [← hd, Nat.add_assoc, Nat.mul_add_div hb, Nat.div_eq_of_lt h3]
        have e2 : (r + 1) % f.binade = t + 1 := by
          rw [← hd, Nat.add_assoc, Nat.mul_add_mod, Nat.mod_eq_of_lt h3]
        rw [e1, e2, hq', htt]
        exact Nat.mul_lt_mul_of_pos_right (by omega) (Nat.two_pow_pos _)
      · have e0 : r + 1 = f.binade * (q + 2) := by
          rw [← hd, Nat.mul_add f.binade q 2, Nat.mul_add f.binade q 1]; omega
        have e1 : (r + 1) / f.binade = q + 2 := by rw [e0, Nat.mul_div_cancel_left _ hb]
        have e2 : (r + 1) % f.binade = 0 := by rw [e0, Nat.mul_mod_right]
        rw [e1, e2, hq', htt, show q + 1 - 1 = q by omega, show q + 2 - 1 = q + 1 by omega, Nat.pow_succ, Nat.add_zero, ← Nat.mul_assoc, Nat.mul_right_comm]
        exact Nat.mul_lt_mul_of_pos_right (by omega) (Nat.two_pow_pos _)
theorem val_lt {f : Format} {r s : Nat} (h : r < s) : val f r < val f s := by
  induction s with
  | zero => omega
  | succ s ih =>
    by_cases h2 : r = s
    · subst h2; exact val_succ f r
    · exact Nat.lt_trans (ih (by omega)) (val_succ f s)
/-- With a sign. -/
def sval (f : Format) (neg : Bool) (r : Nat) : Int := if neg then -(val f r : Int) else (val f r : Int)
theorem place_ge (f : Format) (r : Nat) : f.leastPlace ≤ rplace f r := by
  unfold rplace; split <;> omega
theorem signed_val (f : Format) (neg : Bool) (r : Nat) {base : Int} (h1 : f.leastPlace ≤ base) (h2 : base ≤ rplace f r) :
    sval f neg r = signed neg (rmag f r) (rplace f r - base).toNat * (2 ^ (base - f.leastPlace).toNat : Nat) := by
  have e : (rplace f r - f.leastPlace).toNat = (rplace f r - base).toNat + (base - f.leastPlace).toNat := by omega
  unfold sval val signed
  rw [e, Nat.pow_add, ← Nat.mul_assoc, Nat.shiftLeft_eq]
  split
  · rw [Int.natCast_mul, Int.neg_mul]
  · rw [Int.natCast_mul]
theorem compare_mul (a b : Int) (k : Nat) (hk : 0 < k) : compare (a * (k : Int)) (b * (k : Int)) = compare a b := by
  have hk' : (0 : Int) < (k : Int) := by omega
  rcases Int.lt_trichotomy a b with h | h | h
  · have h2 : a * (k : Int) < b * (k : Int) := Int.mul_lt_mul_of_pos_right h hk'
    rw [Int.compare_eq_lt.2 h, Int.compare_eq_lt.2 h2]
  · subst h; simp
  · have h2 : b * (k : Int) < a * (k : Int) := Int.mul_lt_mul_of_pos_right h hk'
    rw [Int.compare_eq_gt.2 h, Int.compare_eq_gt.2 h2]
theorem order_rungs (f : Format) (n m : Bool) (r s : Nat) : Datum.order (.number n (rmag f r) (rplace f r)) (.number m (rmag f s) (rplace f s)) = some (compare (sval f n r) (sval f m s)) := by
  have a1 := place_ge f r
  have a2 := place_ge f s
  have b1 : f.leastPlace ≤ min (rplace f r) (rplace f s) := by omega
  rw [signed_val f n r b1 (by omega), signed_val f m s b1 (by omega), compare_mul _ _ _ (Nat.two_pow_pos _)]
  rfl
end Go.Proofs.YtjapgpmoojfhnaaGreatDoor.Fl
