/- Rows of digits of the library's decimal: the number that the first bytes say, its digits at a left shift and at a right shift, digit after digit. The library's decimal under its shifts as a number: what is kept of it when digits below the first 800 are dropped, the error, and that nothing is dropped of a number that is a short significand times a power of two. The library's .. -/
import Derived.Test.YtjapgpmoojfhnaaGreatDoorB04
import Derived.KernelRfl
set_option maxHeartbeats 16000000
set_option maxRecDepth 100000
set_option linter.unusedSimpArgs false
set_option linter.unusedVariables false
namespace Go.Proofs.YtjapgpmoojfhnaaGreatDoor.Fl
def IsNum (D : List Nat) (n N : Nat) : Prop := N < 10 ^ n ∧ ∀ i, i < n → D[i]? = some (48 + N / 10 ^ (n - 1 - i) % 10)
theorem IsNum.tail {D : List Nat} {n N : Nat} (h : IsNum D (n + 1) N) : IsNum D n (N / 10) := by
 refine ⟨?_, fun i hi => ?_⟩
 · have := h.1
   rw [Nat.pow_succ] at this
   omega
 · rw [h.2 i (by omega), Nat.div_div_eq_div_mul, Nat.mul_comm 10, ← Nat.pow_succ, show n + 1 - 1 - i = (n - 1 - i).succ by omega]
theorem IsNum.last {D : List Nat} {n N : Nat} (h : IsNum D (n + 1) N) : D[n]? = some (48 + N % 10) := by
 rw [h.2 n (by omega), show n + 1 - 1 - n = 0 by omega, Nat.pow_zero, Nat.div_one]
/- The left shift. -/
def carN (N k i : Nat) : Nat := N % 10 ^ i * 2 ^ k / 10 ^ i
theorem carN_zero (N k : Nat) : carN N k 0 = 0 := by unfold carN; rw [Nat.pow_zero, Nat.mod_one]; simp
theorem mod_split (N i : Nat) : N % 10 ^ (i + 1) = N % 10 ^ i + 10 ^ i * (N / 10 ^ i % 10) := by rw [Nat.pow_succ, Nat.mod_mul]
theorem car_step (N k i : Nat) : (carN N k i + N / 10 ^ i % 10 * 2 ^ k) / 10 = carN N k (i + 1) ∧ (carN N k i + N / 10 ^ i % 10 * 2 ^ k) % 10 = N * 2 ^ k / 10 ^ i % 10 := by
 have hp : 0 < 10 ^ i := Nat.pow_pos (by decide)
 have e1 : carN N k i + N / 10 ^ i % 10 * 2 ^ k = N % 10 ^ (i + 1) * 2 ^ k / 10 ^ i := by
  unfold carN
  rw [mod_split, Nat.add_mul, Nat.mul_assoc, Nat.add_mul_div_left _ _ hp]
 refine ⟨?_, ?_⟩
 · rw [e1, Nat.div_div_eq_div_mul]
   unfold carN
   rw [Nat.pow_succ]
 · rw [e1]
   have e2 : N * 2 ^ k = N % 10 ^ (i + 1) * 2 ^ k + 10 ^ i * (10 * (N / 10 ^ (i + 1) * 2 ^ k)) := by
    conv => lhs; rw [← Nat.mod_add_div N (10 ^ (i + 1)), Nat.add_mul]
    congr 1
    rw [Nat.pow_succ]
    simp only [Nat.mul_assoc]
   rw [e2, Nat.add_mul_div_left _ _ hp]
   omega
theorem car_lt (N k i : Nat) : carN N k i < 2 ^ k := by
 unfold carN
 have hp : 0 < 10 ^ i := Nat.pow_pos (by decide)
 rw [Nat.div_lt_iff_lt_mul hp, Nat.mul_comm]
 exact Nat.mul_lt_mul_of_pos_left (Nat.mod_lt _ hp) (Nat.pow_pos (by decide))
theorem car_all {N k i n : Nat} (h : N < 10 ^ n) (hi : n ≤ i) : carN N k i = N * 2 ^ k / 10 ^ i := by
 unfold carN
 rw [Nat.mod_eq_of_lt (Nat.lt_of_lt_of_le h (Nat.pow_le_pow_right (by decide) hi))]
structure LSt (D0 : List Nat) (N k n m : Nat) (t : Bool) (D : List Nat) (i : Nat) (t' : Bool) : Prop where
 done : ∀ j, j < i → j < m → m - 1 - j < 800 → D[m - 1 - j]? = some (48 + N * 2 ^ k / 10 ^ j % 10)
 left : ∀ p, p + i < n → D[p]? = D0[p]?
 drop : t' = (t || N * 2 ^ k % 10 ^ (min i (m - 800)) != 0)
theorem LSt.start (D0 : List Nat) (N k n m : Nat) (t : Bool) : LSt D0 N k n m t D0 0 t := by
 refine ⟨fun j hj => absurd hj (by omega), fun _ _ => rfl, ?_⟩
 rw [Nat.zero_min, Nat.pow_zero, Nat.mod_one]
 simp
theorem LSt.keep {D0 D : List Nat} {N k n m i : Nat} {t t' : Bool} (h : LSt D0 N k n m t D i t') (hi : i < m) (hnm : n ≤ m) (hlen : D.length = 800) (hw : m - 1 - i < 800) : LSt D0 N k n m t (D.set (m - 1 - i) (48 + N * 2 ^ k / 10 ^ i % 10)) (i + 1) t' := by
 refine ⟨fun j hj hjm hj8 => ?_, fun p hp => ?_, ?_⟩
 · rcases Nat.lt_or_ge j i with hji | hji
   · rw [List.getElem?_set_ne (by omega)]
     exact h.done j hji hjm hj8
   · obtain rfl : j = i := by omega
     rw [List.getElem?_set_self (by omega)]
 · rw [List.getElem?_set_ne (by omega)]
   exact h.left p (by omega)
 · rw [h.drop, show min (i + 1) (m - 800) = min i (m - 800) by omega]
theorem LSt.skip {D0 D : List Nat} {N k n m i : Nat} {t t' : Bool} (h : LSt D0 N k n m t D i t') (hi : i < m) (hw : ¬ m - 1 - i < 800) : LSt D0 N k n m t D (i + 1) (t' || N * 2 ^ k / 10 ^ i % 10 != 0) := by
 refine ⟨fun j hj hjm hj8 => ?_, fun p hp => h.left p (by omega), ?_⟩
 · rcases Nat.lt_or_ge j i with hji | hji
   · exact h.done j hji hjm hj8
   · omega
 · rw [h.drop, Bool.or_assoc]
   congr 1
   rw [show min i (m - 800) = i by omega, show min (i + 1) (m - 800) = i + 1 by omega, mod_split]
   have hp : 0 < 10 ^ i := Nat.pow_pos (by decide)
   rw [Bool.eq_iff_iff]
   simp only [Bool.or_eq_true, bne_iff_ne, ne_eq]
   constructor
   · rintro (h1 | h1)
     · omega
     · intro h2
       have : 10 ^ i * (N * 2 ^ k / 10 ^ i % 10) = 0 := by omega
       rcases Nat.mul_eq_zero.1 this with h3 | h3
       · omega
       · exact h1 h3
   · intro h1
     by_cases h2 : N * 2 ^ k % 10 ^ i = 0
     · right
       intro h3
       rw [h2, h3] at h1
       exact h1 rfl
     · exact Or.inl h2
theorem LSt.end_ {D0 D : List Nat} {N k n m : Nat} {t t' : Bool} (h : LSt D0 N k n m t D m t') (hP : N * 2 ^ k < 10 ^ m) :
 IsNum D (min m 800) (N * 2 ^ k / 10 ^ (m - min m 800)) ∧ t' = (t || N * 2 ^ k % 10 ^ (m - min m 800) != 0) := by
 refine ⟨⟨?_, fun i hi => ?_⟩, ?_⟩
 · rw [Nat.div_lt_iff_lt_mul (Nat.pow_pos (by decide)), ← Nat.pow_add]
   exact Nat.lt_of_lt_of_le hP (Nat.pow_le_pow_right (by decide) (by omega))
 · have := h.done (m - 1 - i) (by omega) (by omega) (by omega)
   rw [show m - 1 - (m - 1 - i) = i by omega] at this
   rw [this, Nat.div_div_eq_div_mul, ← Nat.pow_add, show m - min m 800 + (min m 800 - 1 - i) = m - 1 - i by omega]
 · rw [h.drop, show min m (m - 800) = m - min m 800 by omega]
/- The right shift. -/
def preN (N n t : Nat) : Nat := if t ≤ n then N / 10 ^ (n - t) else N * 10 ^ (t - n)
theorem pre_low {N n t : Nat} (h : t < n) : preN N n (t + 1) = 10 * preN N n t + N / 10 ^ (n - 1 - t) % 10 := by
 unfold preN
 rw [if_pos (by omega), if_pos (by omega), show n - t = (n - (t + 1)) + 1 by omega, show n - 1 - t = n - (t + 1) by omega, Nat.pow_succ, ← Nat.div_div_eq_div_mul]
 omega
theorem pre_high {N n t : Nat} (h : n ≤ t) : preN N n (t + 1) = 10 * preN N n t := by
 unfold preN
 rw [if_neg (by omega)]
 split
 · obtain rfl : t = n := by omega
   rw [Nat.sub_self, Nat.pow_zero, Nat.div_one, show t + 1 - t = 1 by omega, Nat.pow_one, Nat.mul_comm]
 · rw [show t + 1 - n = (t - n) + 1 by omega, Nat.pow_succ, ← Nat.mul_assoc, Nat.mul_comm]
theorem pre_zero {N n : Nat} (h : N < 10 ^ n) : preN N n 0 = 0 := by
 unfold preN
 rw [if_pos (Nat.zero_le _), Nat.sub_zero, Nat.div_eq_of_lt h]
theorem pre_div (N n t : Nat) : preN N n (t + 1) / 10 = preN N n t := by
 rcases Nat.lt_or_ge t n with h | h
 · rw [pre_low h]
   omega
 · rw [pre_high h]
   omega
theorem pre_mono (N n t s : Nat) : preN N n t ≤ preN N n (t + s) := by
 induction s with
 | zero => exact Nat.le_refl _
 | succ s ih =>
   have := pre_div N n (t + s)
   rw [← Nat.add_assoc]
   omega
theorem pre_shift (N n t s : Nat) : preN N n (t + s) / 10 ^ s = preN N n t := by
 induction s with
 | zero => simp
 | succ s ih =>
   rw [Nat.pow_succ, Nat.mul_comm, ← Nat.div_div_eq_div_mul, ← Nat.add_assoc, pre_div, ih]
def remN (N n k t : Nat) : Nat := preN N n t - 10 * 2 ^ k * (preN N n (t - 1) / 2 ^ k)
theorem rem_eq (N n k t : Nat) : preN N n (t + 1) = 10 * 2 ^ k * (preN N n t / 2 ^ k) + remN N n k (t + 1) := by
 unfold remN
 rw [Nat.add_sub_cancel]
 have h1 := pre_div N n t
 have h2 := Nat.div_mul_le_self (preN N n t) (2 ^ k)
 have h3 : 10 * 2 ^ k * (preN N n t / 2 ^ k) = 10 * (preN N n t / 2 ^ k * 2 ^ k) := by rw [Nat.mul_assoc, Nat.mul_comm (2 ^ k)]
 omega
theorem rem_div (N n k t : Nat) : preN N n (t + 1) / 2 ^ k = 10 * (preN N n t / 2 ^ k) + remN N n k (t + 1) / 2 ^ k := by
 have hp : 0 < 2 ^ k := Nat.pow_pos (by decide)
 rw [rem_eq, show 10 * 2 ^ k * (preN N n t / 2 ^ k) = 2 ^ k * (10 * (preN N n t / 2 ^ k)) by rw [Nat.mul_comm 10, Nat.mul_assoc], Nat.mul_add_div hp]
theorem rem_mod (N n k t : Nat) : remN N n k (t + 1) % 2 ^ k = preN N n (t + 1) % 2 ^ k := by
 rw [rem_eq, show 10 * 2 ^ k * (preN N n t / 2 ^ k) = 2 ^ k * (10 * (preN N n t / 2 ^ k)) by rw [Nat.mul_comm 10, Nat.mul_assoc], Nat.mul_add_mod]
theorem rem_lt {N n k t : Nat} : remN N n k (t + 1) < 10 * 2 ^ k := by
 have h1 := rem_eq N n k t
 have h2 := Nat.mod_add_div (preN N n t) (2 ^ k)
 have h3 := Nat.mod_lt (preN N n t) (Nat.pow_pos (by decide : 0 < 2) (n := k))
 have h4 : preN N n (t + 1) ≤ 10 * preN N n t + 9 := by have := pre_div N n t; omega
 have h5 : 10 * 2 ^ k * (preN N n t / 2 ^ k) = 10 * (2 ^ k * (preN N n t / 2 ^ k)) := Nat.mul_assoc _ _ _
 omega
theorem rem_digit {N n k t : Nat} : remN N n k (t + 1) / 2 ^ k < 10 ∧ preN N n (t + 1) / 2 ^ k % 10 = remN N n k (t + 1) / 2 ^ k := by
 have h : remN N n k (t + 1) / 2 ^ k < 10 := by
  rw [Nat.div_lt_iff_lt_mul (Nat.pow_pos (by decide))]
  exact rem_lt
 refine ⟨h, ?_⟩
 rw [rem_div, Nat.mul_add_mod, Nat.mod_eq_of_lt h]
theorem rem_next (N n k t : Nat) : remN N n k (t + 2) = 10 * (remN N n k (t + 1) % 2 ^ k) + (preN N n (t + 2) - 10 * preN N n (t + 1)) := by
 have h1 := rem_eq N n k (t + 1)
 have h2 := Nat.mod_add_div (preN N n (t + 1)) (2 ^ k)
 have h3 := rem_mod N n k t
 have h4 := pre_div N n (t + 1)
 have h5 : 10 * 2 ^ k * (preN N n (t + 1) / 2 ^ k) = 10 * (2 ^ k * (preN N n (t + 1) / 2 ^ k)) := Nat.mul_assoc _ _ _
 rw [h3]
 show remN N n k (t + 1 + 1) = _
 have h6 : preN N n (t + 1 + 1) = preN N n (t + 2) := rfl
 omega
def outN (N n k r w : Nat) : Nat := preN N n (r + w) / 2 ^ k
structure RSt (D0 : List Nat) (N k n r : Nat) (t : Bool) (D : List Nat) (w : Nat) (t' : Bool) : Prop where
 done : ∀ j, j < w → j < 800 → D[j]? = some (48 + outN N n k r (j + 1) % 10)
 left : ∀ p, w ≤ p → D[p]? = D0[p]?
 drop : t' = (t || outN N n k r w % 10 ^ (w - 800) != 0)
theorem RSt.start (D0 : List Nat) (N k n r : Nat) (t : Bool) : RSt D0 N k n r t D0 0 t := by
 refine ⟨fun j hj => absurd hj (by omega), fun _ _ => rfl, ?_⟩
 rw [Nat.zero_sub, Nat.pow_zero, Nat.mod_one]
 simp
theorem RSt.keep {D0 D : List Nat} {N k n r w : Nat} {t t' : Bool} (h : RSt D0 N k n r t D w t') (hlen : D.length = 800) (hw : w < 800) : RSt D0 N k n r t (D.set w (48 + outN N n k r (w + 1) % 10)) (w + 1) t' := by
 refine ⟨fun j hj hj8 => ?_, fun p hp => ?_, ?_⟩
 · rcases Nat.lt_or_ge j w with hji | hji
   · rw [List.getElem?_set_ne (by omega)]
     exact h.done j hji hj8
   · obtain rfl : j = w := by omega
     rw [List.getElem?_set_self (by omega)]
 · rw [List.getElem?_set_ne (by omega)]
   exact h.left p (by omega)
 · rw [h.drop, show w - 800 = 0 by omega, show w + 1 - 800 = 0 by omega, Nat.pow_zero, Nat.mod_one, Nat.mod_one]
theorem RSt.skip {D0 D : List Nat} {N k n r w : Nat} {t t' : Bool} (h : RSt D0 N k n r t D w t') (hw : ¬ w < 800) : RSt D0 N k n r t D (w + 1) (t' || outN N n k r (w + 1) % 10 != 0) := by
 refine ⟨fun j hj hj8 => h.done j (by omega) hj8, fun p hp => h.left p (by omega), ?_⟩
 rw [h.drop, Bool.or_assoc]
 congr 1
 have h1 : outN N n k r (w + 1) / 10 = outN N n k r w := by
  unfold outN
  rw [Nat.div_div_eq_div_mul, Nat.mul_comm, ← Nat.div_div_eq_div_mul, ← Nat.add_assoc, pre_div]
 rw [show w + 1 - 800 = (w - 800).succ by omega, Nat.pow_succ, Nat.mul_comm, Nat.mod_mul, h1]
 rw [Bool.eq_iff_iff]
 simp only [Bool.or_eq_true, bne_iff_ne, ne_eq]
 omega
theorem RSt.end_ {D0 D : List Nat} {N k n r w : Nat} {t t' : Bool} (h : RSt D0 N k n r t D w t') (h0 : preN N n r < 2 ^ k) :
 IsNum D (min w 800) (outN N n k r w / 10 ^ (w - min w 800)) ∧ t' = (t || outN N n k r w % 10 ^ (w - min w 800) != 0) := by
 have hlt : outN N n k r w < 10 ^ w := by
  unfold outN
  have h1 := pre_shift N n r w
  have h2 : preN N n (r + w) < 10 ^ w * 2 ^ k := by
   have h3 := Nat.mod_add_div (preN N n (r + w)) (10 ^ w)
   rw [h1] at h3
   have h4 := Nat.mod_lt (preN N n (r + w)) (Nat.pow_pos (by decide : 0 < 10) (n := w))
   have h5 : 10 ^ w * (preN N n r + 1) ≤ 10 ^ w * 2 ^ k := Nat.mul_le_mul_left _ h0
   rw [Nat.mul_add, Nat.mul_one] at h5
   omega
  rwa [Nat.div_lt_iff_lt_mul (Nat.pow_pos (by decide))]
 have hsh : ∀ j, j ≤ w → outN N n k r w / 10 ^ (w - j) = outN N n k r j := fun j hj => by
  unfold outN
  have h1 := pre_shift N n (r + j) (w - j)
  rw [show r + j + (w - j) = r + w by omega] at h1
  rw [← h1, Nat.div_div_eq_div_mul, Nat.mul_comm, ← Nat.div_div_eq_div_mul]
 refine ⟨⟨?_, fun i hi => ?_⟩, ?_⟩
 · rw [Nat.div_lt_iff_lt_mul (Nat.pow_pos (by decide)), ← Nat.pow_add]
   exact Nat.lt_of_lt_of_le hlt (Nat.pow_le_pow_right (by decide) (by omega))
 · rw [h.done i (by omega) (by omega), Nat.div_div_eq_div_mul, ← Nat.pow_add, show w - min w 800 + (min w 800 - 1 - i) = w - (i + 1) by omega, hsh _ (by omega)]
 · rw [h.drop, show w - min w 800 = w - 800 by omega]
def sc (a : Int) : Nat := 10 ^ (a + 3000).toNat
def tw (s : Int) : Nat := 2 ^ (s + 4000).toNat
theorem sc_pos (a : Int) : 0 < sc a := Nat.pow_pos (by decide)
theorem tw_pos (a : Int) : 0 < tw a := Nat.pow_pos (by decide)
theorem sc_add {a : Int} (c : Nat) (h : -3000 ≤ a) : sc (a + c) = 10 ^ c * sc a := by
 unfold sc
 rw [show (a + c + 3000).toNat = c + (a + 3000).toNat by omega, Nat.pow_add]
theorem tw_add {a : Int} (c : Nat) (h : -4000 ≤ a) : tw (a + c) = 2 ^ c * tw a := by
 unfold tw
 rw [show (a + c + 4000).toNat = c + (a + 4000).toNat by omega, Nat.pow_add]
structure Dst (E M : Nat) (p s : Int) (j N : Nat) (e : Int) (t : Bool) : Prop where
 pos : 0 < N
 lo : N * sc e * tw 0 ≤ M * sc p * tw s
 eq : t = false → N * sc e * tw 0 = M * sc p * tw s
 gt : t = true → N * sc e * tw 0 < M * sc p * tw s
 err : (M * sc p * tw s - N * sc e * tw 0) * E ≤ j * (M * sc p * tw s)
 low : -3000 ≤ e ∧ -3000 ≤ p ∧ -4000 ≤ s
section
variable {E M : Nat} {p s : Int} {j N : Nat} {e : Int} {t : Bool}
theorem Dst.start (hM : 0 < M) (hp : -3000 ≤ p) : Dst E M p 0 0 M p false := ⟨hM, Nat.le_refl _, fun _ => rfl, fun h => (by cases h), (by rw [Nat.sub_self, Nat.zero_mul]; exact Nat.zero_le _), hp, hp, by omega⟩
theorem Dst.trim {N' z : Nat} (h : Dst E M p s j N e t) (hN : N = N' * 10 ^ z) (hz : -3000 ≤ e) : Dst E M p s j N' (e + z) t := by
 have hv : N' * sc (e + z) = N * sc e := by rw [sc_add z hz, hN, Nat.mul_assoc]
 refine ⟨Nat.pos_of_ne_zero fun h0 => ?_, ?_, fun ht => ?_, fun ht => ?_, ?_, by omega, h.low.2⟩
 · have := h.pos
   rw [hN, h0] at this
   omega
 · rw [hv]; exact h.lo
 · rw [hv]; exact h.eq ht
 · rw [hv]; exact h.gt ht
 · rw [hv]; exact h.err
theorem Dst.cut {P c : Nat} (h : Dst E M p s j P e t) (hc : c = 0 ∨ 10 ^ c * E ≤ P) (hq : 0 < P / 10 ^ c) : Dst E M p s (j + 1) (P / 10 ^ c) (e + c) (t || P % 10 ^ c != 0) := by
 have hp : 0 < 10 ^ c := Nat.pow_pos (by decide)
 have hdm : P = 10 ^ c * (P / 10 ^ c) + P % 10 ^ c := (Nat.div_add_mod P (10 ^ c)).symm
 have hv : P / 10 ^ c * sc (e + c) = (P - P % 10 ^ c) * sc e := by
  rw [sc_add c h.low.1, ← Nat.mul_assoc, Nat.mul_comm (P / 10 ^ c)]
  congr 1
  omega
 have hle : (P - P % 10 ^ c) * sc e * tw 0 ≤ P * sc e * tw 0 := Nat.mul_le_mul_right _ (Nat.mul_le_mul_right _ (Nat.sub_le _ _))
 have hst : 0 < sc e * tw 0 := Nat.mul_pos (sc_pos _) (tw_pos _)
 refine ⟨hq, ?_, fun ht => ?_, fun ht => ?_, ?_, by have := h.low; omega, h.low.2⟩
 · rw [hv]; exact Nat.le_trans hle h.lo
 · simp only [Bool.or_eq_false_iff, bne_eq_false_iff_eq] at ht
   rw [hv, ht.2, Nat.sub_zero]; exact h.eq ht.1
 · rw [hv]
   cases t with
   | true => exact Nat.lt_of_le_of_lt hle (h.gt rfl)
   | false =>
     simp only [Bool.false_or, bne_iff_ne, ne_eq] at ht
     rw [← h.eq rfl, Nat.mul_assoc, Nat.mul_assoc]
     exact Nat.mul_lt_mul_of_pos_right (by have := Nat.mod_le P (10 ^ c); omega) hst
 · rw [hv]
   have hr : P % 10 ^ c * E ≤ P := by
    rcases hc with rfl | hc
    · rw [Nat.pow_zero, Nat.mod_one, Nat.zero_mul]; exact Nat.zero_le _
    · refine Nat.le_trans ?_ hc
      exact Nat.mul_le_mul_right _ (Nat.le_of_lt (Nat.mod_lt _ hp))
   have e1 : M * sc p * tw s - (P - P % 10 ^ c) * sc e * tw 0 = (M * sc p * tw s - P * sc e * tw 0) + P % 10 ^ c * (sc e * tw 0) := by
    have h1 : P * sc e * tw 0 = (P - P % 10 ^ c) * sc e * tw 0 + P % 10 ^ c * (sc e * tw 0) := by
     rw [Nat.mul_assoc, Nat.mul_assoc, ← Nat.add_mul]
     congr 1
     have := Nat.mod_le P (10 ^ c)
     omega
    have := h.lo
    omega
   rw [e1, Nat.add_mul, Nat.add_mul, Nat.one_mul]
   refine Nat.add_le_add h.err ?_
   calc P % 10 ^ c * (sc e * tw 0) * E = P % 10 ^ c * E * (sc e * tw 0) := by rw [Nat.mul_right_comm]
    _ ≤ P * (sc e * tw 0) := Nat.mul_le_mul_right _ hr
    _ = P * sc e * tw 0 := (Nat.mul_assoc _ _ _).symm
    _ ≤ M * sc p * tw s := h.lo
theorem Dst.left (h : Dst E M p s j N e t) (k : Nat) : Dst E M p (s + k) j (N * 2 ^ k) e t := by
 have hk : 0 < 2 ^ k := Nat.pow_pos (by decide)
 have e1 : M * sc p * tw (s + k) = 2 ^ k * (M * sc p * tw s) := by rw [tw_add k h.low.2.2, Nat.mul_left_comm]
 have e2 : N * 2 ^ k * sc e * tw 0 = 2 ^ k * (N * sc e * tw 0) := by
  rw [Nat.mul_comm N, Nat.mul_assoc, Nat.mul_assoc, Nat.mul_assoc]
 refine ⟨Nat.mul_pos h.pos hk, ?_, fun ht => ?_, fun ht => ?_, ?_, h.low.1, h.low.2.1, by have := h.low; omega⟩
 · rw [e1, e2]; exact Nat.mul_le_mul_left _ h.lo
 · rw [e1, e2, h.eq ht]
 · rw [e1, e2]; exact Nat.mul_lt_mul_of_pos_left (h.gt ht) hk
 · rw [e1, e2, ← Nat.mul_sub, Nat.mul_assoc, Nat.mul_left_comm j]
   exact Nat.mul_le_mul_left _ h.err
theorem Dst.right {P z k : Nat} (h : Dst E M p s j N e t) (hP : P * 2 ^ k = N * 10 ^ z) (he : -3000 ≤ e - z) (hs : -4000 ≤ s - k) : Dst E M p (s - k) j P (e - z) t := by
 have hk : 0 < 2 ^ k := Nat.pow_pos (by decide)
 have e1 : 2 ^ k * (M * sc p * tw (s - k)) = M * sc p * tw s := by
  have := tw_add k hs
  rw [Int.sub_add_cancel] at this
  rw [this, Nat.mul_left_comm]
 have e2 : 2 ^ k * (P * sc (e - z) * tw 0) = N * sc e * tw 0 := by
  have := sc_add z he
  rw [Int.sub_add_cancel] at this
  rw [this, ← Nat.mul_assoc, ← Nat.mul_assoc, Nat.mul_comm (2 ^ k), hP, ← Nat.mul_assoc]
 refine ⟨Nat.pos_of_ne_zero fun h0 => ?_, ?_, fun ht => ?_, fun ht => ?_, ?_, by omega, h.low.2.1, hs⟩
 · rw [h0, Nat.zero_mul] at hP
   have := Nat.mul_pos h.pos (Nat.pow_pos (by decide : 0 < 10) (n := z))
   omega
 · exact Nat.le_of_mul_le_mul_left (by rw [e1, e2]; exact h.lo) hk
 · exact Nat.eq_of_mul_eq_mul_left hk (by rw [e1, e2]; exact h.eq ht)
 · exact Nat.lt_of_mul_lt_mul_left (a := 2 ^ k) (by rw [e1, e2]; exact h.gt ht)
 · have e3 : 2 ^ k * ((M * sc p * tw (s - k) - P * sc (e - z) * tw 0) * E) = (M * sc p * tw s - N * sc e * tw 0) * E := by rw [← Nat.mul_assoc, Nat.mul_sub, e1, e2]
   have e4 : 2 ^ k * (j * (M * sc p * tw (s - k))) = j * (M * sc p * tw s) := by rw [Nat.mul_left_comm, e1]
   exact Nat.le_of_mul_le_mul_left (by rw [e3, e4]; exact h.err) hk
end
section
variable {E M : Nat} {p s : Int} {j N : Nat} {e : Int} {t : Bool}
theorem cut_zero {P Q c : Nat} {e f : Int} (h : P * sc e = Q * sc f) (hQ : Q < 10 * E) (hc : c = 0 ∨ 10 ^ c * E ≤ P) (he : -3000 ≤ e) (hf : -3000 ≤ f) : P % 10 ^ c = 0 := by
 rcases hc with rfl | hc
 · rw [Nat.pow_zero, Nat.mod_one]
 rcases Int.le_total f e with hfe | hfe
 · obtain ⟨z, rfl⟩ : ∃ z : Nat, e = f + z := ⟨(e - f).toNat, by omega⟩
   rw [sc_add z hf, ← Nat.mul_assoc] at h
   have hq : P * 10 ^ z = Q := Nat.eq_of_mul_eq_mul_right (sc_pos f) h
   have hle : P ≤ Q := by rw [← hq]; exact Nat.le_mul_of_pos_right _ (Nat.pow_pos (by decide))
   cases c with
   | zero => rw [Nat.pow_zero, Nat.mod_one]
   | succ c =>
     have h1 : 10 * E ≤ 10 ^ (c + 1) * E := Nat.mul_le_mul_right _ (by rw [Nat.pow_succ]; have := Nat.pow_pos (by decide : 0 < 10) (n := c); omega)
     omega
 · obtain ⟨z, rfl⟩ : ∃ z : Nat, f = e + z := ⟨(f - e).toNat, by omega⟩
   rw [sc_add z he, ← Nat.mul_assoc] at h
   have hq : P = Q * 10 ^ z := Nat.eq_of_mul_eq_mul_right (sc_pos e) h
   rcases Nat.lt_or_ge z c with hzc | hzc
   · have h1 : 10 ^ (z + 1) * E ≤ 10 ^ c * E := Nat.mul_le_mul_right _ (Nat.pow_le_pow_right (by decide) hzc)
     have h2 : Q * 10 ^ z < 10 ^ (z + 1) * E := by
      rw [Nat.pow_succ, Nat.mul_assoc, Nat.mul_comm Q]
      exact Nat.mul_lt_mul_of_pos_left hQ (Nat.pow_pos (by decide))
     omega
   · rw [hq]
     obtain ⟨y, rfl⟩ : ∃ y, z = c + y := ⟨z - c, by omega⟩
     rw [Nat.pow_add, Nat.mul_left_comm]
     exact Nat.mul_mod_right _ _
theorem dya_digits {P A : Nat} {e g : Int} (h : P * sc e * tw 0 = A * sc 0 * tw g) (hg : -3000 ≤ g) : ∃ Q f, P * sc e = Q * sc f ∧ -3000 ≤ f ∧ ((0 ≤ g ∧ Q = A * 2 ^ g.toNat) ∨ (g < 0 ∧ Q = A * 5 ^ (-g).toNat)) := by
 by_cases hlt : g < 0
 · obtain ⟨b, rfl⟩ : ∃ b : Nat, g = -(b : Int) := ⟨(-g).toNat, by omega⟩
   refine ⟨A * 5 ^ b, -(b : Int), ?_, hg, .inr ⟨hlt, by rw [show (- -(b : Int)).toNat = b by omega]⟩⟩
   have e1 := tw_add (a := -(b : Int)) b (by omega)
   have e2 := sc_add (a := -(b : Int)) b hg
   rw [Int.add_comm, ← Int.sub_eq_add_neg, Int.sub_self] at e1 e2
   rw [e1, e2, show (10 : Nat) = 5 * 2 from rfl, Nat.mul_pow] at h
   refine Nat.eq_of_mul_eq_mul_right (Nat.mul_pos (Nat.pow_pos (by decide : 0 < 2) (n := b)) (tw_pos (-(b : Int)))) ?_
   rw [h]
   simp only [Nat.mul_assoc, Nat.mul_comm, Nat.mul_left_comm]
 · have hge : 0 ≤ g := by omega
   obtain ⟨b, rfl⟩ : ∃ b : Nat, g = (b : Int) := ⟨g.toNat, by omega⟩
   refine ⟨A * 2 ^ b, 0, ?_, by omega, .inl ⟨hge, by rw [Int.toNat_natCast]⟩⟩
   have e1 := tw_add (a := 0) b (by omega)
   rw [Int.zero_add] at e1
   rw [e1] at h
   refine Nat.eq_of_mul_eq_mul_right (tw_pos 0) ?_
   rw [h]
   simp only [Nat.mul_assoc, Nat.mul_left_comm]
theorem gap {a b H : Nat} (hp : -(a : Int) ≤ p) (hs : -(b : Int) ≤ s) (ha : a ≤ 3000) (hb : b ≤ 4000) (hE : j * 2 ^ 55 * (10 ^ a * 2 ^ b) < E) (hY : M * sc p * tw s < 2 ^ 54 * (sc 0 * tw 0)) (hlt : H * (sc 0 * tw 0) < 2 * (M * sc p * tw s)) :
 2 * (j * (M * sc p * tw s)) < (2 * (M * sc p * tw s) - H * (sc 0 * tw 0)) * E := by
 have eU : sc 0 * tw 0 = sc (-(a : Int)) * tw (-(b : Int)) * (10 ^ a * 2 ^ b) := by
  have e1 := tw_add (a := -(b : Int)) b (by omega)
  have e2 := sc_add (a := -(a : Int)) a (by omega)
  rw [Int.add_comm, ← Int.sub_eq_add_neg, Int.sub_self] at e1 e2
  rw [e1, e2]
  simp only [Nat.mul_assoc, Nat.mul_comm, Nat.mul_left_comm]
 have eY : M * sc p * tw s = sc (-(a : Int)) * tw (-(b : Int)) * (M * 10 ^ (p + a).toNat * 2 ^ (s + b).toNat) := by
  have e1 := tw_add (a := -(b : Int)) (s + b).toNat (by omega)
  have e2 := sc_add (a := -(a : Int)) (p + a).toNat (by omega)
  rw [show -(b : Int) + ((s + b).toNat : Nat) = s by omega] at e1
  rw [show -(a : Int) + ((p + a).toNat : Nat) = p by omega] at e2
  rw [e1, e2]
  simp only [Nat.mul_assoc, Nat.mul_comm, Nat.mul_left_comm]
 generalize hD : sc (-(a : Int)) * tw (-(b : Int)) = D0 at eU eY
 generalize hY' : M * 10 ^ (p + a).toNat * 2 ^ (s + b).toNat = Y' at eY
 generalize hU' : 10 ^ a * 2 ^ b = U' at eU hE
 have hD0 : 0 < D0 := by rw [← hD]; exact Nat.mul_pos (sc_pos _) (tw_pos _)
 rw [eU, eY] at hY hlt
 rw [eU, eY]
 have e3 : 2 * (D0 * Y') - H * (D0 * U') = D0 * (2 * Y' - H * U') := by rw [Nat.mul_sub, Nat.mul_left_comm, Nat.mul_left_comm H]
 have h3 : H * U' < 2 * Y' := by
  rw [Nat.mul_left_comm, Nat.mul_left_comm 2] at hlt
  exact Nat.lt_of_mul_lt_mul_left hlt
 have h4 : Y' < 2 ^ 54 * U' := by
  rw [Nat.mul_left_comm] at hY
  exact Nat.lt_of_mul_lt_mul_left hY
 rw [e3, Nat.mul_left_comm j, Nat.mul_left_comm 2, Nat.mul_assoc]
 refine Nat.mul_lt_mul_of_pos_left ?_ hD0
 have h5 : 1 ≤ 2 * Y' - H * U' := by omega
 calc 2 * (j * Y') ≤ 2 * (j * (2 ^ 54 * U')) := Nat.mul_le_mul_left _ (Nat.mul_le_mul_left _ (Nat.le_of_lt h4))
  _ = j * 2 ^ 55 * U' := by rw [show (2 : Nat) ^ 55 = 2 * 2 ^ 54 from rfl]; simp only [Nat.mul_assoc, Nat.mul_left_comm]
  _ < E := hE
  _ = 1 * E := (Nat.one_mul E).symm
  _ ≤ (2 * Y' - H * U') * E := Nat.mul_le_mul_right _ h5
theorem Dst.round {a b q : Nat} (h : Dst E M p s j N e t) (_ : 0 < E) (hp : -(a : Int) ≤ p) (hs : -(b : Int) ≤ s) (ha : a ≤ 3000) (hb : b ≤ 4000) (hE : j * 2 ^ 55 * (10 ^ a * 2 ^ b) < E) (hY : M * sc p * tw s < 2 ^ 54 * (sc 0 * tw 0))
 (hd : ∀ H : Nat, 2 * (M * sc p * tw s) = H * (sc 0 * tw 0) → t = false) (h0 : q * (sc 0 * tw 0) ≤ N * sc e * tw 0) (h1 : N * sc e * tw 0 < (q + 1) * (sc 0 * tw 0)) :
 q * (sc 0 * tw 0) ≤ M * sc p * tw s ∧ M * sc p * tw s < (q + 1) * (sc 0 * tw 0) ∧
 (2 * (N * sc e * tw 0) < (2 * q + 1) * (sc 0 * tw 0) → 2 * (M * sc p * tw s) < (2 * q + 1) * (sc 0 * tw 0)) ∧
 ((2 * q + 1) * (sc 0 * tw 0) < 2 * (N * sc e * tw 0) → (2 * q + 1) * (sc 0 * tw 0) < 2 * (M * sc p * tw s)) ∧
 ((2 * q + 1) * (sc 0 * tw 0) = 2 * (N * sc e * tw 0) → (t = false → (2 * q + 1) * (sc 0 * tw 0) = 2 * (M * sc p * tw s)) ∧ (t = true → (2 * q + 1) * (sc 0 * tw 0) < 2 * (M * sc p * tw s))) := by
 have hlo := h.lo
 have heq := h.eq
 have hgt := h.gt
 have herr := h.err
 have hgap := fun (H : Nat) hy => gap (H := H) hp hs ha hb hE hY hy
 clear h hE hY hp hs ha hb
 generalize M * sc p * tw s = Y at *
 generalize N * sc e * tw 0 = V at *
 generalize sc 0 * tw 0 = U at *
 have none : ∀ H : Nat, 2 * V < H * U → 2 * Y < H * U := fun H hH => by
  rcases Nat.lt_or_ge (2 * Y) (H * U) with hx | hx
  · exact hx
  · exfalso
    rcases Nat.lt_or_ge (H * U) (2 * Y) with hy | hy
    · have hg := hgap H hy
      have h2 : 2 * Y - H * U ≤ 2 * (Y - V) := by omega
      have h3 := Nat.mul_le_mul_right E h2
      rw [Nat.mul_assoc 2 (Y - V)] at h3
      omega
    · have hq := heq (hd H (by omega))
      omega
 refine ⟨Nat.le_trans h0 hlo, ?_, none _, fun hx => by omega, fun hx => ⟨fun ht => by rw [hx, heq ht], fun ht => by have := hgt ht; omega⟩⟩
 have := none (2 * (q + 1)) (by rw [Nat.mul_assoc]; omega)
 rw [Nat.mul_assoc] at this
 omega
end
end Go.Proofs.YtjapgpmoojfhnaaGreatDoor.Fl
namespace Go.Proofs.YtjapgpmoojfhnaaGreatDoor.Fl
open Ieee
def bigE : Nat := 10 ^ 199 * (10 ^ 200 * (10 ^ 200 * 10 ^ 200))
def pA : Nat := 731
def pB : Nat := 400
def pC : Nat := 1000
def pD : Nat := 1100
def pE : Nat := 799
theorem bigE_pos : 0 < bigE := of_decide_eq_true (by kernel_rfl)
theorem pow5 (x c a b d e : Nat) : x ^ c * (x ^ a * (x ^ b * (x ^ d * x ^ e))) = x ^ (c + (a + (b + (d + e)))) := by rw [Nat.pow_add, Nat.pow_add, Nat.pow_add, Nat.pow_add]
theorem bigE_pow (c : Nat) : 10 ^ c * bigE = 10 ^ (c + pE) := (pow5 10 c 199 200 200 200).trans (congrArg (fun n => 10 ^ n) (by unfold pE; omega))
theorem bigE_small {j : Nat} (hj : j ≤ 5000) : j * 2 ^ 55 * (10 ^ pA * 2 ^ 0) < bigE := by
 refine Nat.lt_of_le_of_lt (Nat.mul_le_mul_right _ (Nat.mul_le_mul_right _ hj)) ?_
 exact of_decide_eq_true (by kernel_rfl)
theorem bigE_great {j : Nat} (hj : j ≤ 5000) : j * 2 ^ 55 * (10 ^ pB * 2 ^ pC) < bigE := by
 refine Nat.lt_of_le_of_lt (Nat.mul_le_mul_right _ (Nat.mul_le_mul_right _ hj)) ?_
 exact of_decide_eq_true (by kernel_rfl)
theorem dig_five {A b : Nat} (hA : A ≤ 2 ^ 55) (hb : b ≤ pD) : A * 5 ^ b < 10 * bigE := by
 refine Nat.lt_of_le_of_lt (Nat.mul_le_mul hA (Nat.pow_le_pow_right (by decide) hb)) ?_
 exact of_decide_eq_true (by kernel_rfl)
theorem dig_two {A b : Nat} (hA : A ≤ 2 ^ 55) (hb : b ≤ 2 * pD) : A * 2 ^ b < 10 * bigE := by
 refine Nat.lt_of_le_of_lt (Nat.mul_le_mul hA (Nat.pow_le_pow_right (by decide) hb)) ?_
 exact of_decide_eq_true (by kernel_rfl)
theorem vN_link {M k : Nat} {p s : Int} (hp : -3000 ≤ p) (hs : s + (k : Int) = 1074) (h4 : -4000 ≤ s) : vN M p * (sc 0 * tw 0) = vD p * 2 ^ k * (M * sc p * tw s) := by
 have e1 : 2 ^ k * tw s = 2 ^ 1074 * tw 0 := by
  have a1 := tw_add (a := s) k h4
  have a2 := tw_add (a := 0) 1074 (by decide)
  rw [← a1, ← a2, hs]
  rfl
 unfold vN vD
 generalize (2 : Nat) ^ 1074 = Z at e1 ⊢
 by_cases h0 : 0 ≤ p
 · rw [if_pos h0, if_pos h0]
   have a3 := sc_add (a := 0) p.toNat (by decide)
   rw [show (0 : Int) + (p.toNat : Int) = p by omega] at a3
   rw [a3]
   calc M * 10 ^ p.toNat * Z * (sc 0 * tw 0) = M * 10 ^ p.toNat * sc 0 * (Z * tw 0) := by simp only [Nat.mul_assoc, Nat.mul_left_comm]
    _ = M * 10 ^ p.toNat * sc 0 * (2 ^ k * tw s) := by rw [e1]
    _ = _ := by simp only [Nat.mul_assoc, Nat.mul_left_comm, Nat.one_mul]
 · rw [if_neg h0, if_neg h0]
   have a3 := sc_add (a := p) (-p).toNat hp
   rw [show p + ((-p).toNat : Int) = 0 by omega] at a3
   rw [a3]
   calc M * Z * (10 ^ (-p).toNat * sc p * tw 0) = M * 10 ^ (-p).toNat * sc p * (Z * tw 0) := by simp only [Nat.mul_assoc, Nat.mul_left_comm]
    _ = M * 10 ^ (-p).toNat * sc p * (2 ^ k * tw s) := by rw [e1]
    _ = _ := by simp only [Nat.mul_assoc, Nat.mul_left_comm]
theorem near_dec {M k q m : Nat} {p s : Int} (hp : -3000 ≤ p) (hs : s + (k : Int) = 1074) (h4 : -4000 ≤ s) (hk : k = 0 ∨ 4503599627370496 ≤ q) (hq : q < 9007199254740992)
 (h0 : q * (sc 0 * tw 0) ≤ M * sc p * tw s) (h1 : M * sc p * tw s < (q + 1) * (sc 0 * tw 0))
 (hm : (m = q ∧ (2 * (M * sc p * tw s) < (2 * q + 1) * (sc 0 * tw 0) ∨ (2 * (M * sc p * tw s) = (2 * q + 1) * (sc 0 * tw 0) ∧ q % 2 = 0))) ∨ (m = q + 1 ∧ ((2 * q + 1) * (sc 0 * tw 0) < 2 * (M * sc p * tw s) ∨ (2 * (M * sc p * tw s) = (2 * q + 1) * (sc 0 * tw 0) ∧ q % 2 = 1)))) :
 Near (vN M p) (vD p) (min (k * 4503599627370496 + m) 9218868437227405312) := by
 have hl := vN_link (M := M) hp hs h4
 have hU : 0 < sc 0 * tw 0 := Nat.mul_pos (sc_pos _) (tw_pos _)
 have hd := vD_pos p
 have hk2 : 0 < 2 ^ k := Nat.pow_pos (by decide)
 generalize vN M p = n at *
 generalize vD p = d at *
 generalize M * sc p * tw s = Y at *
 generalize sc 0 * tw 0 = U at *
 have hDK : 0 < d * 2 ^ k := Nat.mul_pos hd hk2
 have tr : ∀ a : Nat, a * 2 ^ k * d * U = d * 2 ^ k * (a * U) := fun a => by simp only [Nat.mul_assoc, Nat.mul_comm, Nat.mul_left_comm]
 have le1 : ∀ a : Nat, a * U ≤ Y → a * 2 ^ k * d ≤ n := fun a h => Nat.le_of_mul_le_mul_right (by rw [tr, hl]; exact Nat.mul_le_mul_left _ h) hU
 have lt1 : ∀ a : Nat, Y < a * U → n < a * 2 ^ k * d := fun a h => Nat.lt_of_mul_lt_mul_right (a := U) (by rw [tr, hl]; exact Nat.mul_lt_mul_of_pos_left h hDK)
 have e2 : 2 * n * U = d * 2 ^ k * (2 * Y) := by rw [Nat.mul_assoc, hl, Nat.mul_left_comm]
 have lt2 : ∀ a : Nat, 2 * Y < a * U → 2 * n < a * 2 ^ k * d := fun a h => Nat.lt_of_mul_lt_mul_right (a := U) (by rw [tr, e2]; exact Nat.mul_lt_mul_of_pos_left h hDK)
 have gt2 : ∀ a : Nat, a * U < 2 * Y → a * 2 ^ k * d < 2 * n := fun a h => Nat.lt_of_mul_lt_mul_right (a := U) (by rw [tr, e2]; exact Nat.mul_lt_mul_of_pos_left h hDK)
 have eq2 : ∀ a : Nat, 2 * Y = a * U → 2 * n = a * 2 ^ k * d := fun a h => Nat.eq_of_mul_eq_mul_right hU (by rw [tr, e2, h])
 refine near_of_rnd hd hk hq (le1 _ h0) (lt1 _ h1) ?_
 rcases hm with ⟨rfl, hx | ⟨hx, h2⟩⟩ | ⟨rfl, hx | ⟨hx, h2⟩⟩
 · exact .inl ⟨rfl, .inl (lt2 _ hx)⟩
 · exact .inl ⟨rfl, .inr ⟨eq2 _ hx, h2⟩⟩
 · exact .inr ⟨rfl, .inl (gt2 _ hx)⟩
 · exact .inr ⟨rfl, .inr ⟨eq2 _ hx, h2⟩⟩
end Go.Proofs.YtjapgpmoojfhnaaGreatDoor.Fl
