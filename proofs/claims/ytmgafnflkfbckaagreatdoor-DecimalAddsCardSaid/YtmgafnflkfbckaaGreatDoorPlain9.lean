/- Rounding: the reference's test is the program's; how near a rounded number is. -/
import Derived.Test.YtmgafnflkfbckaaGreatDoorPlain8
namespace Go.Proofs.YtmgafnflkfbckaaGreatDoor.Dc
open Go Go.Lib

def halfL (k : Nat) : List Nat := 5 :: List.replicate (k - 1) 0
def goesUp2 (keep rest : List Nat) : Bool := decide (0 < sizeL rest (halfL rest.length)) || (decide (sizeL rest (halfL rest.length) = 0) && decide (keep.getLastD 0 % 2 = 1))
theorem goesUp_eq {keep rest : List Nat} (hd : Digs rest) (hne : rest ≠ []) (hl : ∀ u, rest.getLast? = some u → u ≠ 0) : goesUp2 keep rest = goesUp keep rest := by
  cases rest with
  | nil => exact absurd rfl hne
  | cons x r =>
    have hr : Digs r := fun y hy => hd y (by simp [hy])
    have hs : sizeL r (List.replicate r.length 0) = cmpN (num r) 0 := by rw [sizeL_num hr (digs_zeros _) (by simp), num_zeros]
    have hz : sizeL r (List.replicate r.length 0) = if 0 < r.length then 1 else 0 := by
      rw [hs]
      cases hr2 : r with
      | nil => rfl
      | cons y r' =>
        have h1 := num_last (l := x :: r) hd hl hne
        have h2 : num r ≠ 0 := by
          intro e
          rw [num, e, Nat.add_zero, hr2, List.length_cons, Nat.pow_succ, ← Nat.mul_assoc] at h1
          exact h1 (Nat.mul_mod_left _ _)
        rw [hr2] at h2
        rw [cmpN, if_neg (by omega), if_pos (by omega)]; simp
    simp only [goesUp2, goesUp, halfL, List.length_cons, Nat.add_sub_cancel, sizeL, hz, List.getD_cons_zero]
    by_cases h1 : x < 5
    · simp [h1]; omega
    · by_cases h2 : 5 < x
      · simp [h1, h2]
      · obtain rfl : x = 5 := by omega
        by_cases h3 : 0 < r.length
        · simp [h3]
        · simp [h3]
theorem incL_num : ∀ l : List Nat, Digs l → num (incL l).1 + (if (incL l).2 = true then 10 ^ l.length else 0) = num l + 1 ∧ Digs (incL l).1 ∧ (incL l).1.length = l.length
  | [], _ => ⟨by simp [incL, num], fun x hx => by simp [incL] at hx, rfl⟩
  | x :: l, h => by
    obtain ⟨h1, h2, h3⟩ := incL_num l fun y hy => h y (by simp [hy])
    have hx := h x (by simp)
    cases hq : incL l with
    | mk r b =>
      rw [hq] at h1 h2 h3
      simp only at h1 h2 h3
      cases b with
      | true =>
        rw [if_pos rfl] at h1
        by_cases h9 : x = 9
        · have e : incL (x :: l) = (0 :: r, true) := by simp [incL, hq, h9]
          rw [e]
          refine ⟨?_, ?_, by simp [h3]⟩
          · simp only [num, if_true, List.length_cons, Nat.pow_succ]
            subst h9; omega
          · intro y hy
            simp only [List.mem_cons] at hy
            rcases hy with rfl | hy
            · omega
            · exact h2 y hy
        · have e : incL (x :: l) = ((x + 1) :: r, false) := by simp [incL, hq, h9]
          rw [e]
          refine ⟨?_, ?_, by simp [h3]⟩
          · simp only [num, h3, Bool.false_eq_true, if_false, Nat.add_mul, Nat.one_mul]
            omega
          · intro y hy
            simp only [List.mem_cons] at hy
            rcases hy with rfl | hy
            · omega
            · exact h2 y hy
      | false =>
        have e : incL (x :: l) = (x :: r, false) := by simp [incL, hq]
        rw [e]
        rw [if_neg (by simp)] at h1
        refine ⟨?_, ?_, by simp [h3]⟩
        · simp only [num, h3, Bool.false_eq_true, if_false]
          omega
        · intro y hy
          simp only [List.mem_cons] at hy
          rcases hy with rfl | hy
          · omega
          · exact h2 y hy
/-- With a zero ahead nothing is carried out. -/
theorem inc_zero {l : List Nat} (h : Digs l) : num (incL (0 :: l)).1 = num l + 1 ∧ Digs (incL (0 :: l)).1 ∧ (incL (0 :: l)).1.length = l.length + 1 := by
  have h0 : Digs (0 :: l) := fun y hy => by
    simp only [List.mem_cons] at hy
    rcases hy with rfl | hy
    · omega
    · exact h y hy
  obtain ⟨h1, h2, h3⟩ := incL_num (0 :: l) h0
  refine ⟨?_, h2, h3⟩
  have hc : (incL (0 :: l)).2 = false := by
    cases hq : incL l with
    | mk r b => cases b <;> simp [incL, hq]
  rw [hc] at h1
  simpa [num] using h1
/-- The reference's Round. -/
def refRoundP (x : D) (places : Int) : D :=
  if -places - x.e ≤ 0 ∨ x.c.length = 0 then x
  else if (x.c.length : Int) < -places - x.e then ⟨false, [], 0⟩
  else
    let n := ((x.c.length : Int) - (-places - x.e)).toNat
    norm x.neg (if goesUp2 (0 :: x.c.take n) (x.c.drop n) = true then (incL (0 :: x.c.take n)).1 else 0 :: x.c.take n) (-places)
theorem last_drop {l : List Nat} {n : Nat} (hn : n < l.length) : (l.drop n).getLast? = l.getLast? := by
  rw [List.getLast?_drop, if_neg (by omega)]
theorem refRoundP_eq {x : D} (h : Normal x) (p : Int) : refRoundP x p = roundP x p := by
  rw [refRoundP, roundP]
  by_cases h1 : x.c.length = 0 ∨ -p - x.e ≤ 0
  · rw [if_pos h1, if_pos h1.symm]
  · rw [if_neg h1, if_neg (fun h => h1 h.symm)]
    by_cases h2 : (x.c.length : Int) - (-p - x.e) < 0
    · rw [if_pos h2, if_pos (by omega)]
    · rw [if_neg h2, if_neg (by omega)]
      have hn : ((x.c.length : Int) - (-p - x.e)).toNat < x.c.length := by omega
      simp only
      rw [goesUp_eq (fun y hy => h.1 y (List.mem_of_mem_drop hy)) (by intro e; have := congrArg List.length e; rw [List.length_drop, List.length_nil] at this; omega) (by rw [last_drop hn]; exact h.2.2.2)]

/-- A rounded number: near, and not rounded again. -/
theorem roundP_near {x : D} (h : Normal x) (p : Int) {f : Int} (fx : f ≤ x.e) (fp : f ≤ -p) :
    Normal (roundP x p) ∧ Under f (roundP x p) ∧ ((roundP x p).c = [] ∨ -p ≤ (roundP x p).e) ∧
    2 * (V (roundP x p) f - V x f) ≤ (10 : Int) ^ (-p - f).toNat ∧ -((10 : Int) ^ (-p - f).toNat) ≤ 2 * (V (roundP x p) f - V x f) := by
  have hP : (0 : Int) < (10 : Int) ^ (-p - f).toNat := Int.pow_pos (by omega)
  rw [roundP]
  by_cases h1 : x.c.length = 0 ∨ -p - x.e ≤ 0
  · rw [if_pos h1]
    refine ⟨h, Or.inr fx, ?_, by omega, by omega⟩
    rcases h1 with h1 | h1
    · exact Or.inl (List.length_eq_zero_iff.1 h1)
    · exact Or.inr (by omega)
  · rw [if_neg h1]
    have hlt := num_lt h.1
    obtain ⟨k, hk⟩ : ∃ k : Nat, -p - x.e = (k : Int) := ⟨(-p - x.e).toNat, by omega⟩
    have hk0 : 0 < k := by omega
    obtain ⟨M, hM⟩ : ∃ M : Nat, (x.e - f).toNat = M := ⟨_, rfl⟩
    have hpf : (-p - f).toNat = k + M := by omega
    rw [hpf]
    rw [hk]
    have hX : V x f = sgn x.neg ((num x.c * 10 ^ M : Nat) : Int) := by rw [V, hM]; simp
    have hPM : (10 : Int) ^ (k + M) = ((10 ^ k * 10 ^ M : Nat) : Int) := by rw [Int.pow_add]; simp
    have hM0 : 0 < 10 ^ M := Nat.pow_pos (by omega)
    have hk10 : (10 : Nat) ^ k = 10 * 10 ^ (k - 1) := by rw [← Nat.pow_succ']; congr 1; omega
    by_cases h2 : (x.c.length : Int) - (k : Int) < 0
    · rw [if_pos h2]
      refine ⟨⟨fun y hy => by simp at hy, fun _ => ⟨rfl, rfl⟩, fun u hu => by simp at hu, fun u hu => by simp at hu⟩, Or.inl rfl, Or.inl rfl, ?_⟩
      rw [V_nil rfl, hX, hPM]
      have h3 : 10 ^ x.c.length ≤ 10 ^ (k - 1) := Nat.pow_le_pow_right (by omega) (by omega)
      have h4 : 2 * num x.c * 10 ^ M ≤ 10 ^ k * 10 ^ M := Nat.mul_le_mul_right _ (by omega)
      rw [Nat.mul_assoc] at h4
      cases x.neg <;> simp only [sgn] <;> simp only [Bool.false_eq_true, if_false, if_true] <;> omega
    · rw [if_neg h2]
      obtain ⟨n, hn⟩ : ∃ n, ((x.c.length : Int) - (k : Int)).toNat = n := ⟨_, rfl⟩
      simp only
      rw [hn]
      have hT : Digs (x.c.take n) := fun y hy => h.1 y (List.mem_of_mem_take hy)
      have hR : Digs (x.c.drop n) := fun y hy => h.1 y (List.mem_of_mem_drop hy)
      have hRl : (x.c.drop n).length = k := by rw [List.length_drop]; omega
      have hsplit : num x.c = num (x.c.take n) * 10 ^ k + num (x.c.drop n) := by
        rw [← hRl, ← num_append, List.take_append_drop]
      obtain ⟨up, hup⟩ : ∃ up, goesUp (0 :: x.c.take n) (x.c.drop n) = up := ⟨_, rfl⟩
      obtain ⟨q, hq⟩ : ∃ q, num (x.c.take n) = q := ⟨_, rfl⟩
      obtain ⟨r, hr⟩ : ∃ r, num (x.c.drop n) = r := ⟨_, rfl⟩
      have hrr : (up = true → 10 ^ k ≤ 2 * r) ∧ (up = false → 2 * r ≤ 10 ^ k) := by
        cases hd : x.c.drop n with
        | nil => rw [hd] at hRl; simp at hRl; omega
        | cons y t =>
          rw [hd] at hup hr hRl hR
          have htl : t.length = k - 1 := by simp at hRl; omega
          have ht := num_lt (l := t) fun z hz => hR z (by simp [hz])
          rw [htl] at ht
          rw [num, htl] at hr
          simp only [goesUp, List.getD_cons_zero, List.length_cons] at hup
          constructor
          · intro hu
            rw [hu] at hup
            have hy : 5 ≤ y := by simp at hup; omega
            have := Nat.mul_le_mul_right (10 ^ (k - 1)) hy
            omega
          · intro hu
            rw [hu] at hup
            simp at hup
            by_cases hy5 : y = 5
            · obtain rfl : t = [] := (hup.2 hy5).1
              have hk1 : k - 1 = 0 := by rw [← htl]; rfl
              rw [hk1] at hr hk10
              simp [num] at hr
              omega
            · have := Nat.mul_le_mul_right (10 ^ (k - 1)) (show y ≤ 4 by omega)
              omega
      rw [hup]
      obtain ⟨L, hL⟩ : ∃ L, (if up = true then (incL (0 :: x.c.take n)).1 else 0 :: x.c.take n) = L := ⟨_, rfl⟩
      rw [hL]
      obtain ⟨i1, i2, i3⟩ := inc_zero hT
      have hLd : Digs L := by
        rw [← hL]; split
        · exact i2
        · intro y hy
          simp only [List.mem_cons] at hy
          rcases hy with rfl | hy
          · omega
          · exact hT y hy
      have hLn : num L = q + (if up = true then 1 else 0) := by
        rw [← hL, ← hq]; split
        · exact i1
        · simp [num]
      have hv := norm_val (neg := x.neg) (l := L) (e := -p) (f := f) fp
      have hve := norm_e x.neg L (-p)
      refine ⟨norm_normal hLd, hv.2, ?_, ?_⟩
      · rw [norm]
        by_cases hl : lead L = []
        · rw [if_pos hl]; exact Or.inl rfl
        · rw [if_neg hl]; right; show -p ≤ -p + (trail (lead L) : Int); omega
      · rw [hv.1, hX, hPM, hsplit, hq, hr, hpf, hLn]
        have hLv : ((q + (if up = true then 1 else 0) : Nat) : Int) * (10 : Int) ^ (k + M) = (((q + (if up = true then 1 else 0)) * 10 ^ k * 10 ^ M : Nat) : Int) := by
          rw [Int.pow_add]; simp [Int.mul_assoc]
        rw [hLv, Nat.add_mul, Nat.add_mul, Nat.add_mul]
        cases up with
        | true =>
          have h5 := hrr.1 rfl
          have hrk : r < 10 ^ k := by rw [← hr, ← hRl]; exact num_lt hR
          have h6 := Nat.mul_le_mul_right (10 ^ M) h5
          have h7 := Nat.mul_le_mul_right (10 ^ M) (Nat.le_of_lt hrk)
          rw [Nat.mul_assoc] at h6
          simp only [if_true, Nat.one_mul]
          generalize q * 10 ^ k * 10 ^ M = A at *
          generalize r * 10 ^ M = B at *
          generalize 10 ^ k * 10 ^ M = C at *
          cases x.neg <;> simp only [sgn] <;> simp only [Bool.false_eq_true, if_false, if_true] <;> omega
        | false =>
          have h5 := hrr.2 rfl
          have h6 := Nat.mul_le_mul_right (10 ^ M) h5
          rw [Nat.mul_assoc] at h6
          simp only [Bool.false_eq_true, if_false, Nat.zero_mul]
          generalize q * 10 ^ k * 10 ^ M = A at *
          generalize r * 10 ^ M = B at *
          generalize 10 ^ k * 10 ^ M = C at *
          cases x.neg <;> simp only [sgn] <;> simp only [Bool.false_eq_true, if_false, if_true] <;> omega
theorem roundP_again {x : D} (p : Int) (h : x.c = [] ∨ -p ≤ x.e) : roundP x p = x := by
  rw [roundP, if_pos]
  rcases h with h | h
  · left; rw [h]; rfl
  · right; omega
end Go.Proofs.YtmgafnflkfbckaaGreatDoor.Dc
