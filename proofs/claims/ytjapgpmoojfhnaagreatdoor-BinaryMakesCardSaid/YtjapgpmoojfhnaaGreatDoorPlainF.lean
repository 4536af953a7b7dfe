/- Rows of limbs of nine digits: what a round of product does with them, and the text of such a row. -/
import Derived.Test.YtjapgpmoojfhnaaGreatDoorPlainA
import Derived.Test.YtjapgpmoojfhnaaGreatDoorWalkN
import Derived.Lib.TrimByte
import Derived.Lib.Repeat
namespace Go.Proofs.YtjapgpmoojfhnaaGreatDoor.Fl
open Go.Lib

/-- The number of a row of limbs, the lowest first. -/
def limbV : List Nat → Nat
  | [] => 0
  | x :: d => x + 1000000000 * limbV d
def Limbs (d : List Nat) : Prop := ∀ x ∈ d, x < 1000000000
/-- One pass: what lies in the row, and what is carried out of it. -/
def passL (b : Nat) : Nat → List Nat → List Nat
  | _, [] => []
  | c, x :: d => (c + x * b) % 1000000000 :: passL b ((c + x * b) / 1000000000) d
def passC (b : Nat) : Nat → List Nat → Nat
  | c, [] => c
  | c, x :: d => passC b ((c + x * b) / 1000000000) d
theorem pass_len (b : Nat) : ∀ (c : Nat) (d : List Nat), (passL b c d).length = d.length
  | _, [] => rfl
  | c, x :: d => by rw [passL, List.length_cons, List.length_cons, pass_len b _ d]
theorem limb_append : ∀ (d e : List Nat), limbV (d ++ e) = limbV d + 1000000000 ^ d.length * limbV e
  | [], e => by simp [limbV]
  | x :: d, e => by
    rw [List.cons_append, limbV, limbV, limb_append d e, List.length_cons, Nat.pow_succ, Nat.mul_add, ← Nat.add_assoc, ← Nat.mul_assoc, Nat.mul_comm 1000000000 (1000000000 ^ d.length)]
theorem pass_val (b : Nat) : ∀ (c : Nat) (d : List Nat), limbV (passL b c d) + 1000000000 ^ d.length * passC b c d = c + b * limbV d
  | c, [] => by simp [passL, passC, limbV]
  | c, x :: d => by
    have ih := pass_val b ((c + x * b) / 1000000000) d
    rw [passL, passC, limbV, limbV, List.length_cons, Nat.pow_succ]
    have e1 : 1000000000 ^ d.length * 1000000000 * passC b ((c + x * b) / 1000000000) d = 1000000000 * (1000000000 ^ d.length * passC b ((c + x * b) / 1000000000) d) := by rw [Nat.mul_comm (1000000000 ^ d.length), Nat.mul_assoc]
    rw [e1]
    have e2 := Nat.div_add_mod (c + x * b) 1000000000
    rw [Nat.mul_add b x, show b * (1000000000 * limbV d) = 1000000000 * (b * limbV d) by rw [← Nat.mul_assoc, Nat.mul_comm b, Nat.mul_assoc], Nat.mul_comm b x]
    generalize 1000000000 ^ d.length * passC b ((c + x * b) / 1000000000) d = Y at *
    generalize b * limbV d = Z at *
    generalize limbV (passL b ((c + x * b) / 1000000000) d) = U at *
    omega
theorem carry_lt {b c x : Nat} (hb : b ≤ 1000000000) (hc : c < 1000000000) (hx : x < 1000000000) : (c + x * b) / 1000000000 < 1000000000 ∧ c + x * b < 1000000000000000000 := by
  have h : x * b ≤ 999999999 * 1000000000 := Nat.mul_le_mul (by omega) hb
  omega
theorem pass_limbs {b : Nat} (hb : b ≤ 1000000000) : ∀ (c : Nat) (d : List Nat), c < 1000000000 → Limbs d → Limbs (passL b c d) ∧ passC b c d < 1000000000
  | c, [], hc, _ => ⟨by intro x hx; simp [passL] at hx, hc⟩
  | c, x :: d, hc, hd => by
    have hx : x < 1000000000 := hd x (by simp)
    obtain ⟨h1, h2⟩ := pass_limbs hb ((c + x * b) / 1000000000) d (carry_lt hb hc hx).1 (fun y hy => hd y (by simp [hy]))
    refine ⟨?_, h2⟩
    intro y hy
    rw [passL] at hy
    rcases List.mem_cons.1 hy with rfl | hy
    · omega
    · exact h1 y hy
/-- A round of the outer loop. -/
def roundL (b : Nat) (d : List Nat) : List Nat := passL b 0 d ++ (if 0 < passC b 0 d then [passC b 0 d] else [])
theorem round_val (b : Nat) (d : List Nat) : limbV (roundL b d) = b * limbV d := by
  have h := pass_val b 0 d
  unfold roundL
  rw [limb_append, pass_len]
  by_cases h0 : 0 < passC b 0 d
  · rw [if_pos h0]
    simp only [limbV, Nat.mul_zero, Nat.add_zero]
    omega
  · have e : passC b 0 d = 0 := by omega
    rw [if_neg h0]
    simp only [limbV]
    rw [e] at h
    omega
theorem round_limbs {b : Nat} (hb : b ≤ 1000000000) {d : List Nat} (hd : Limbs d) : Limbs (roundL b d) ∧ (roundL b d).length ≤ d.length + 1 ∧ d.length ≤ (roundL b d).length := by
  obtain ⟨h1, h2⟩ := pass_limbs hb 0 d (by decide) hd
  unfold roundL
  refine ⟨?_, ?_, ?_⟩
  · intro x hx
    rcases List.mem_append.1 hx with hx | hx
    · exact h1 x hx
    · split at hx
      · simp at hx; omega
      · simp at hx
  · rw [List.length_append, pass_len]
    split <;> simp
  · rw [List.length_append, pass_len]; omega
/-- What the rounds leave: n factors, nine at a time. -/
def prodL (base : Nat) : Nat → List Nat → List Nat
  | 0, d => d
  | n + 1, d => prodL base (n + 1 - min (n + 1) 9) (roundL (base ^ min (n + 1) 9) d)
termination_by n => n
decreasing_by omega
theorem prod_step {base n : Nat} (h : 0 < n) (d : List Nat) : prodL base n d = prodL base (n - min n 9) (roundL (base ^ min n 9) d) := by
  obtain ⟨k, rfl⟩ : ∃ k, n = k + 1 := ⟨n - 1, by omega⟩
  rw [prodL]
theorem prod_val (base : Nat) : ∀ (n : Nat) (d : List Nat), limbV (prodL base n d) = limbV d * base ^ n := by
  intro n
  induction n using Nat.strongRecOn with
  | _ n ih =>
    intro d
    by_cases h : n = 0
    · subst h; rw [prodL]; simp
    · rw [prod_step (by omega), ih _ (by omega), round_val, Nat.mul_comm _ (limbV d), Nat.mul_assoc, ← Nat.pow_add]
      congr 2; omega
theorem base_pow {base k : Nat} (hb : base ≤ 10) (hk : k ≤ 9) : base ^ k ≤ 1000000000 :=
  Nat.le_trans (Nat.pow_le_pow_left hb k) (Nat.le_trans (Nat.pow_le_pow_right (by decide) hk) (by decide))
theorem prod_limbs {base : Nat} (hb : base ≤ 10) : ∀ (n : Nat) (d : List Nat), Limbs d → Limbs (prodL base n d) ∧ (prodL base n d).length ≤ d.length + n := by
  intro n
  induction n using Nat.strongRecOn with
  | _ n ih =>
    intro d hd
    by_cases h : n = 0
    · subst h; rw [prodL]; exact ⟨hd, by omega⟩
    · rw [prod_step (by omega)]
      obtain ⟨h1, h2, _⟩ := round_limbs (base_pow hb (Nat.min_le_right n 9)) hd
      obtain ⟨h3, h4⟩ := ih (n - min n 9) (by omega) _ h1
      exact ⟨h3, by omega⟩
/-- The lowest k digits of a number, the lowest first. -/
def fixL : Nat → Nat → List Nat
  | 0, _ => []
  | k + 1, u => u % 10 :: fixL k (u / 10)
theorem fix_len : ∀ k u, (fixL k u).length = k
  | 0, _ => rfl
  | k + 1, u => by rw [fixL, List.length_cons, fix_len k]
theorem fix_add : ∀ (k l u : Nat), fixL (k + l) u = fixL k u ++ fixL l (u / 10 ^ k)
  | 0, l, u => by simp [fixL]
  | k + 1, l, u => by
    rw [show k + 1 + l = (k + l) + 1 by omega, fixL, fixL, fix_add k l (u / 10), List.cons_append, Nat.div_div_eq_div_mul, Nat.pow_succ, Nat.mul_comm 10]
theorem fix_mod : ∀ (k u v : Nat), fixL k (u + 10 ^ k * v) = fixL k u
  | 0, _, _ => rfl
  | k + 1, u, v => by
    have e : 10 ^ (k + 1) * v = 10 * (10 ^ k * v) := by rw [Nat.pow_succ, Nat.mul_comm (10 ^ k), Nat.mul_assoc]
    rw [fixL, fixL, e]
    congr 1
    · omega
    · rw [show (u + 10 * (10 ^ k * v)) / 10 = u / 10 + 10 ^ k * v by omega]
      exact fix_mod k _ _
theorem fix_dig : ∀ (k u : Nat), u < 10 ^ k → fixL k u = digL u ++ List.replicate (k - (digL u).length) 0 ∧ (digL u).length ≤ k
  | 0, u, h => by
    have : u = 0 := by simpa using h
    subst this
    rw [digL_zero]
    exact ⟨rfl, by simp⟩
  | k + 1, u, h => by
    have h2 : u / 10 < 10 ^ k := by rw [Nat.div_lt_iff_lt_mul (by decide), ← Nat.pow_succ]; exact h
    obtain ⟨a1, a2⟩ := fix_dig k (u / 10) h2
    by_cases h0 : u = 0
    · subst h0
      rw [digL_zero] at *
      have e : fixL k 0 = List.replicate k 0 := by simpa using a1
      rw [fixL, Nat.zero_div, e]
      exact ⟨by simp [List.replicate_succ], by simp⟩
    · rw [digL_pos h0, fixL, a1]
      exact ⟨by simp, by simp; exact a2⟩
theorem fix_limb : ∀ (d : List Nat), Limbs d → fixL (9 * d.length) (limbV d) = (d.map (fixL 9)).flatten ∧ limbV d < 10 ^ (9 * d.length)
  | [], _ => ⟨rfl, by simp [limbV]⟩
  | x :: d, h => by
    have hx : x < 1000000000 := h x (by simp)
    obtain ⟨h1, h2⟩ := fix_limb d (fun y hy => h y (by simp [hy]))
    rw [List.length_cons, show 9 * (d.length + 1) = 9 + 9 * d.length by omega, limbV, fix_add, List.map_cons, List.flatten_cons]
    have e : (10 : Nat) ^ 9 = 1000000000 := by decide
    refine ⟨?_, ?_⟩
    · have h3 := fix_mod 9 x (limbV d)
      rw [e] at h3
      rw [h3, e, show (x + 1000000000 * limbV d) / 1000000000 = limbV d by omega, h1]
    · rw [Nat.pow_add, e]
      generalize 10 ^ (9 * d.length) = Y at *
      omega
def digB8 (l : List Nat) : List UInt8 := l.map fun x => UInt8.ofNat (48 + x)
/-- The text of a limb with its leading zeros. -/
def pad9 (x : Nat) : List UInt8 := repeatL [48] (9 - (decDigits x).length) ++ decDigits x
theorem repeat_one : ∀ n, repeatL [48] n = List.replicate n (48 : UInt8)
  | 0 => rfl
  | n + 1 => by rw [repeatL, repeat_one n]; rfl
theorem dec_is {u : Nat} (h : u ≠ 0) : decDigits u = digB8 (digL u).reverse := (digL_facts h).2.2.2.2
theorem pad_is {x : Nat} (h : x < 1000000000) : pad9 x = digB8 (fixL 9 x).reverse ∧ (decDigits x).length ≤ 9 := by
  obtain ⟨h1, h2⟩ := fix_dig 9 x (by rw [show (10 : Nat) ^ 9 = 1000000000 by decide]; exact h)
  unfold pad9
  rw [repeat_one]
  by_cases h0 : x = 0
  · subst h0
    have e : decDigits 0 = [48] := by rw [decDigits_one (by decide)]; rfl
    rw [e]
    exact ⟨by decide, by decide⟩
  · have e := dec_is h0
    have el : (decDigits x).length = (digL x).length := by rw [e]; simp [digB8]
    rw [el, h1, e]
    refine ⟨?_, h2⟩
    simp [digB8]
/-- The text of a row of limbs. -/
def limbB (d : List Nat) : List UInt8 := (d.reverse.map pad9).flatten
theorem limbB_is {d : List Nat} (h : Limbs d) : limbB d = digB8 (fixL (9 * d.length) (limbV d)).reverse := by
  rw [(fix_limb d h).1]
  induction d with
  | nil => rfl
  | cons x d ih =>
    have h2 := ih (fun y hy => h y (by simp [hy]))
    unfold limbB at h2 ⊢
    rw [List.reverse_cons, List.map_append, List.flatten_append, h2]
    simp [digB8, (pad_is (h x (by simp))).1]
theorem trim_limb {d : List Nat} (h : Limbs d) (h0 : limbV d ≠ 0) : trimLeftB (limbB d) 48 = decDigits (limbV d) := by
  obtain ⟨h1, h2⟩ := fix_dig (9 * d.length) (limbV d) (fix_limb d h).2
  obtain ⟨b1, _, b3, ⟨t, b4, b5⟩, _⟩ := digL_facts h0
  rw [limbB_is h, dec_is h0, h1]
  have e : digB8 (digL (limbV d) ++ List.replicate (9 * d.length - (digL (limbV d)).length) 0).reverse = List.replicate (9 * d.length - (digL (limbV d)).length) (48 : UInt8) ++ digB8 (digL (limbV d)).reverse := by
    simp [digB8]
  rw [e]
  have hd : ∃ y l, digB8 (digL (limbV d)).reverse = y :: l ∧ y ≠ 48 := by
    have hr : (digL (limbV d)).reverse[0]? = some t := by rw [List.getElem?_reverse (by omega)]; exact b4
    have ht : t < 10 := b3 t (List.mem_of_getElem? b4)
    cases hl : (digL (limbV d)).reverse with
    | nil => rw [hl] at hr; simp at hr
    | cons y l =>
      rw [hl] at hr
      simp at hr
      subst hr
      refine ⟨_, _, rfl, ?_⟩
      intro he
      have := congrArg UInt8.toNat he
      rw [Dc.dig_toNat ht] at this
      have : (48 : UInt8).toNat = 48 := rfl
      omega
  obtain ⟨y, l, hy, hy48⟩ := hd
  rw [hy]
  generalize 9 * d.length - (digL (limbV d)).length = n
  unfold trimLeftB
  induction n with
  | zero => simp [hy48]
  | succ n ih => rw [List.replicate_succ, List.cons_append, List.dropWhile_cons_of_pos (by rfl)]; exact ih
/-- The first row. -/
def firstL (m : Nat) : List Nat := [m % 1000000000, m / 1000000000 % 1000000000, m / 1000000000 / 1000000000]
theorem first_val (m : Nat) : limbV (firstL m) = m := by
  unfold firstL
  simp only [limbV]
  omega
theorem first_limbs {m : Nat} (h : m < 18446744073709551616) : Limbs (firstL m) := by
  intro x hx
  simp only [firstL, List.mem_cons, List.not_mem_nil, or_false] at hx
  omega
end Go.Proofs.YtjapgpmoojfhnaaGreatDoor.Fl
