/- Rows of limbs of nine digits: what a round of product does with them, and the text of such a row. The decimal expansion of a float: its digits, its exponent, and what they are worth. The text of a float's expansion. The reference's float, plainly: what it tells of the rounded quotient; when a decimal is a float's own value. The reference: the text of a float. -/
import Derived.Test.YtjapgpmoojfhnaaGreatDoorB01
import Derived.Test.YtjapgpmoojfhnaaGreatDoorB09
import Derived.Test.YtjapgpmoojfhnaaGreatDoorB12
import Derived.Test.YtjapgpmoojfhnaaGreatDoorB13
import Derived.Lib.TrimByte
import Derived.Lib.Repeat
import Derived.Deep.RegionHeld3
set_option maxHeartbeats 16000000
set_option maxRecDepth 100000
set_option linter.unusedSimpArgs false
set_option linter.unusedVariables false
namespace Go.Proofs.YtjapgpmoojfhnaaGreatDoor.Fl
open Go.Lib
def limbV : List Nat → Nat
 | [] => 0
 | x :: d => x + 1000000000 * limbV d
def Limbs (d : List Nat) : Prop := ∀ x ∈ d, x < 1000000000
def passL (b : Nat) : Nat → List Nat → List Nat
 | _, [] => []
 | c, x :: d => (c + x * b) % 1000000000 :: passL b ((c + x * b) / 1000000000) d
def passC (b : Nat) : Nat → List Nat → Nat
 | c, [] => c
 | c, x :: d => passC b ((c + x * b) / 1000000000) d
theorem pass_len (b : Nat) : ∀ (c : Nat) (d : List Nat), (passL b c d).length = d.length
 | _, [] => rfl
 | c, x :: d => by rw [passL, List.length_cons, List.length_cons, pass_len b _ d]
theorem limb_append : ∀ (d e : List Nat), limbV (d ++ e) = limbV d + 1000000000 ^ d.length * limbV e
 | [], e => by simp [limbV]
 | x :: d, e => by
   rw [List.cons_append, limbV, limbV, limb_append d e, List.length_cons, Nat.pow_succ, Nat.mul_add, ← Nat.add_assoc, ← Nat.mul_assoc, Nat.mul_comm 1000000000 (1000000000 ^ d.length)]
theorem pass_val (b : Nat) : ∀ (c : Nat) (d : List Nat), limbV (passL b c d) + 1000000000 ^ d.length * passC b c d = c + b * limbV d
 | c, [] => by simp [passL, passC, limbV]
 | c, x :: d => by
   have ih := pass_val b ((c + x * b) / 1000000000) d
   rw [passL, passC, limbV, limbV, List.length_cons, Nat.pow_succ]
   have e1 : 1000000000 ^ d.length * 1000000000 * passC b ((c + x * b) / 1000000000) d = 1000000000 * (1000000000 ^ d.length * passC b ((c + x * b) / 1000000000) d) := by rw [Nat.mul_comm (1000000000 ^ d.length), Nat.mul_assoc]
   rw [e1]
   have e2 := Nat.div_add_mod (c + x * b) 1000000000
   rw [Nat.mul_add b x, show b * (1000000000 * limbV d) = 1000000000 * (b * limbV d) by rw [← Nat.mul_assoc, Nat.mul_comm b, Nat.mul_assoc], Nat.mul_comm b x]
   generalize 1000000000 ^ d.length * passC b ((c + x * b) / 1000000000) d = Y at *
   generalize b * limbV d = Z at *
   generalize limbV (passL b ((c + x * b) / 1000000000) d) = U at *
   omega
theorem carry_lt {b c x : Nat} (hb : b ≤ 1000000000) (hc : c < 1000000000) (hx : x < 1000000000) : (c + x * b) / 1000000000 < 1000000000 ∧ c + x * b < 1000000000000000000 := by
 have h : x * b ≤ 999999999 * 1000000000 := Nat.mul_le_mul (by omega) hb
 omega
theorem pass_limbs {b : Nat} (hb : b ≤ 1000000000) : ∀ (c : Nat) (d : List Nat), c < 1000000000 → Limbs d → Limbs (passL b c d) ∧ passC b c d < 1000000000
 | c, [], hc, _ => ⟨by intro x hx; simp [passL] at hx, hc⟩
 | c, x :: d, hc, hd => by
   have hx : x < 1000000000 := hd x (by simp)
   obtain ⟨h1, h2⟩ := pass_limbs hb ((c + x * b) / 1000000000) d (carry_lt hb hc hx).1 (fun y hy => hd y (by simp [hy]))
   refine ⟨?_, h2⟩
   intro y hy
   rw [passL] at hy
   rcases List.mem_cons.1 hy with rfl | hy
   · omega
   · exact h1 y hy
def roundL (b : Nat) (d : List Nat) : List Nat := passL b 0 d ++ (if 0 < passC b 0 d then [passC b 0 d] else [])
theorem round_val (b : Nat) (d : List Nat) : limbV (roundL b d) = b * limbV d := by
 have h := pass_val b 0 d
 unfold roundL
 rw [limb_append, pass_len]
 by_cases h0 : 0 < passC b 0 d
 · rw [if_pos h0]
   simp only [limbV, Nat.mul_zero, Nat.add_zero]
   omega
 · have e : passC b 0 d = 0 := by omega
   rw [if_neg h0]
   simp only [limbV]
   rw [e] at h
   omega
theorem round_limbs {b : Nat} (hb : b ≤ 1000000000) {d : List Nat} (hd : Limbs d) : Limbs (roundL b d) ∧ (roundL b d).length ≤ d.length + 1 ∧ d.length ≤ (roundL b d).length := by
 obtain ⟨h1, h2⟩ := pass_limbs hb 0 d (by decide) hd
 unfold roundL
 refine ⟨?_, ?_, ?_⟩
 · intro x hx
   rcases List.mem_append.1 hx with hx | hx
   · exact h1 x hx
   · split at hx
     · simp at hx; omega
     · simp at hx
 · rw [List.length_append, pass_len]
   split <;> simp
 · rw [List.length_append, pass_len]; omega
def prodL (base : Nat) : Nat → List Nat → List Nat
 | 0, d => d
 | n + 1, d => prodL base (n + 1 - min (n + 1) 9) (roundL (base ^ min (n + 1) 9) d)
termination_by n => n
decreasing_by omega
theorem prod_step {base n : Nat} (h : 0 < n) (d : List Nat) : prodL base n d = prodL base (n - min n 9) (roundL (base ^ min n 9) d) := by
 obtain ⟨k, rfl⟩ : ∃ k, n = k + 1 := ⟨n - 1, by omega⟩
 rw [prodL]
theorem prod_val (base : Nat) : ∀ (n : Nat) (d : List Nat), limbV (prodL base n d) = limbV d * base ^ n := by
 intro n
 induction n using Nat.strongRecOn with
 | _ n ih =>
   intro d
   by_cases h : n = 0
   · subst h; rw [prodL]; simp
   · rw [prod_step (by omega), ih _ (by omega), round_val, Nat.mul_comm _ (limbV d), Nat.mul_assoc, ← Nat.pow_add]
     congr 2; omega
theorem base_pow {base k : Nat} (hb : base ≤ 10) (hk : k ≤ 9) : base ^ k ≤ 1000000000 :=
 Nat.le_trans (Nat.pow_le_pow_left hb k) (Nat.le_trans (Nat.pow_le_pow_right (by decide) hk) (by decide))
theorem prod_limbs {base : Nat} (hb : base ≤ 10) : ∀ (n : Nat) (d : List Nat), Limbs d → Limbs (prodL base n d) ∧ (prodL base n d).length ≤ d.length + n := by
 intro n
 induction n using Nat.strongRecOn with
 | _ n ih =>
   intro d hd
   by_cases h : n = 0
   · subst h; rw [prodL]; exact ⟨hd, by omega⟩
   · rw [prod_step (by omega)]
     obtain ⟨h1, h2, _⟩ := round_limbs (base_pow hb (Nat.min_le_right n 9)) hd
     obtain ⟨h3, h4⟩ := ih (n - min n 9) (by omega) _ h1
     exact ⟨h3, by omega⟩
def fixL : Nat → Nat → List Nat
 | 0, _ => []
 | k + 1, u => u % 10 :: fixL k (u / 10)
theorem fix_len : ∀ k u, (fixL k u).length = k
 | 0, _ => rfl
 | k + 1, u => by rw [fixL, List.length_cons, fix_len k]
theorem fix_add : ∀ (k l u : Nat), fixL (k + l) u = fixL k u ++ fixL l (u / 10 ^ k)
 | 0, l, u => by simp [fixL]
 | k + 1, l, u => by
   rw [show k + 1 + l = (k + l) + 1 by omega, fixL, fixL, fix_add k l (u / 10), List.cons_append, Nat.div_div_eq_div_mul, Nat.pow_succ, Nat.mul_comm 10]
theorem fix_mod : ∀ (k u v : Nat), fixL k (u + 10 ^ k * v) = fixL k u
 | 0, _, _ => rfl
 | k + 1, u, v => by
   have e : 10 ^ (k + 1) * v = 10 * (10 ^ k * v) := by rw [Nat.pow_succ, Nat.mul_comm (10 ^ k), Nat.mul_assoc]
   rw [fixL, fixL, e]
   congr 1
   · omega
   · rw [show (u + 10 * (10 ^ k * v)) / 10 = u / 10 + 10 ^ k * v by omega]
     exact fix_mod k _ _
theorem fix_dig : ∀ (k u : Nat), u < 10 ^ k → fixL k u = digL u ++ List.replicate (k - (digL u).length) 0 ∧ (digL u).length ≤ k
 | 0, u, h => by
   have : u = 0 := by simpa using h
   subst this
   rw [digL_zero]
   exact ⟨rfl, by simp⟩
 | k + 1, u, h => by
   have h2 : u / 10 < 10 ^ k := by rw [Nat.div_lt_iff_lt_mul (by decide), ← Nat.pow_succ]; exact h
   obtain ⟨a1, a2⟩ := fix_dig k (u / 10) h2
   by_cases h0 : u = 0
   · subst h0
     rw [digL_zero] at *
     have e : fixL k 0 = List.replicate k 0 := by simpa using a1
     rw [fixL, Nat.zero_div, e]
     exact ⟨by simp [List.replicate_succ], by simp⟩
   · rw [digL_pos h0, fixL, a1]
     exact ⟨by simp, by simp; exact a2⟩
theorem fix_limb : ∀ (d : List Nat), Limbs d → fixL (9 * d.length) (limbV d) = (d.map (fixL 9)).flatten ∧ limbV d < 10 ^ (9 * d.length)
 | [], _ => ⟨rfl, by simp [limbV]⟩
 | x :: d, h => by
   have hx : x < 1000000000 := h x (by simp)
   obtain ⟨h1, h2⟩ := fix_limb d (fun y hy => h y (by simp [hy]))
   rw [List.length_cons, show 9 * (d.length + 1) = 9 + 9 * d.length by omega, limbV, fix_add, List.map_cons, List.flatten_cons]
   have e : (10 : Nat) ^ 9 = 1000000000 := by decide
   refine ⟨?_, ?_⟩
   · have h3 := fix_mod 9 x (limbV d)
     rw [e] at h3
     rw [h3, e, show (x + 1000000000 * limbV d) / 1000000000 = limbV d by omega, h1]
   · rw [Nat.pow_add, e]
     generalize 10 ^ (9 * d.length) = Y at *
     omega
def digB8 (l : List Nat) : List UInt8 := l.map fun x => UInt8.ofNat (48 + x)
def pad9 (x : Nat) : List UInt8 := repeatL [48] (9 - (decDigits x).length) ++ decDigits x
theorem repeat_one : ∀ n, repeatL [48] n = List.replicate n (48 : UInt8)
 | 0 => rfl
 | n + 1 => by rw [repeatL, repeat_one n]; rfl
theorem dec_is {u : Nat} (h : u ≠ 0) : decDigits u = digB8 (digL u).reverse := (digL_facts h).2.2.2.2
theorem pad_is {x : Nat} (h : x < 1000000000) : pad9 x = digB8 (fixL 9 x).reverse ∧ (decDigits x).length ≤ 9 := by
 obtain ⟨h1, h2⟩ := fix_dig 9 x (by rw [show (10 : Nat) ^ 9 = 1000000000 by decide]; exact h)
 unfold pad9
 rw [repeat_one]
 by_cases h0 : x = 0
 · subst h0
   have e : decDigits 0 = [48] := by rw [decDigits_one (by decide)]; rfl
   rw [e]
   exact ⟨by decide, by decide⟩
 · have e := dec_is h0
   have el : (decDigits x).length = (digL x).length := by rw [e]; simp [digB8]
   rw [el, h1, e]
   refine ⟨?_, h2⟩
   simp [digB8]
def limbB (d : List Nat) : List UInt8 := (d.reverse.map pad9).flatten
theorem limbB_is {d : List Nat} (h : Limbs d) : limbB d = digB8 (fixL (9 * d.length) (limbV d)).reverse := by
 rw [(fix_limb d h).1]
 induction d with
 | nil => rfl
 | cons x d ih =>
   have h2 := ih (fun y hy => h y (by simp [hy]))
   unfold limbB at h2 ⊢
   rw [List.reverse_cons, List.map_append, List.flatten_append, h2]
   simp [digB8, (pad_is (h x (by simp))).1]
theorem trim_limb {d : List Nat} (h : Limbs d) (h0 : limbV d ≠ 0) : trimLeftB (limbB d) 48 = decDigits (limbV d) := by
 obtain ⟨h1, h2⟩ := fix_dig (9 * d.length) (limbV d) (fix_limb d h).2
 obtain ⟨b1, _, b3, ⟨t, b4, b5⟩, _⟩ := digL_facts h0
 rw [limbB_is h, dec_is h0, h1]
 have e : digB8 (digL (limbV d) ++ List.replicate (9 * d.length - (digL (limbV d)).length) 0).reverse = List.replicate (9 * d.length - (digL (limbV d)).length) (48 : UInt8) ++ digB8 (digL (limbV d)).reverse := by
  simp [digB8]
 rw [e]
 have hd : ∃ y l, digB8 (digL (limbV d)).reverse = y :: l ∧ y ≠ 48 := by
  have hr : (digL (limbV d)).reverse[0]? = some t := by rw [List.getElem?_reverse (by omega)]; exact b4
  have ht : t < 10 := b3 t (List.mem_of_getElem? b4)
  cases hl : (digL (limbV d)).reverse with
  | nil => rw [hl] at hr; simp at hr
  | cons y l =>
    rw [hl] at hr
    simp at hr
    subst hr
    refine ⟨_, _, rfl, ?_⟩
    intro he
    have := congrArg UInt8.toNat he
    rw [Dc.dig_toNat ht] at this
    have : (48 : UInt8).toNat = 48 := rfl
    omega
 obtain ⟨y, l, hy, hy48⟩ := hd
 rw [hy]
 generalize 9 * d.length - (digL (limbV d)).length = n
 unfold trimLeftB
 induction n with
 | zero => simp [hy48]
 | succ n ih => rw [List.replicate_succ, List.cons_append, List.dropWhile_cons_of_pos (by rfl)]; exact ih
def firstL (m : Nat) : List Nat := [m % 1000000000, m / 1000000000 % 1000000000, m / 1000000000 / 1000000000]
theorem first_val (m : Nat) : limbV (firstL m) = m := by
 unfold firstL
 simp only [limbV]
 omega
theorem first_limbs {m : Nat} (h : m < 18446744073709551616) : Limbs (firstL m) := by
 intro x hx
 simp only [firstL, List.mem_cons, List.not_mem_nil, or_false] at hx
 omega
end Go.Proofs.YtjapgpmoojfhnaaGreatDoor.Fl
namespace Go.Proofs.YtjapgpmoojfhnaaGreatDoor.Fl
open Go Go.Lib
open Go.Proofs.YtjapgpmoojfhnaaGreatDoor.Dc (Digs digB sgnB dec_ne)
def xN (r : Nat) : Nat := if 0 ≤ oe r then om r * 2 ^ (oe r).toNat else om r * 5 ^ (-oe r).toNat
def xE (r : Nat) : Int := min (oe r) 0
theorem strip_ex : ∀ n : Nat, 0 < n → ∃ c z, n = c * 10 ^ z ∧ c % 10 ≠ 0 := by
 intro n
 induction n using Nat.strongRecOn with
 | _ n ih =>
   intro h
   by_cases h1 : n % 10 = 0
   · obtain ⟨c, z, h2, h3⟩ := ih (n / 10) (by omega) (by omega)
     refine ⟨c, z + 1, ?_, h3⟩
     rw [Nat.pow_succ, ← Nat.mul_assoc, ← h2]
     omega
   · exact ⟨n, 0, by simp, h1⟩
structure Exp10 (r c z : Nat) : Prop where
 fac : xN r = c * 10 ^ z
 odd : c % 10 ≠ 0
theorem exp10_ex {r : Nat} (h0 : 0 < r) : ∃ c z, Exp10 r c z := by
 obtain ⟨_, _, h3, _⟩ := om_spec h0
 have hp : 0 < xN r := by
  unfold xN
  split
  · exact Nat.mul_pos h3 (Nat.two_pow_pos _)
  · exact Nat.mul_pos h3 (Nat.pow_pos (by decide))
 obtain ⟨c, z, h1, h2⟩ := strip_ex (xN r) hp
 exact ⟨c, z, h1, h2⟩
theorem Exp10.pos {r c z : Nat} (h : Exp10 r c z) : 0 < c := by
 have := h.odd
 omega
theorem val_is {r : Nat} (h0 : 0 < r) : val Ieee.double r = om r * 2 ^ (oe r + 1074).toNat := by
 obtain ⟨h1, _, _, _⟩ := om_spec h0
 have hp := place_ge Ieee.double r
 rw [d_least] at hp
 unfold val
 rw [h1, d_least, Nat.mul_assoc, ← Nat.pow_add]
 congr 2
 unfold oe
 omega
theorem pow_odd : ∀ k : Nat, 5 ^ k % 2 = 1
 | 0 => rfl
 | k + 1 => by rw [Nat.pow_succ, Nat.mul_mod, pow_odd k]
theorem Exp10.neg {r c z : Nat} (h0 : 0 < r) (h : Exp10 r c z) (hE : oe r < 0) : z = 0 ∧ c = om r * 5 ^ (-oe r).toNat := by
 obtain ⟨_, h2, _, _⟩ := om_spec h0
 have hv := h.fac
 unfold xN at hv
 rw [if_neg (by omega)] at hv
 have hodd : (om r * 5 ^ (-oe r).toNat) % 2 = 1 := by rw [Nat.mul_mod, h2, pow_odd]
 have hz : z = 0 := by
  rcases Nat.eq_zero_or_pos z with h | h
  · exact h
  · exfalso
    obtain ⟨y, rfl⟩ : ∃ y, z = y + 1 := ⟨z - 1, by omega⟩
    rw [hv, Nat.pow_succ, ← Nat.mul_assoc] at hodd
    omega
 subst hz
 rw [Nat.pow_zero, Nat.mul_one] at hv
 exact ⟨rfl, hv.symm⟩
theorem Exp10.nonneg {r c z : Nat} (h : Exp10 r c z) (hE : 0 ≤ oe r) : c * 10 ^ z = om r * 2 ^ (oe r).toNat := by
 have hv := h.fac
 unfold xN at hv
 rw [if_pos hE] at hv
 exact hv.symm
theorem Exp10.value {r c z : Nat} (h0 : 0 < r) (hr : r < 9218868437227405312) (h : Exp10 r c z) : vN c (xE r + z) = val Ieee.double r * vD (xE r + z) := by
 have hb := (om_bounds h0 hr).2.1
 rw [val_is h0]
 by_cases hE : 0 ≤ oe r
 · have hv := h.nonneg hE
   have e : xE r + z = (z : Int) := by unfold xE; omega
   rw [e]
   unfold vN vD
   obtain ⟨B, hB⟩ : ∃ B : Nat, (1074 : Nat) = B := ⟨_, rfl⟩
   rw [hB, if_pos (by omega), if_pos (by omega), Int.toNat_natCast, hv, Nat.mul_one, Nat.mul_assoc, ← Nat.pow_add]
   congr 2
   omega
 · obtain ⟨rfl, hc⟩ := h.neg h0 (by omega)
   have e : xE r + ((0 : Nat) : Int) = oe r := by unfold xE; omega
   rw [e]
   unfold vN vD
   obtain ⟨B, hB⟩ : ∃ B : Nat, (1074 : Nat) = B := ⟨_, rfl⟩
   rw [hB, if_neg hE, if_neg hE, hc]
   obtain ⟨k, hk⟩ : ∃ k : Nat, (-oe r).toNat = k := ⟨_, rfl⟩
   rw [hk]
   have e2 : (oe r + 1074).toNat + k = B := by omega
   have e3 : (10 : Nat) ^ k = 2 ^ k * 5 ^ k := by rw [← Nat.mul_pow]
   rw [e3, Nat.mul_assoc, Nat.mul_assoc, ← Nat.mul_assoc (2 ^ (oe r + 1074).toNat), ← Nat.pow_add, e2, Nat.mul_comm (5 ^ k)]
theorem pow10_lt {a b : Nat} (h : 10 ^ a < 10 ^ b) : a < b := by
 rcases Nat.lt_or_ge a b with h1 | h1
 · exact h1
 · have := Nat.pow_le_pow_right (n := 10) (by decide) h1
   omega
theorem pow1024 : (2 : Nat) ^ 1024 < 10 ^ 309 := by decide +kernel
theorem two_1024 {k : Nat} (h : k ≤ 1024) : 2 ^ k < 10 ^ 309 := by
 obtain ⟨K, hK⟩ : ∃ K, K = 1024 := ⟨_, rfl⟩
 have p := pow1024
 rw [← hK] at p h
 exact Nat.lt_of_le_of_lt (Nat.pow_le_pow_right (by decide) h) p
theorem pow1074 : (2 : Nat) ^ 1074 < 10 ^ 324 := by decide +kernel
theorem two_1074 : ∃ Z, Z = 324 ∧ ∀ k, k ≤ 1074 → 2 ^ k < 10 ^ Z := by
 obtain ⟨K, hK⟩ : ∃ K, K = 1074 := ⟨_, rfl⟩
 obtain ⟨Z, hZ⟩ : ∃ Z, Z = 324 := ⟨_, rfl⟩
 have p := pow1074
 rw [← hK, ← hZ] at p
 rw [← hK]
 exact ⟨Z, hZ, fun k h => Nat.lt_of_le_of_lt (Nat.pow_le_pow_right (by decide) h) p⟩
theorem Exp10.place {r c z n : Nat} (h0 : 0 < r) (hr : r < 9218868437227405312) (h : Exp10 r c z) (h1 : 10 ^ n ≤ c) (h2 : c < 10 ^ (n + 1)) : (n : Int) + (xE r + z) ≤ 308 ∧ -324 ≤ (n : Int) + (xE r + z) ∧ -1074 ≤ xE r + z ∧ z ≤ 308 := by
 obtain ⟨b0, b1, b2, b3⟩ := om_bounds h0 hr
 obtain ⟨_, _, m1, m2⟩ := om_spec h0
 by_cases hE : 0 ≤ oe r
 · have hv := h.nonneg hE
   have hm : om r < 2 ^ ((om r).log2 + 1) := Nat.lt_log2_self
   have h3 : om r * 2 ^ (oe r).toNat < 10 ^ 309 := by
    have h4 : om r * 2 ^ (oe r).toNat < 2 ^ ((om r).log2 + 1) * 2 ^ (oe r).toNat := Nat.mul_lt_mul_of_pos_right hm (Nat.two_pow_pos _)
    rw [← Nat.pow_add] at h4
    exact Nat.lt_trans h4 (two_1024 (by omega))
   rw [← hv] at h3
   have h5 : 10 ^ (n + z) ≤ c * 10 ^ z := by rw [Nat.pow_add]; exact Nat.mul_le_mul_right _ h1
   have h6 := pow10_lt (Nat.lt_of_le_of_lt h5 h3)
   unfold xE
   omega
 · obtain ⟨rfl, hc⟩ := h.neg h0 (by omega)
   obtain ⟨k, hk⟩ : ∃ k : Nat, (-oe r).toNat = k := ⟨_, rfl⟩
   rw [hk] at hc
   have hke : oe r = -(k : Int) := by omega
   have hk2 : k ≤ 1074 := by omega
   have e3 : (10 : Nat) ^ k = 2 ^ k * 5 ^ k := by rw [← Nat.mul_pow]
   have up : n < 16 + k := by
    refine pow10_lt (Nat.lt_of_le_of_lt h1 ?_)
    rw [hc, Nat.pow_add, e3]
    have a1 : om r * 5 ^ k < 10 ^ 16 * 5 ^ k := Nat.mul_lt_mul_of_pos_right (Nat.lt_trans m2 (by decide)) (Nat.pow_pos (by decide))
    have a2 : 10 ^ 16 * 5 ^ k ≤ 10 ^ 16 * (2 ^ k * 5 ^ k) := Nat.mul_le_mul_left _ (Nat.le_mul_of_pos_left _ (Nat.two_pow_pos _))
    omega
   obtain ⟨Z, hZ, hZ2⟩ := two_1074
   have lo : k < n + 1 + Z := by
    refine pow10_lt ?_
    rw [e3, Nat.pow_add]
    have a1 : 5 ^ k ≤ c := by rw [hc]; exact Nat.le_mul_of_pos_left _ m1
    have a2 := hZ2 k hk2
    have a3 : 2 ^ k * 5 ^ k < 2 ^ k * 10 ^ (n + 1) := Nat.mul_lt_mul_of_pos_left (by omega) (Nat.two_pow_pos _)
    have a4 : 2 ^ k * 10 ^ (n + 1) ≤ 10 ^ Z * 10 ^ (n + 1) := Nat.mul_le_mul_right _ (Nat.le_of_lt a2)
    rw [Nat.mul_comm (10 ^ Z)] at a4
    exact Nat.lt_of_lt_of_le a3 a4
   unfold xE
   omega
theorem num_digL (c : Nat) : num (digL c).reverse = c := by
 induction c using Nat.strongRecOn with
 | _ c ih =>
   by_cases h : c = 0
   · rw [h, digL_zero]; rfl
   · rw [digL_pos h, List.reverse_cons, num_snoc, ih (c / 10) (by omega)]
     omega
theorem digL_head {c : Nat} (h : c ≠ 0) : ∃ x l, (digL c).reverse = x :: l ∧ x ≠ 0 := by
 obtain ⟨h1, _, _, ⟨d, h4, h5⟩, _⟩ := digL_facts h
 have hr : (digL c).reverse[0]? = some d := by rw [List.getElem?_reverse (by omega)]; exact h4
 cases hl : (digL c).reverse with
 | nil => rw [hl] at hr; simp at hr
 | cons x l =>
   rw [hl] at hr
   simp at hr
   subst hr
   exact ⟨_, _, rfl, h5⟩
theorem digL_digs {c : Nat} (h : c ≠ 0) : Digs (digL c).reverse := fun x hx => by
 have := (digL_facts h).2.2.1 x (List.mem_reverse.1 hx)
 omega
theorem dec_length {c : Nat} (h : c ≠ 0) : (decDigits c).length = (digL c).length := by
 rw [dec_is h]; simp [digB8]
theorem dec_bounds {c : Nat} (h : c ≠ 0) : ∃ n, (decDigits c).length = n + 1 ∧ 10 ^ n ≤ c ∧ c < 10 ^ (n + 1) := by
 obtain ⟨x, l, h1, h2⟩ := digL_head h
 have h3 := num_ge (l := l) h2
 have h4 := num_lt (digL_digs h)
 have h5 := num_digL c
 have h6 : (digL c).reverse.length = (digL c).length := List.length_reverse
 rw [h1] at h4 h5 h6
 rw [h5] at h3 h4
 rw [List.length_cons] at h4 h6
 exact ⟨l.length, by rw [dec_length h]; omega, h3, h4⟩
def expB (g : Bool) (c : Nat) (E : Int) : List UInt8 := sgnB g ++ decDigits c ++ 101 :: itoa E
theorem dec_zeros {c : Nat} (hc : 0 < c) : ∀ z, decDigits (c * 10 ^ z) = decDigits c ++ List.replicate z 48
 | 0 => by simp
 | z + 1 => by
   have hp : 0 < c * 10 ^ z := Nat.mul_pos hc (Nat.pow_pos (by decide))
   have e : c * 10 ^ (z + 1) = 10 * (c * 10 ^ z) := by rw [Nat.pow_succ, ← Nat.mul_assoc, Nat.mul_comm]
   rw [e, decDigits, dif_neg (by omega), show 10 * (c * 10 ^ z) / 10 = c * 10 ^ z by omega, show 10 * (c * 10 ^ z) % 10 = 0 by omega, dec_zeros hc z, List.append_assoc, List.replicate_succ']
   rfl
theorem dec_last (c : Nat) : ∃ l, decDigits c = l ++ [UInt8.ofNat (48 + c % 10)] := by
 rw [decDigits]
 split
 · rename_i h
   exact ⟨[], by rw [Nat.mod_eq_of_lt h]; rfl⟩
 · exact ⟨_, rfl⟩
theorem drop_zeros (l : List UInt8) (x : UInt8) (hx : x ≠ 48) : ∀ z, (List.replicate z 48 ++ x :: l).dropWhile (· == 48) = x :: l
 | 0 => by
   have : (x == 48) = false := by simpa using hx
   simp [this]
 | z + 1 => by
   rw [List.replicate_succ, List.cons_append, List.dropWhile_cons]
   exact drop_zeros l x hx z
theorem trim_dec {c : Nat} (hc : c % 10 ≠ 0) (z : Nat) : trimRightB (decDigits (c * 10 ^ z)) 48 = decDigits c := by
 rw [dec_zeros (by omega) z]
 obtain ⟨l, hl⟩ := dec_last c
 have hx : UInt8.ofNat (48 + c % 10) ≠ 48 := by
  intro he
  have := congrArg UInt8.toNat he
  rw [Dc.dig_toNat (by omega)] at this
  have : (48 : UInt8).toNat = 48 := rfl
  omega
 unfold trimRightB
 rw [hl, List.reverse_append, List.reverse_append, List.reverse_replicate]
 show (List.dropWhile _ (List.replicate z 48 ++ UInt8.ofNat (48 + c % 10) :: l.reverse)).reverse = _
 rw [drop_zeros _ _ hx z]
 simp
theorem cut_exp (c : Nat) (E : Int) : cut (decDigits c ++ 101 :: itoa E) [101] = (decDigits c, itoa E, true) := by
 have hb : ∀ b ∈ decDigits c, b ≠ (101 : UInt8) := fun b hb he => by
  have := Dc.dec_mem c b hb
  rw [he] at this
  exact absurd this.2 (by decide)
 unfold cut
 rw [index_one hb, if_pos (by omega)]
 simp
end Go.Proofs.YtjapgpmoojfhnaaGreatDoor.Fl
namespace Go.Proofs.YtjapgpmoojfhnaaGreatDoor.Fl
open Ieee Go.Lib
theorem odd_pair {a b i j : Nat} (h : a * 2 ^ i = b * 2 ^ j) (ha : a % 2 = 1) (hb : b % 2 = 1) : a = b ∧ i = j := by
 have aux : ∀ {a b i d : Nat}, a * 2 ^ i = b * 2 ^ (i + (d + 1)) → a % 2 = 1 → False := fun {a b i d} h ha => by
  have e : a = b * 2 ^ (d + 1) := Nat.eq_of_mul_eq_mul_right (Nat.two_pow_pos i) (by rw [h, Nat.pow_add 2 i, Nat.mul_assoc, Nat.mul_comm (2 ^ (d + 1))])
  rw [Nat.pow_succ, ← Nat.mul_assoc] at e
  omega
 rcases Nat.lt_trichotomy i j with hij | hij | hij
 · obtain ⟨d, rfl⟩ : ∃ d, j = i + (d + 1) := ⟨j - i - 1, by omega⟩
   exact (aux h ha).elim
 · subst hij
   exact ⟨Nat.eq_of_mul_eq_mul_right (Nat.two_pow_pos i) h, rfl⟩
 · obtain ⟨d, rfl⟩ : ∃ d, i = j + (d + 1) := ⟨i - j - 1, by omega⟩
   exact (aux h.symm hb).elim
theorem bitLen_shift {c : Nat} (h0 : 0 < c) : ∀ z : Nat, c * 2 ^ z < 18446744073709551616 → Lib.bitLen (c * 2 ^ z) = Lib.bitLen c + z
 | 0, _ => by rw [Nat.pow_zero, Nat.mul_one, Nat.add_zero]
 | z + 1, h => by
   have e : c * 2 ^ (z + 1) = 2 * (c * 2 ^ z) := by rw [Nat.pow_succ, ← Nat.mul_assoc, Nat.mul_comm]
   have hp : 0 < c * 2 ^ z := Nat.mul_pos h0 (Nat.two_pow_pos z)
   rw [e] at h ⊢
   have ih := bitLen_shift h0 z (by omega)
   rw [Lib.bitLen_half _ (by omega) (by omega), Nat.mul_div_cancel_left _ (by decide), ih]
   omega
theorem bitLen_le {m t : Nat} (h0 : 0 < m) (hm : m < 18446744073709551616) : Lib.bitLen m ≤ t ↔ m < 2 ^ t := by
 rw [bitLen_log2 m (by omega) hm, ← Nat.log2_lt (by omega)]
 omega
theorem ref_over {K m : Nat} {k : Int} (hk : k = (K : Int) - 1074) (h0 : 0 < m) (hm : m ≤ 9007199254740992) (hK : K = 0 ∨ 4503599627370496 ≤ m) : k + (Lib.bitLen m : Nat) ≤ 1024 ↔ K * 4503599627370496 + m < 9218868437227405312 := by
 have h52 := bitLen_le (t := 52) h0 (by omega)
 have h53 := bitLen_le (t := 53) h0 (by omega)
 have h54 := bitLen_le (t := 54) h0 (by omega)
 rw [show (2 : Nat) ^ 52 = 4503599627370496 by decide] at h52
 rw [show (2 : Nat) ^ 53 = 9007199254740992 by decide] at h53
 rw [show (2 : Nat) ^ 54 = 18014398509481984 by decide] at h54
 omega
theorem ref_fin {K m c z : Nat} (hm : m ≤ 9007199254740992) (hK : K = 0 ∨ 4503599627370496 ≤ m) (hmc : m = c * 2 ^ z) (hc : c % 2 = 1) (hr : K * 4503599627370496 + m < 9218868437227405312) : om (K * 4503599627370496 + m) = c ∧ oe (K * 4503599627370496 + m) = (K : Int) - 1074 + (z : Nat) := by
 have hm0 : 0 < m := by rw [hmc]; exact Nat.mul_pos (by omega) (Nat.two_pow_pos z)
 have h1 := val_at hK hm
 obtain ⟨r, hrr⟩ : ∃ r, K * 4503599627370496 + m = r := ⟨_, rfl⟩
 rw [hrr] at h1 hr ⊢
 have h0 : 0 < r := by omega
 obtain ⟨_, b2, _, _⟩ := om_bounds h0 hr
 rw [val_is h0, hmc, Nat.mul_assoc, ← Nat.pow_add] at h1
 obtain ⟨e1, e2⟩ := odd_pair h1 (om_spec h0).2.1 hc
 exact ⟨e1, by omega⟩
theorem rnd_bounds {a b : Nat} : a / b ≤ rndQ a b ∧ rndQ a b ≤ a / b + 1 := by
 unfold rndQ
 split <;> omega
theorem ex_iff {c K z : Nat} {E k : Int} (hz : z = 1074) (hk : k = (K : Int) - z) (hq : shN (rnN c E) k / shD (rnD E) k < 9007199254740992) (hlo : K = 0 ∨ 4503599627370496 ≤ shN (rnN c E) k / shD (rnD E) k) :
 vN c E = val double (K * 4503599627370496 + rndQ (shN (rnN c E) k) (shD (rnD E) k)) * vD E ↔ shN (rnN c E) k % shD (rnD E) k = 0 := by
 have hx := sh_cross (u := rnN c E) (v := rnD E) k hk
 rw [← vN_rn hz, ← vD_rn] at hx
 have hb := shD_pos (rnD_pos E) k
 rw [← vD_rn] at hb hq hlo ⊢
 have hd := vD_pos E
 obtain ⟨m1, m2⟩ := rnd_bounds (a := shN (rnN c E) k) (b := shD (vD E) k)
 have hP : 0 < 2 ^ K * vD E := Nat.mul_pos (Nat.pow_pos (by decide)) hd
 rw [val_at (k := K) (q := rndQ (shN (rnN c E) k) (shD (vD E) k)) (by omega) (by omega)]
 have hrq : shN (rnN c E) k % shD (vD E) k = 0 → rndQ (shN (rnN c E) k) (shD (vD E) k) = shN (rnN c E) k / shD (vD E) k := fun h => by
  unfold rndQ
  rw [h, if_neg (by omega)]
 clear m1 m2 hq hlo
 generalize rndQ (shN (rnN c E) k) (shD (vD E) k) = m at *
 generalize shN (rnN c E) k = a at *
 generalize shD (vD E) k = b at *
 constructor
 · intro h
   have e : a * (2 ^ K * vD E) = m * b * (2 ^ K * vD E) := by
    rw [hx, h]
    simp only [Nat.mul_assoc, Nat.mul_left_comm, Nat.mul_comm]
   rw [Nat.eq_of_mul_eq_mul_right hP e]
   exact Nat.mul_mod_left m b
 · intro h
   have hm := hrq h
   have ha : a = m * b := by
    have := Nat.div_add_mod a b
    rw [h, Nat.add_zero, ← hm, Nat.mul_comm] at this
    exact this.symm
   refine Nat.eq_of_mul_eq_mul_right hb ?_
   rw [← hx, ha]
   simp only [Nat.mul_assoc, Nat.mul_left_comm, Nat.mul_comm]
theorem vN_inj {a b : Nat} {E : Int} (h : vN a E = vN b E) : a = b := by
 unfold vN at h
 obtain ⟨t, ht⟩ : ∃ t : Nat, t = 1074 := ⟨_, rfl⟩
 rw [← ht] at h
 have hz : 0 < 2 ^ t := Nat.two_pow_pos t
 generalize 2 ^ t = z at h hz
 split at h
 · exact Nat.eq_of_mul_eq_mul_right (Nat.pow_pos (by decide)) (Nat.eq_of_mul_eq_mul_right hz h)
 · exact Nat.eq_of_mul_eq_mul_right hz h
theorem canon_half {c c' j : Nat} {E : Int} (hc : c % 10 ≠ 0) (h : vN c E * vD (E + j) = vN c' (E + j) * vD E) : c = c' ∧ j = 0 := by
 rw [← v_cross] at h
 have e := vN_inj (Nat.eq_of_mul_eq_mul_right (vD_pos _) h)
 cases j with
 | zero => exact ⟨by rw [e, Nat.pow_zero, Nat.mul_one], rfl⟩
 | succ j => rw [Nat.pow_succ, ← Nat.mul_assoc] at e; omega
theorem canon_eq {c c' : Nat} {E E' : Int} (hc : c % 10 ≠ 0) (hc' : c' % 10 ≠ 0) (h : vN c E * vD E' = vN c' E' * vD E) : c = c' ∧ E = E' := by
 rcases Int.le_total E E' with hE | hE
 · obtain ⟨j, rfl⟩ : ∃ j : Nat, E' = E + j := ⟨(E' - E).toNat, by omega⟩
   obtain ⟨e1, rfl⟩ := canon_half hc h
   exact ⟨e1, by omega⟩
 · obtain ⟨j, rfl⟩ : ∃ j : Nat, E = E' + j := ⟨(E - E').toNat, by omega⟩
   obtain ⟨e1, rfl⟩ := canon_half hc' h.symm
   exact ⟨e1.symm, by omega⟩
theorem two_ten : ∀ j : Nat, 2 ^ (3 * j) ≤ 10 ^ j
 | 0 => by decide
 | j + 1 => by
   have := two_ten j
   rw [show 3 * (j + 1) = 3 * j + 3 by omega, Nat.pow_add, Nat.pow_succ]
   exact Nat.mul_le_mul this (by decide)
theorem ten_two : ∀ j : Nat, 10 ^ (3 * j) ≤ 2 ^ (10 * j)
 | 0 => by decide
 | j + 1 => by
   have := ten_two j
   rw [show 3 * (j + 1) = 3 * j + 3 by omega, show 10 * (j + 1) = 10 * j + 10 by omega, Nat.pow_add, Nat.pow_add]
   exact Nat.mul_le_mul this (by decide)
theorem two_le_ten {k j : Nat} (h : k ≤ 3 * j) : 2 ^ k ≤ 10 ^ j := Nat.le_trans (Nat.pow_le_pow_right (by decide) h) (two_ten j)
theorem ten_le_two {k j : Nat} (h : j ≤ 3 * k) : 10 ^ j ≤ 2 ^ (10 * k) := Nat.le_trans (Nat.pow_le_pow_right (by decide) h) (ten_two k)
structure NeOK (c L : Nat) (E : Int) : Prop where
 c0 : 0 < c
 cl : c < 10 ^ L
 l4 : L ≤ 400
 lo : -330 ≤ E + L
 hi : E + L ≤ 320
theorem NeOK.num {c L : Nat} {E : Int} (h : NeOK c L E) : 0 < rnN c E ∧ rnN c E < 10 ^ 400 := by
 obtain ⟨h0, h1, h2, h3, h4⟩ := h
 obtain ⟨T, hT⟩ : ∃ T, T = 400 := ⟨_, rfl⟩
 rw [← hT] at h2 ⊢
 unfold rnN
 split
 · refine ⟨Nat.mul_pos h0 (Nat.pow_pos (by decide)), ?_⟩
   have e1 : c * 10 ^ E.toNat < 10 ^ L * 10 ^ E.toNat := Nat.mul_lt_mul_of_pos_right h1 (Nat.pow_pos (by decide))
   rw [← Nat.pow_add] at e1
   exact Nat.lt_of_lt_of_le e1 (Nat.pow_le_pow_right (by decide) (by omega))
 · exact ⟨h0, Nat.lt_of_lt_of_le h1 (Nat.pow_le_pow_right (by decide) h2)⟩
theorem NeOK.den {c L : Nat} {E : Int} (h : NeOK c L E) : rnD E ≤ 10 ^ 730 := by
 obtain ⟨h0, h1, h2, h3, h4⟩ := h
 obtain ⟨T, hT⟩ : ∃ T, T = 730 := ⟨_, rfl⟩
 rw [← hT]
 unfold rnD
 split
 · exact Nat.pow_pos (by decide)
 · exact Nat.pow_le_pow_right (by decide) (by omega)
theorem NeOK.shn {c L : Nat} {E : Int} (h : NeOK c L E) {T : Nat} (hT : 1900 ≤ T) {k : Int} (hk : -1074 ≤ k) : shN (rnN c E) k < 10 ^ T := by
 obtain ⟨_, h1⟩ := h.num
 obtain ⟨t, ht⟩ : ∃ t, t = 400 := ⟨_, rfl⟩
 rw [← ht] at h1
 unfold shN
 split
 · exact Nat.lt_of_lt_of_le h1 (Nat.pow_le_pow_right (by decide) (by omega))
 · have e := two_le_ten (k := (-k).toNat) (j := 358) (by omega)
   obtain ⟨y, hy⟩ : ∃ y, y = 358 := ⟨_, rfl⟩
   rw [← hy] at e
   have e1 : rnN c E * 2 ^ (-k).toNat < 10 ^ t * 10 ^ y := Nat.lt_of_lt_of_le (Nat.mul_lt_mul_of_pos_right h1 (Nat.two_pow_pos _)) (Nat.mul_le_mul_left _ e)
   rw [← Nat.pow_add] at e1
   exact Nat.lt_of_lt_of_le e1 (Nat.pow_le_pow_right (by decide) (by omega))
theorem NeOK.shd {c L : Nat} {E : Int} (h : NeOK c L E) {T : Nat} (hT : 1900 ≤ T) {k : Int} (hk : k ≤ 1400) : shD (rnD E) k < 10 ^ T := by
 have h1 := h.den
 obtain ⟨t, ht⟩ : ∃ t, t = 730 := ⟨_, rfl⟩
 rw [← ht] at h1
 unfold shD
 split
 · have e := two_le_ten (k := k.toNat) (j := 467) (by omega)
   obtain ⟨y, hy⟩ : ∃ y, y = 467 := ⟨_, rfl⟩
   rw [← hy] at e
   have e1 : rnD E * 2 ^ k.toNat ≤ 10 ^ t * 10 ^ y := Nat.mul_le_mul h1 e
   rw [← Nat.pow_add] at e1
   exact Nat.lt_of_le_of_lt e1 (Nat.pow_lt_pow_right (by decide) (by omega))
 · exact Nat.lt_of_le_of_lt h1 (Nat.pow_lt_pow_right (by decide) (by omega))
theorem NeOK.up {c L : Nat} {E : Int} (h : NeOK c L E) {k : Int} (hq : 0 < shN (rnN c E) k / shD (rnD E) k) : k < 1340 := by
 obtain ⟨_, h1⟩ := h.num
 have hd := rnD_pos E
 obtain ⟨t, ht⟩ : ∃ t, t = 400 := ⟨_, rfl⟩
 rw [← ht] at h1
 rcases Int.lt_or_le 0 k with h0 | h0
 · have hle : shD (rnD E) k ≤ shN (rnN c E) k := by
    rcases Nat.lt_or_ge (shN (rnN c E) k) (shD (rnD E) k) with h2 | h2
    · rw [Nat.div_eq_of_lt h2] at hq; omega
    · exact h2
   unfold shN shD at hle
   rw [if_pos h0, if_pos h0] at hle
   have e1 : 2 ^ k.toNat ≤ rnD E * 2 ^ k.toNat := Nat.le_mul_of_pos_left _ hd
   have e2 := ten_le_two (k := 134) (j := t) (by omega)
   obtain ⟨y, hy⟩ : ∃ y, y = 10 * 134 := ⟨_, rfl⟩
   rw [← hy] at e2
   have e3 : 2 ^ k.toNat < 2 ^ y := by omega
   have := (Nat.pow_lt_pow_iff_right (by decide)).1 e3
   omega
 · omega
end Go.Proofs.YtjapgpmoojfhnaaGreatDoor.Fl
namespace Go.Proofs.YtjapgpmoojfhnaaGreatDoor
open Go.RowKit Go.Lib
def sgnS (neg : Bool) : List UInt8 := if neg = true then [45] else []
theorem f4_trans {A B C D : Prop} {a W W' : World} (h : A ∧ B ∧ C ∧ D ∧ Below a.heap.size a W) (hb : Below W.heap.size W W') : Below a.heap.size a W' := h.2.2.2.2.trans (hb.mono h.2.2.2.2.size)
theorem b_drew {a W : World} (h : Below a.heap.size a W) : Below a.heap.size a W.drew := h.drew
theorem lit_112 : (⟨#[112]⟩ : ByteArray) = ⟨([112] : List UInt8).toArray⟩ := rfl
theorem lit_45 : (⟨#[45]⟩ : ByteArray) = ⟨([45] : List UInt8).toArray⟩ := rfl
theorem box_float (k : Int) (neg : Bool) (m : Int) (e : Int) (w : World) : ∃ (w2 : World) (X : Nat), w.alloc (.cells #[.int .i64 k, .bool neg, .int .u64 m, .int .i64 e] 24) = w2 ∧ w.heap.size = X ∧ Below w.heap.size w w2 ∧
 ∀ W, Below w2.heap.size w2 W → W.cell? ⟨X, 0, none⟩ = some (.int .i64 k) ∧ W.cell? ⟨X, 1, none⟩ = some (.bool neg) ∧ W.cell? ⟨X, 2, none⟩ = some (.int .u64 m) ∧ W.cell? ⟨X, 3, none⟩ = some (.int .i64 e) ∧ Below w2.heap.size w2 W := by
 refine ⟨_, _, rfl, rfl, (Below.refl _ _).alloc (Nat.le_refl _) _, fun W hW => ?_⟩
 have h1 := (hW.block w.heap.size (by simp)).trans (heap_alloc_new w _)
 exact ⟨at_block h1 0 _ rfl, at_block h1 1 _ rfl, at_block h1 2 _ rfl, at_block h1 3 _ rfl, hW⟩
theorem floattext_num (neg : Bool) (m : Nat) (e : Int) (w : World) (hm : m < 18446744073709551616) (he : -2000 ≤ e ∧ e ≤ 2000) :
 Calls Tryz.prog 15 #[.agg #[.int .i64 0, .bool neg, .int .u64 (m : Int), .int .i64 e]] w fun x w' => x = .returned (.string ⟨(sgnS neg ++ (decDigits m ++ 112 :: itoa e)).toArray⟩) ∧ Below w.heap.size w w' := by
 obtain ⟨w2, X, hw2, hX, hb2, hcells⟩ := box_float 0 neg m e w
 have OT := Lib.hid (fun W => ofText m hm W)
 have SM := Lib.hid (fun W => small_any e W (by omega))
 obtain ⟨D, hD⟩ : ∃ D : ByteArray, ⟨(decDigits m).toArray⟩ = D := ⟨_, rfl⟩
 obtain ⟨I, hI⟩ : ∃ I : ByteArray, ⟨(itoa e).toArray⟩ = I := ⟨_, rfl⟩
 rw [hD] at OT
 rw [hI] at SM
 have hDs : D.size ≤ 20 := by
  rw [← hD]
  show (decDigits m).length ≤ 20
  by_cases h0 : m = 0
  · subst h0; rw [decDigits_one (by omega)]; simp
  · rw [Lib.decDigits_length]
    have := Lib.numDigits_eq m (by omega) hm
    split at this <;> omega
 have hIs : I.size ≤ 5 := by rw [← hI]; exact Dc.itoa_len (by omega) (by omega)
 have hadd1 := fun W => run_string_add_sum (P := Tryz.prog) (w := W) D ⟨#[112]⟩ (by show D.size + 1 ≤ _; omega)
 have hadd2 := fun W => run_string_add_sum (P := Tryz.prog) (w := W) (D ++ ⟨#[112]⟩) I (by rw [ByteArray.size_append]; show D.size + 1 + I.size ≤ _; omega)
 have hadd3 := fun W => run_string_add_sum (P := Tryz.prog) (w := W) ⟨#[45]⟩ (D ++ ⟨#[112]⟩ ++ I) (by rw [ByteArray.size_append, ByteArray.size_append]; show 1 + (D.size + 1 + I.size) ≤ _; omega)
 have HDI := Lib.hid (And.intro hD hI)
 have HC := Lib.hid hcells
 have HW2 := Lib.hid hw2
 have HX := Lib.hid hX
 have hd2 : Below w2.heap.size w2 w2 := Below.refl _ _
 obtain ⟨x0, x1, x2, x3, _⟩ := hcells w2 hd2
 clear hcells hw2 hX hD hI hDs hIs hm he
 go_enter Tryz.func15, Tryz.ntmps15
 go_upto_region 1 with fail
 rw [HW2.out, HX.out]
 go_upto_region 5 with fail
 go_region_held3 (fun W => W.cell? ⟨X, 0, none⟩ = some (.int .i64 0) ∧ W.cell? ⟨X, 1, none⟩ = some (.bool neg) ∧ W.cell? ⟨X, 2, none⟩ = some (.int .u64 (m : Int)) ∧ W.cell? ⟨X, 3, none⟩ = some (.int .i64 e) ∧ Below w2.heap.size w2 W)
  ((refine HC.out _ ?_; first | assumption | exact b_drew hd2 | exact b_drew (by assumption)))
  (first | (go_at_call 50; refine (OT.out _).mono ?_; rintro x w3 ⟨A, n, c, rfl, hb3, k1, _, _⟩; have hb3' := f4_trans (by assumption) hb3) | (go_at_call 19; refine (k1 _ (by first | exact Below.refl _ _ | exact (Below.refl _ _).drew)).mono ?_; rintro x w4 ⟨rfl, hb4⟩; have hb4' := f4_trans (by assumption) hb4) | (go_at_call 51; refine (SM.out _).mono ?_; rintro x w5 ⟨rfl, hb5⟩; have hb5' := f4_trans (by assumption) hb5))
 clear x0 x1 x2 x3
 obtain ⟨x0, x1, x2, x3, _⟩ := HC.out w5 hb5'
 have hbz : Below w.heap.size w w5 := hb2.trans (hb5'.mono hb2.size)
 clear k1 hb3 hb3' hb4 hb4' hb5
 cases neg with
 | true =>
   go_wp2_with fail
   go_ret
   refine ⟨?_, hbz⟩
   rw [lit_112, lit_45, ← HDI.out.1, ← HDI.out.2, str_append, str_append, str_append]
   simp [sgnS]
 | false =>
   go_wp2_with fail
   go_ret
   refine ⟨?_, hbz⟩
   rw [lit_112, ← HDI.out.1, ← HDI.out.2, str_append, str_append]
   simp [sgnS]
theorem floattext_inf (neg : Bool) (m e : Int) (w : World) :
 Calls Tryz.prog 15 #[.agg #[.int .i64 1, .bool neg, .int .u64 m, .int .i64 e]] w fun x w' => x = .returned (.string ⟨(sgnS neg ++ [105, 110, 102]).toArray⟩) ∧ Below w.heap.size w w' := by
 obtain ⟨w2, X, hw2, hX, hb2, hcells⟩ := box_float 1 neg m e w
 have HW2 := Lib.hid hw2
 have HX := Lib.hid hX
 obtain ⟨x0, x1, x2, x3, _⟩ := hcells w2 (Below.refl _ _)
 clear hcells hw2 hX
 cases neg with
 | true =>
   go_enter Tryz.func15, Tryz.ntmps15
   go_upto_region 1 with fail
   rw [HW2.out, HX.out]
   go_wp2_with fail
   go_ret
   exact ⟨rfl, hb2⟩
 | false =>
   go_enter Tryz.func15, Tryz.ntmps15
   go_upto_region 1 with fail
   rw [HW2.out, HX.out]
   go_wp2_with fail
   go_ret
   exact ⟨rfl, hb2⟩
theorem floattext_nan (m e : Int) (w : World) :
 Calls Tryz.prog 15 #[.agg #[.int .i64 2, .bool false, .int .u64 m, .int .i64 e]] w fun x w' => x = .returned (.string ⟨#[110, 97, 110]⟩) ∧ Below w.heap.size w w' := by
 obtain ⟨w2, X, hw2, hX, hb2, hcells⟩ := box_float 2 false m e w
 have HW2 := Lib.hid hw2
 have HX := Lib.hid hX
 obtain ⟨x0, x1, x2, x3, _⟩ := hcells w2 (Below.refl _ _)
 clear hcells hw2 hX
 go_enter Tryz.func15, Tryz.ntmps15
 go_upto_region 1 with fail
 rw [HW2.out, HX.out]
 go_wp2_with fail
 go_ret
 exact ⟨rfl, hb2⟩
end Go.Proofs.YtjapgpmoojfhnaaGreatDoor
