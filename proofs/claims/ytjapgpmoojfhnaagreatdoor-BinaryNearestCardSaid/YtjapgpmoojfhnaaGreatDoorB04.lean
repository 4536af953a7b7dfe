/- The library's reading of a number of at most 64 bits times a power of ten: it is the nearest rung. Decimals as lists of digits, and their texts: plain definitions and facts, no program in sight. The texts of decimals read back: plain facts. Texts of decimals: their digits as numbers, and what a reader of them has seen up to a place. -/
import Derived.Test.YtjapgpmoojfhnaaGreatDoorB03
import Derived.Lib.AtoiAll
import Derived.Lib.ItoaNum
import Derived.Lib.ItoaMem
import Derived.Lib.Bytealg
set_option maxHeartbeats 16000000
set_option maxRecDepth 100000
set_option linter.unusedSimpArgs false
set_option linter.unusedVariables false
namespace Go.Proofs.YtjapgpmoojfhnaaGreatDoor.Fl
open Ieee
def vN (d : Nat) (p : Int) : Nat := if 0 ≤ p then d * 10 ^ p.toNat * 2 ^ 1074 else d * 2 ^ 1074
def vD (p : Int) : Nat := if 0 ≤ p then 1 else 10 ^ (-p).toNat
theorem vD_pos (p : Int) : 0 < vD p := by
 unfold vD
 split
 · decide
 · exact Nat.pow_pos (by decide)
def bitl (d : Nat) : Nat := d.log2 + 1
def pfe (d : Nat) (p : Int) : Int := min 1074 (53 - (bitl d : Int) - lp p)
def pfs (d : Nat) (p : Int) : Int := 61 - (bitl d : Int) - pfe d p - lp p
def rnd4 (u : Nat) : Nat := (u + 1 + u / 4 % 2) / 4
def pack (m : Nat) (e : Int) : Nat := if m / 4503599627370496 % 2 = 0 then m else if 972 ≤ e then 9218868437227405312 else m - 4503599627370496 + (1075 + e).toNat * 4503599627370496
def pf64 (h l d : Nat) (p : Int) : Nat :=
 if 64 ≤ pfs d p then 0 else
 let u := usc (d * 2 ^ (64 - bitl d)) h l (pfs d p).toNat
 if 36028797018963966 ≤ u then pack (rnd4 (u / 2 ||| u % 2)) (1 - pfe d p) else pack (rnd4 u) (-pfe d p)
theorem or_one (q : Nat) : q ||| 1 = if q % 2 = 0 then q + 1 else q := by
 have h := Nat.div_add_mod (q ||| 1) 2
 have h1 : (q ||| 1) % 2 = 1 := by
  rw [Nat.mod_two_eq_one_iff_testBit_zero, Nat.testBit_or]
  simp
 have h2 : (q ||| 1) / 2 = q / 2 := by
  have : (q ||| 1) >>> 1 = q >>> 1 ||| 1 >>> 1 := Nat.shiftRight_or_distrib
  simpa [Nat.shiftRight_succ] using this
 split <;> omega
theorem sticky_eq {n d n' d' : Nat} (hd : 0 < d) (hd' : 0 < d') (e : n * d' = n' * d) : sticky n d = sticky n' d' := by
 have h1 : n / d = n' / d' := by
  have a : n / d = n * d' / (d * d') := by rw [Nat.mul_div_mul_right _ _ hd']
  have b : n' / d' = n' * d / (d' * d) := by rw [Nat.mul_div_mul_right _ _ hd]
  rw [a, b, e, Nat.mul_comm d d']
 have h2 : n % d = 0 ↔ n' % d' = 0 := by
  have a : n % d * d' = n * d' % (d * d') := (Nat.mul_mod_mul_right d' n d).symm
  have b : n' % d' * d = n' * d % (d' * d) := (Nat.mul_mod_mul_right d n' d').symm
  rw [e, Nat.mul_comm d d', ← b] at a
  constructor
  · intro h
    rw [h, Nat.zero_mul] at a
    rcases Nat.mul_eq_zero.1 a.symm with h | h
    · exact h
    · omega
  · intro h
    rw [h, Nat.zero_mul] at a
    rcases Nat.mul_eq_zero.1 a with h | h
    · exact h
    · omega
 unfold sticky
 rw [h1]
 by_cases h : n % d = 0
 · rw [if_pos h, if_pos (h2.1 h)]
 · rw [if_neg h, if_neg (fun x => h (h2.2 x))]
theorem sticky_cases (n U : Nat) (hU : 0 < U) : ∃ f, f * U ≤ 4 * n ∧ 4 * n < (f + 1) * U ∧ ((4 * n = f * U ∧ sticky (4 * n) U = f) ∨ (f * U < 4 * n ∧ sticky (4 * n) U = if f % 2 = 0 then f + 1 else f)) := by
 have hd := Nat.div_add_mod (4 * n) U
 have hm := Nat.mod_lt (4 * n) hU
 rw [Nat.mul_comm U] at hd
 refine ⟨4 * n / U, ?_, ?_, ?_⟩
 · omega
 · rw [Nat.add_mul, Nat.one_mul]; omega
 · rcases Nat.eq_zero_or_pos (4 * n % U) with h | h
   · left
     rw [h] at hd
     refine ⟨by omega, ?_⟩
     rw [sticky, if_pos h, Nat.or_zero]
   · right
     refine ⟨by omega, ?_⟩
     rw [sticky, if_neg (by omega), or_one]
theorem sticky_half {n U : Nat} (hU : 0 < U) : (sticky (4 * n) U / 2 ||| sticky (4 * n) U % 2) = sticky (4 * n) (U * 2) := by
 obtain ⟨f, h0, h1, h2⟩ := sticky_cases n U hU
 obtain ⟨f', g0, g1, g2⟩ := sticky_cases n (U * 2) (by omega)
 have hf : f' = f / 2 := by
  have a1 : f' * (U * 2) = f' * 2 * U := by rw [Nat.mul_comm U 2, ← Nat.mul_assoc]
  have a2 : (f' + 1) * (U * 2) = (f' * 2 + 2) * U := by rw [Nat.mul_comm U 2, ← Nat.mul_assoc]; congr 1; omega
  rw [a1] at g0; rw [a2] at g1
  have b1 : f' * 2 < f + 1 := Nat.lt_of_mul_lt_mul_right (a := U) (by omega)
  have b2 : f < f' * 2 + 2 := Nat.lt_of_mul_lt_mul_right (a := U) (by omega)
  omega
 have a1 : f' * (U * 2) = f' * 2 * U := by rw [Nat.mul_comm U 2, ← Nat.mul_assoc]
 rw [a1] at g2
 have hodd : f % 2 = 1 → f' * 2 * U + U = f * U := fun h => by
  rw [show f = f' * 2 + 1 by omega, Nat.add_mul, Nat.one_mul]
 have heven : f % 2 = 0 → f' * 2 * U = f * U := fun h => by rw [show f = f' * 2 by omega]
 have orz : ∀ a b, b < 2 → a ||| b = if b = 0 then a else if a % 2 = 0 then a + 1 else a := by
  intro a b hb
  rcases Nat.eq_zero_or_pos b with h | h
  · subst h; simp
  · obtain rfl : b = 1 := by omega
    rw [or_one]; simp
 rw [orz _ _ (Nat.mod_lt _ (by decide))]
 rcases h2 with ⟨e1, e2⟩ | ⟨e1, e2⟩ <;> rcases g2 with ⟨f1, f2⟩ | ⟨f1, f2⟩ <;> rw [e2, f2]
 · have : f % 2 = 0 := by
    rcases Nat.mod_two_eq_zero_or_one f with h | h
    · exact h
    · have := hodd h; omega
   rw [if_pos this]; omega
 · have : f % 2 = 1 := by
    rcases Nat.mod_two_eq_zero_or_one f with h | h
    · have := heven h; omega
    · exact h
   rw [if_neg (by omega), hf]
 · exfalso
   rcases Nat.mod_two_eq_zero_or_one f with h | h
   · have := heven h; omega
   · have := hodd h; omega
 · have hu : (if f % 2 = 0 then f + 1 else f) % 2 = 1 ∧ (if f % 2 = 0 then f + 1 else f) / 2 = f / 2 := by split <;> omega
   rw [hu.1, hu.2, hf]
   simp
theorem rnd4_is {n U : Nat} (hU : 0 < U) : ∃ q, q * U ≤ n ∧ n < (q + 1) * U ∧
 ((rnd4 (sticky (4 * n) U) = q ∧ (2 * n < (2 * q + 1) * U ∨ (2 * n = (2 * q + 1) * U ∧ q % 2 = 0))) ∨ (rnd4 (sticky (4 * n) U) = q + 1 ∧ ((2 * q + 1) * U < 2 * n ∨ (2 * n = (2 * q + 1) * U ∧ q % 2 = 1)))) := by
 obtain ⟨f, h0, h1, h2⟩ := sticky_cases n U hU
 refine ⟨f / 4, ?_, ?_, ?_⟩
 · have : 4 * (f / 4) * U ≤ f * U := Nat.mul_le_mul_right _ (by omega)
   rw [Nat.mul_assoc] at this
   omega
 · have : (f + 1) * U ≤ 4 * (f / 4 + 1) * U := Nat.mul_le_mul_right _ (by omega)
   rw [Nat.mul_assoc] at this
   omega
 · obtain ⟨Q, hQ⟩ : ∃ Q, f / 4 = Q := ⟨_, rfl⟩
   rw [hQ]
   have e2 : 2 * ((2 * Q + 1) * U) = (4 * Q + 2) * U := by rw [← Nat.mul_assoc]; congr 1; omega
   have b : f = 4 * Q ∨ f = 4 * Q + 1 ∨ f = 4 * Q + 2 ∨ f = 4 * Q + 3 := by omega
   have m1 : ∀ a b : Nat, a ≤ b → a * U ≤ b * U := fun a b h => Nat.mul_le_mul_right _ h
   unfold rnd4
   rcases b with b | b | b | b <;> subst b
   · left
     have k := m1 (4 * Q + 1) (4 * Q + 1) (Nat.le_refl _)
     have k2 : (4 * Q + 2) * U = (4 * Q + 1) * U + U := by rw [← Nat.succ_mul]
     refine ⟨?_, .inl (by omega)⟩
     rcases h2 with ⟨_, e⟩ | ⟨_, e⟩ <;> rw [e]
     · omega
     · rw [if_pos (by omega)]; omega
   · left
     refine ⟨?_, .inl (by
      have := h1
      rw [show 4 * Q + 1 + 1 = 4 * Q + 2 from rfl] at this
      omega)⟩
     rcases h2 with ⟨_, e⟩ | ⟨_, e⟩ <;> rw [e]
     · omega
     · rw [if_neg (by omega)]; omega
   · rcases h2 with ⟨e1, e⟩ | ⟨e1, e⟩ <;> rw [e]
     · rcases Nat.mod_two_eq_zero_or_one Q with h | h
       · exact .inl ⟨by omega, .inr ⟨by omega, h⟩⟩
       · exact .inr ⟨by omega, .inr ⟨by omega, h⟩⟩
     · right
       rw [if_pos (by omega)]
       exact ⟨by omega, .inl (by omega)⟩
   · right
     have k2 : (4 * Q + 3) * U = (4 * Q + 2) * U + U := by rw [← Nat.succ_mul]
     refine ⟨?_, .inl (by omega)⟩
     rcases h2 with ⟨_, e⟩ | ⟨_, e⟩ <;> rw [e]
     · omega
     · rw [if_neg (by omega)]; omega
end Go.Proofs.YtjapgpmoojfhnaaGreatDoor.Fl
namespace Go.Proofs.YtjapgpmoojfhnaaGreatDoor.Dc
open Go Go.Lib
structure D where
 neg : Bool
 c : List Nat
 e : Int
 deriving DecidableEq
def lead : List Nat → List Nat
 | [] => []
 | x :: l => if x = 0 then lead l else x :: l
def trail (l : List Nat) : Nat := (l.reverse.takeWhile (· == 0)).length
def core (l : List Nat) : List Nat := l.take (l.length - trail l)
def norm (neg : Bool) (l : List Nat) (e : Int) : D := if lead l = [] then ⟨false, [], 0⟩ else ⟨neg, core (lead l), e + (trail (lead l) : Int)⟩
theorem lead_stop {l : List Nat} {x : Nat} (h : l.head? = some x) (hx : x ≠ 0) : lead l = l := by
 cases l with
 | nil => cases h
 | cons y l =>
   simp at h
   subst h
   rw [lead, if_neg hx]
theorem lead_head {l : List Nat} {x : Nat} (h : (lead l).head? = some x) : x ≠ 0 := by
 induction l with
 | nil => cases h
 | cons y l ih =>
   rw [lead] at h
   by_cases hy : y = 0
   · rw [if_pos hy] at h; exact ih h
   · rw [if_neg hy] at h; simp at h; omega
theorem lead_mem {l : List Nat} {x : Nat} (h : x ∈ lead l) : x ∈ l := by
 induction l with
 | nil => exact h
 | cons y l ih =>
   rw [lead] at h
   by_cases hy : y = 0
   · rw [if_pos hy] at h; exact List.mem_cons_of_mem _ (ih h)
   · rw [if_neg hy] at h; exact h
theorem lead_len (l : List Nat) : (lead l).length ≤ l.length := by
 induction l with
 | nil => exact Nat.le_refl _
 | cons y l ih =>
   rw [lead]
   split
   · simp; omega
   · exact Nat.le_refl _
theorem trail_le (l : List Nat) : trail l ≤ l.length := by
 have := (List.takeWhile_prefix (p := (· == 0)) (l := l.reverse)).length_le
 simpa [trail] using this
theorem trail_snoc_zero (l : List Nat) : trail (l ++ [0]) = trail l + 1 := by simp [trail]
theorem trail_snoc {l : List Nat} {x : Nat} (h : x ≠ 0) : trail (l ++ [x]) = 0 := by simp [trail, h]
theorem trail_last {l : List Nat} {x : Nat} (h : l.getLast? = some x) (hx : x ≠ 0) : trail l = 0 := by
 obtain ⟨l', rfl⟩ := List.getLast?_eq_some_iff.1 h
 exact trail_snoc hx
theorem trail_is {l : List Nat} {k : Nat} (hk : k ≤ l.length) (hz : ∀ j u, l.length - k ≤ j → l[j]? = some u → u = 0) (hs : k = l.length ∨ ∃ u, l[l.length - k - 1]? = some u ∧ u ≠ 0) : trail l = k := by
 induction k generalizing l with
 | zero =>
   rcases hs with h | ⟨u, hu, h0⟩
   · have : l = [] := List.length_eq_zero_iff.1 h.symm
     subst this; rfl
   · refine trail_last (x := u) ?_ h0
     rw [List.getLast?_eq_getElem?]; simpa using hu
 | succ k ih =>
   have hne : l ≠ [] := by intro e; subst e; simp at hk
   obtain ⟨l', x, rfl⟩ : ∃ l' x, l = l' ++ [x] := ⟨l.dropLast, l.getLast hne, (List.dropLast_concat_getLast hne).symm⟩
   have hl : (l' ++ [x]).length = l'.length + 1 := by simp
   have hx : x = 0 := hz l'.length x (by rw [hl]; omega) (by simp)
   subst hx
   rw [trail_snoc_zero]
   congr 1
   refine ih (by rw [hl] at hk; omega) (fun j u hj hu => ?_) ?_
   · by_cases hj2 : j < l'.length
     · exact hz j u (by rw [hl]; omega) (by rw [List.getElem?_append_left hj2]; exact hu)
     · rw [List.getElem?_eq_none (by omega)] at hu; cases hu
   · rcases hs with h | ⟨u, hu, h0⟩
     · left; rw [hl] at h; omega
     · by_cases hc : k = l'.length
       · exact Or.inl hc
       · right
         refine ⟨u, ?_, h0⟩
         rw [hl] at hu
         rw [show l'.length + 1 - (k + 1) - 1 = l'.length - k - 1 by omega, List.getElem?_append_left (by rw [hl] at hk; omega)] at hu
         exact hu
theorem core_len (l : List Nat) : (core l).length = l.length - trail l := by rw [core, List.length_take]; omega
theorem core_mem {l : List Nat} {x : Nat} (h : x ∈ core l) : x ∈ l := List.mem_of_mem_take h
theorem core_eq {l : List Nat} (h : trail l = 0) : core l = l := by rw [core, h]; simp
theorem mem_takeWhile {p : Nat → Bool} {l : List Nat} {y : Nat} (h : y ∈ l.takeWhile p) : p y = true := by
 induction l with
 | nil => cases h
 | cons a l ih =>
   by_cases ha : p a = true
   · rw [List.takeWhile_cons_of_pos ha] at h
     rcases List.mem_cons.1 h with rfl | h
     · exact ha
     · exact ih h
   · rw [List.takeWhile_cons_of_neg ha] at h; cases h
theorem lead_nonzero {l : List Nat} (h : lead l ≠ []) : core (lead l) ≠ [] := by
 intro e
 have h1 := core_len (lead l)
 rw [e] at h1
 have h2 := trail_le (lead l)
 have h3 : trail (lead l) = (lead l).length := by simp at h1; omega
 cases hl : lead l with
 | nil => exact h hl
 | cons x m =>
   have hx : x ≠ 0 := lead_head (l := l) (by rw [hl]; rfl)
   rw [hl] at h3
   have : ∀ y ∈ (x :: m), y = 0 := by
    have h4 : ((x :: m).reverse.takeWhile (· == 0)).length = (x :: m).reverse.length := by simpa [trail] using h3
    have h5 := (List.takeWhile_prefix (p := (· == 0)) (l := (x :: m).reverse)).eq_of_length h4
    intro y hy
    have : y ∈ (x :: m).reverse.takeWhile (· == 0) := by rw [h5]; exact List.mem_reverse.2 hy
    have := mem_takeWhile this
    simpa using this
   exact hx (this x (by simp))
theorem core_last {l : List Nat} {x : Nat} (h : (core l).getLast? = some x) : x ≠ 0 := by
 induction hn : l.length generalizing l with
 | zero =>
   have : l = [] := List.length_eq_zero_iff.1 hn
   subst this; simp [core] at h
 | succ n ih =>
   have hne : l ≠ [] := by intro e; subst e; simp at hn
   obtain ⟨l', y, rfl⟩ : ∃ l' y, l = l' ++ [y] := ⟨l.dropLast, l.getLast hne, (List.dropLast_concat_getLast hne).symm⟩
   by_cases hy : y = 0
   · subst hy
     have e : core (l' ++ [0]) = core l' := by
      rw [core, core, trail_snoc_zero, List.length_append, List.length_singleton, show l'.length + 1 - (trail l' + 1) = l'.length - trail l' by omega, List.take_append_of_le_length (by omega)]
     rw [e] at h
     exact ih h (by simpa using hn)
   · rw [core_eq (trail_snoc hy)] at h
     simp at h; omega
def Digs (l : List Nat) : Prop := ∀ x ∈ l, x < 10
def Normal (x : D) : Prop := Digs x.c ∧ (x.c = [] → x.neg = false ∧ x.e = 0) ∧ (∀ u, x.c.head? = some u → u ≠ 0) ∧ (∀ u, x.c.getLast? = some u → u ≠ 0)
theorem norm_normal {neg : Bool} {l : List Nat} {e : Int} (h : Digs l) : Normal (norm neg l e) := by
 rw [norm]
 by_cases hl : lead l = []
 · rw [if_pos hl]
   exact ⟨fun x hx => by simp at hx, fun _ => ⟨rfl, rfl⟩, fun u hu => by simp at hu, fun u hu => by simp at hu⟩
 · rw [if_neg hl]
   refine ⟨fun x hx => h x (lead_mem (core_mem hx)), fun hc => absurd hc (lead_nonzero hl), fun u hu => ?_, fun u hu => core_last hu⟩
   have hpos : 0 < (core (lead l)).length := List.length_pos_iff.2 (lead_nonzero hl)
   have : (core (lead l)).head? = (lead l).head? := by
    rw [core] at hpos ⊢
    rw [List.head?_take]
    rw [if_neg (by rw [List.length_take] at hpos; omega)]
   exact lead_head (this ▸ hu)
theorem norm_self {x : D} (h : Normal x) : norm x.neg x.c x.e = x := by
 obtain ⟨_, h1, h2, h3⟩ := h
 rw [norm]
 cases hc : x.c with
 | nil =>
   obtain ⟨a, b⟩ := h1 hc
   cases x; simp_all [lead]
 | cons y l =>
   have hl : lead (y :: l) = y :: l := lead_stop rfl (h2 y (by rw [hc]; rfl))
   have ht : trail (y :: l) = 0 := trail_last (x := (y :: l).getLast (by simp)) (List.getLast?_eq_some_getLast (by simp)) (h3 _ (by rw [hc]; exact List.getLast?_eq_some_getLast (by simp)))
   rw [hl, if_neg (by simp), core_eq ht, ht]
   cases x; simp_all
theorem norm_zero (neg : Bool) (e : Int) : norm neg [0] e = ⟨false, [], 0⟩ := by simp [norm, lead]
def limit (x : D) : Nat := if 400 < x.c.length then 6 else if x.e < -2000 ∨ 2000 < x.e then 2 else 0
theorem limit_ok {x : D} : limit x = 0 ↔ x.c.length ≤ 400 ∧ -2000 ≤ x.e ∧ x.e ≤ 2000 := by
 unfold limit
 split
 · constructor
   · intro h; cases h
   · intro h; omega
 · split
   · constructor
     · intro h; cases h
     · intro h; omega
   · constructor
     · intro _; omega
     · intro _; rfl
def digB (l : List Nat) : List UInt8 := l.map fun x => UInt8.ofNat (48 + x)
def sgnB (b : Bool) : List UInt8 := if b then [45] else []
def coefB (x : D) : List UInt8 := if x.c = [] then [48] else sgnB x.neg ++ digB x.c
def showB (x : D) : List UInt8 := coefB x ++ 101 :: itoa x.e
def Canon (x : D) : Prop := Normal x ∧ limit x = 0
theorem digB_toNat {x : Nat} (h : x < 10) : (UInt8.ofNat (48 + x)).toNat = 48 + x := by
 rw [UInt8.toNat_ofNat']; omega
theorem digB_val {l : List Nat} (h : Digs l) : (digB l).map (fun b => b.toNat - 48) = l := by
 induction l with
 | nil => rfl
 | cons x l ih =>
   have hx := digB_toNat (h x (by simp))
   have := ih fun y hy => h y (by simp [hy])
   simp only [digB, List.map_cons] at this ⊢
   rw [hx, this]
   congr 1; omega
theorem digB_mem {l : List Nat} (h : Digs l) {b : UInt8} (hb : b ∈ digB l) : 48 ≤ b.toNat ∧ b.toNat ≤ 57 := by
 simp only [digB, List.mem_map] at hb
 obtain ⟨x, hx, rfl⟩ := hb
 have := h x hx
 rw [digB_toNat this]; omega
theorem digB_inj {l m : List Nat} (hl : Digs l) (hm : Digs m) (h : digB l = digB m) : l = m := by rw [← digB_val hl, ← digB_val hm, h]
theorem coef_no_e {x : D} (h : Digs x.c) {b : UInt8} (hb : b ∈ coefB x) : b ≠ 101 := by
 rw [coefB] at hb
 by_cases hc : x.c = []
 · rw [if_pos hc] at hb; simp at hb; subst hb; decide
 · rw [if_neg hc] at hb
   rcases List.mem_append.1 hb with hb | hb
   · rw [sgnB] at hb
     split at hb
     · simp at hb; subst hb; decide
     · simp at hb
   · have := digB_mem h hb
     intro e; subst e; simp at this
theorem index_of {l m : List UInt8} {c : UInt8} (h : ∀ b ∈ l, b ≠ c) : indexByte (l ++ c :: m) c = (l.length : Int) := by
 induction l with
 | nil => simp [indexByte]
 | cons b l ih =>
   have hb : (b == c) = false := by simpa using h b (by simp)
   have := ih fun y hy => h y (by simp [hy])
   simp only [List.cons_append, indexByte, hb, this]
   rw [if_neg (by simp), if_neg (by simp <;> omega)]
   simp
theorem index_is (l : List UInt8) (c : UInt8) : (indexByte l c = -1 ∧ c ∉ l) ∨ ∃ k : Nat, indexByte l c = (k : Int) ∧ k < l.length ∧ l = l.take k ++ c :: l.drop (k + 1) ∧ ∀ b ∈ l.take k, b ≠ c := by
 induction l with
 | nil => left; exact ⟨rfl, by simp⟩
 | cons b l ih =>
   by_cases hb : b = c
   · subst hb
     right
     exact ⟨0, by simp [indexByte], by simp, by simp, by simp⟩
   · have hb' : (b == c) = false := by simpa using hb
     rcases ih with ⟨h1, h2⟩ | ⟨k, h1, h2, h3, h4⟩
     · left
       refine ⟨by simp [indexByte, hb', h1], ?_⟩
       simp [h2]; exact fun e => hb e.symm
     · right
       refine ⟨k + 1, ?_, by simpa using h2, ?_, ?_⟩
       · simp only [indexByte, hb', h1]
         rw [if_neg (by simp), if_neg (by simp <;> omega)]
         simp
       · simp only [List.take_succ_cons, List.drop_succ_cons, List.cons_append]
         rw [← h3]
       · intro y hy
         simp only [List.take_succ_cons, List.mem_cons] at hy
         rcases hy with rfl | hy
         · exact hb
         · exact h4 y hy
theorem parse_append (l m : List UInt8) : ∀ acc, parseUint10 acc (l ++ m) = match parseUint10 acc l with
 | .ok v => parseUint10 v m
 | .range => .range
 | x => x := by
 induction l with
 | nil => intro acc; rfl
 | cons c l ih =>
   intro acc
   simp only [List.cons_append, parseUint10]
   split
   · split
     · rfl
     · split
       · rfl
       · exact ih _
   · rfl
theorem dig_toNat {x : Nat} (h : x < 10) : (UInt8.ofNat (48 + x)).toNat = 48 + x := digB_toNat h
theorem parse_dec (u : Nat) (h : u < 1000000000000000000) : parseUint10 0 (decDigits u) = .ok u := by
 induction u using Nat.strongRecOn with
 | _ u ih =>
   by_cases h10 : u < 10
   · rw [decDigits, dif_pos h10]
     simp only [parseUint10, dig_toNat h10]
     rw [if_pos (by omega), if_neg (by omega), if_neg (by omega)]
     congr 1; omega
   · rw [decDigits, dif_neg h10, parse_append, ih (u / 10) (by omega) (by omega)]
     have hd : u % 10 < 10 := by omega
     simp only [parseUint10, dig_toNat hd]
     rw [if_pos (by omega), if_neg (by omega), if_neg (by omega)]
     congr 1; omega
theorem dec_ne (u : Nat) : decDigits u ≠ [] := by
 rw [decDigits]
 split
 · simp
 · simp
theorem dec_mem (u : Nat) : ∀ b ∈ decDigits u, 48 ≤ b.toNat ∧ b.toNat ≤ 57 := by
 induction u using Nat.strongRecOn with
 | _ u ih =>
   intro b hb
   rw [decDigits] at hb
   by_cases h10 : u < 10
   · rw [dif_pos h10] at hb
     simp only [List.mem_singleton] at hb
     rw [hb, dig_toNat h10]; omega
   · rw [dif_neg h10] at hb
     rcases List.mem_append.1 hb with hb | hb
     · exact ih _ (by omega) b hb
     · simp only [List.mem_singleton] at hb
       rw [hb, dig_toNat (by omega)]; omega
theorem atoi_itoa {n : Int} (h0 : -1000000000000000000 < n) (h1 : n < 1000000000000000000) : atoiAll (itoa n) = .ok n := by
 by_cases hn : n < 0
 · have hp := parse_dec n.natAbs (by omega)
   have hm : parseMag (decDigits n.natAbs) = .ok n.natAbs := by rw [parseMag, if_neg (dec_ne _), hp]
   rw [itoa, if_pos hn]
   simp [atoiAll, hm]
   rw [if_neg (by omega)]
   congr 1; omega
 · have hp := parse_dec n.toNat (by omega)
   have hm : parseMag (decDigits n.toNat) = .ok n.toNat := by rw [parseMag, if_neg (dec_ne _), hp]
   obtain ⟨b, r, hbr⟩ : ∃ b r, decDigits n.toNat = b :: r := by
    cases h : decDigits n.toNat with
    | nil => exact absurd h (dec_ne _)
    | cons b r => exact ⟨b, r, rfl⟩
   have hb := dec_mem n.toNat b (by rw [hbr]; simp)
   rw [itoa, if_neg hn]
   rw [hbr] at hm ⊢
   have h45 : ¬ b.toNat = 45 := by omega
   have h43 : ¬ b.toNat = 43 := by omega
   simp [atoiAll, h43, h45, hm]
   rw [if_neg (by omega)]
   congr 1; omega
theorem itoa_len {n : Int} (h0 : -2000 ≤ n) (h1 : n ≤ 2000) : (itoa n).length ≤ 5 := by
 have key : ∀ u, u ≤ 2000 → (decDigits u).length ≤ 4 := by
  intro u hu
  rw [decDigits]
  split
  · simp
  · rw [decDigits]
    split
    · simp
    · rw [decDigits]
      split
      · simp
      · rw [decDigits, dif_pos (by omega)]; simp
 rw [itoa]
 split
 · have := key n.natAbs (by omega)
   simp; omega
 · have := key n.toNat (by omega)
   omega
def isDig (b : UInt8) : Bool := decide (48 ≤ b.toNat) && decide (b.toNat ≤ 57)
theorem isDig_iff {b : UInt8} : isDig b = true ↔ 48 ≤ b.toNat ∧ b.toNat ≤ 57 := by simp [isDig]
def vals (l : List UInt8) : List Nat := l.map fun b => b.toNat - 48
theorem vals_digs {l : List UInt8} (h : l.all isDig = true) : Digs (vals l) := by
 intro x hx
 simp only [vals, List.mem_map] at hx
 obtain ⟨b, hb, rfl⟩ := hx
 have := isDig_iff.1 (List.all_eq_true.1 h b hb)
 omega
def intTail (l : List UInt8) : List UInt8 := if 1 < l.length ∧ l.head? = some 45 then l.drop 1 else l
def intB (l : List UInt8) : Bool := !((intTail l).length == 0) && decide ((intTail l).length ≤ 400) && !((intTail l).head? == some 48 && decide (1 < l.length)) && (intTail l).all isDig
def unsign (l : List UInt8) : List UInt8 := if l.head? = some 45 then l.drop 1 else l
def readP (l : List UInt8) : Option D :=
 let k := indexByte l 101
 if k < 0 then none else
 if intB (l.take k.toNat) = false then none else
 if 6 < (l.length : Int) - k then none else
 match atoiAll (l.drop (k.toNat + 1)) with
 | .ok e =>
   let x := norm (l.head? == some 45) (vals (unsign (l.take k.toNat))) e
   if limit x = 0 ∧ showB x = l then some x else none
 | _ => none
theorem digB_all {l : List Nat} (h : Digs l) : (digB l).all isDig = true := List.all_eq_true.2 fun _ hb => isDig_iff.2 (digB_mem h hb)
theorem digB_len (l : List Nat) : (digB l).length = l.length := by simp [digB]
theorem digB_not45 {l : List Nat} (h : Digs l) : (digB l).head? ≠ some 45 := by
 intro e
 cases l with
 | nil => cases e
 | cons x l =>
   have := digB_toNat (h x (by simp))
   simp only [digB, List.map_cons, List.head?_cons, Option.some.injEq] at e
   rw [e] at this; simp at this; omega
theorem digB_not48 {l : List Nat} (h : Digs l) (h0 : ∀ u, l.head? = some u → u ≠ 0) : (digB l).head? ≠ some 48 := by
 intro e
 cases l with
 | nil => cases e
 | cons x l =>
   have h1 := digB_toNat (h x (by simp))
   have := h0 x rfl
   simp only [digB, List.map_cons, List.head?_cons, Option.some.injEq] at e
   rw [e] at h1; simp at h1; omega
theorem coef_reads {x : D} (h : Canon x) : intB (coefB x) = true ∧ (coefB x ≠ []) ∧ ((coefB x).head? == some 45) = x.neg ∧ (x.c = [] → vals (unsign (coefB x)) = [0]) ∧ (x.c ≠ [] → vals (unsign (coefB x)) = x.c) := by
 obtain ⟨⟨hd, h1, h2, _⟩, hl⟩ := h
 have hl := limit_ok.1 hl
 by_cases hc : x.c = []
 · have e : coefB x = [48] := by rw [coefB, if_pos hc]
   rw [e, (h1 hc).1]
   exact ⟨by decide, by simp, by decide, fun _ => by decide, fun h => absurd hc h⟩
 · have e : coefB x = sgnB x.neg ++ digB x.c := by rw [coefB, if_neg hc]
   have hne : digB x.c ≠ [] := by simp [digB, hc]
   have hlen : 0 < x.c.length := List.length_pos_iff.2 hc
   have hall := digB_all hd
   have h48 := digB_not48 hd h2
   have h45 := digB_not45 hd
   have hdl := digB_len x.c
   rw [e]
   cases hn : x.neg with
   | true =>
     have et : intTail (sgnB true ++ digB x.c) = digB x.c := by
      rw [intTail, if_pos ⟨by simp [sgnB]; omega, rfl⟩]; rfl
     have eu : unsign (sgnB true ++ digB x.c) = digB x.c := by rw [unsign, if_pos (show (sgnB true ++ digB x.c).head? = some 45 from rfl)]; rfl
     refine ⟨?_, by simp [sgnB], rfl, fun h => absurd h hc, fun _ => by rw [eu]; exact digB_val hd⟩
     rw [intB, et, hall]
     simp [hdl, h48]
     exact ⟨hc, by omega⟩
   | false =>
     have es : sgnB false ++ digB x.c = digB x.c := rfl
     rw [es]
     have et : intTail (digB x.c) = digB x.c := by rw [intTail, if_neg (by simp [h45])]
     have eu : unsign (digB x.c) = digB x.c := by rw [unsign, if_neg h45]
     refine ⟨?_, hne, by simpa using h45, fun h => absurd h hc, fun _ => by rw [eu]; exact digB_val hd⟩
     rw [intB, et, hall]
     simp [hdl, h48]
     exact ⟨hc, by omega⟩
theorem norm_canon {x : D} (h : Canon x) {v : List Nat} (h0 : x.c = [] → v = [0]) (h1 : x.c ≠ [] → v = x.c) : norm x.neg v x.e = x := by
 by_cases hc : x.c = []
 · rw [h0 hc, norm_zero]
   obtain ⟨a, b⟩ := h.1.2.1 hc
   cases x; simp_all
 · rw [h1 hc]; exact norm_self h.1
theorem readP_show {x : D} (h : Canon x) : readP (showB x) = some x := by
 obtain ⟨i1, i2, i3, i4, i5⟩ := coef_reads h
 have hl := limit_ok.1 h.2
 have hk : indexByte (showB x) 101 = ((coefB x).length : Int) := index_of fun b hb => coef_no_e h.1.1 hb
 have ht : (showB x).take (coefB x).length = coefB x := by rw [showB, List.take_left']; rfl
 have hdr : (showB x).drop ((coefB x).length + 1) = itoa x.e := by
  rw [showB, List.drop_append]; simp
 have hh : (showB x).head? = (coefB x).head? := by
  cases hc : coefB x with
  | nil => exact absurd hc i2
  | cons a b => rw [showB, hc]; rfl
 have hil := itoa_len hl.2.1 hl.2.2
 have hsl : (showB x).length = (coefB x).length + 1 + (itoa x.e).length := by simp [showB]; omega
 unfold readP
 simp only [hk, Int.toNat_natCast]
 rw [if_neg (by omega), ht, i1, if_neg (by decide), if_neg (by omega), hdr, atoi_itoa (by omega) (by omega)]
 simp only [hh, i3]
 rw [norm_canon h i4 i5, if_pos ⟨h.2, rfl⟩]
theorem intB_digs {l : List UInt8} (h : intB l = true) : Digs (vals (unsign l)) := by
 simp only [intB, Bool.and_eq_true] at h
 obtain ⟨⟨⟨h0, _⟩, _⟩, h⟩ := h
 refine vals_digs ?_
 rw [unsign]
 by_cases h45 : l.head? = some 45
 · rw [if_pos h45]
   by_cases hl : 1 < l.length
   · rw [intTail, if_pos ⟨hl, h45⟩] at h; exact h
   · cases l with
     | nil => cases h45
     | cons a l =>
       have : l = [] := by
        cases l with
        | nil => rfl
        | cons b l => simp at hl
       subst this; rfl
 · rw [if_neg h45]
   rw [intTail, if_neg (by simp [h45])] at h; exact h
theorem readP_some {l : List UInt8} {x : D} (h : readP l = some x) : Canon x ∧ showB x = l := by
 unfold readP at h
 simp only at h
 split at h
 · cases h
 · split at h
   · cases h
   · rename_i hi
     split at h
     · cases h
     · split at h
       · split at h
         · rename_i hx
           injection h with h
           subst h
           exact ⟨⟨norm_normal (intB_digs (by simpa using hi)), hx.1⟩, hx.2⟩
         · cases h
       · cases h
theorem readP_iff {l : List UInt8} {x : D} : readP l = some x ↔ Canon x ∧ showB x = l := ⟨readP_some, fun ⟨h1, h2⟩ => h2 ▸ readP_show h1⟩
end Go.Proofs.YtjapgpmoojfhnaaGreatDoor.Dc
namespace Go.Proofs.YtjapgpmoojfhnaaGreatDoor.Fl
open Go Go.Lib
open Go.Proofs.YtjapgpmoojfhnaaGreatDoor.Dc (Digs digB sgnB dec_ne)
def num (l : List Nat) : Nat := l.foldl (fun a d => 10 * a + d) 0
theorem num_snoc (l : List Nat) (x : Nat) : num (l ++ [x]) = 10 * num l + x := by simp [num]
theorem foldl_num (l : List Nat) : ∀ a, l.foldl (fun a d => 10 * a + d) a = a * 10 ^ l.length + num l := by
 induction l with
 | nil => intro a; simp [num]
 | cons x l ih =>
   intro a
   have e2 : num (x :: l) = (10 * 0 + x) * 10 ^ l.length + num l := ih (10 * 0 + x)
   have e1 : (x :: l).foldl (fun a d => 10 * a + d) a = (10 * a + x) * 10 ^ l.length + num l := ih (10 * a + x)
   rw [e1, e2, List.length_cons, Nat.pow_succ, Nat.add_mul, Nat.mul_zero, Nat.zero_add]
   have : 10 * a * 10 ^ l.length = a * (10 ^ l.length * 10) := by rw [Nat.mul_comm 10 a, Nat.mul_assoc, Nat.mul_comm 10]
   omega
theorem num_append (l m : List Nat) : num (l ++ m) = num l * 10 ^ m.length + num m := by
 conv => lhs; unfold num
 rw [List.foldl_append, foldl_num m]
 rfl
theorem num_cons (x : Nat) (l : List Nat) : num (x :: l) = x * 10 ^ l.length + num l := by
 have := num_append [x] l
 rw [List.singleton_append] at this
 rw [this]
 simp [num]
theorem num_lt : ∀ {l : List Nat}, Digs l → num l < 10 ^ l.length
 | [], _ => by simp [num]
 | x :: l, h => by
   rw [num_cons, List.length_cons, Nat.pow_succ]
   have h1 := num_lt (l := l) (fun y hy => h y (by simp [hy]))
   have h2 := h x (by simp)
   have h3 : x * 10 ^ l.length ≤ 9 * 10 ^ l.length := Nat.mul_le_mul_right _ (by omega)
   omega
theorem num_ge {x : Nat} {l : List Nat} (hx : x ≠ 0) : 10 ^ l.length ≤ num (x :: l) := by
 rw [num_cons]
 have : 1 * 10 ^ l.length ≤ x * 10 ^ l.length := Nat.mul_le_mul_right _ (by omega)
 omega
theorem num_dec (u : Nat) : ∃ el : List Nat, Digs el ∧ decDigits u = digB el ∧ num el = u ∧ el ≠ [] := by
 induction u using Nat.strongRecOn with
 | _ u ih =>
   rw [decDigits]
   by_cases h : u < 10
   · rw [dif_pos h]
     exact ⟨[u], fun x hx => by simp at hx; omega, by simp [digB], by simp [num], by simp⟩
   · rw [dif_neg h]
     obtain ⟨el, h1, h2, h3, h4⟩ := ih (u / 10) (by omega)
     refine ⟨el ++ [u % 10], fun x hx => ?_, ?_, ?_, by simp⟩
     · rcases List.mem_append.1 hx with hx | hx
       · exact h1 x hx
       · simp at hx; omega
     · rw [h2]; simp [digB]
     · rw [num_snoc, h3]; omega
theorem take_snoc {l : List Nat} {k x : Nat} (h : l[k]? = some x) : l.take (k + 1) = l.take k ++ [x] := by
 rw [List.take_add_one, h]
 rfl
def mantN (l : List Nat) (k : Nat) : Nat := num (l.take (min k 19))
def truncN (l : List Nat) (k : Nat) : Bool := ((l.take k).drop 19).any (· != 0)
theorem mantN_succ {l : List Nat} {k x : Nat} (h : l[k]? = some x) (hk : k < 19) : mantN l (k + 1) = 10 * mantN l k + x := by
 unfold mantN
 rw [show min (k + 1) 19 = k + 1 by omega, show min k 19 = k by omega, take_snoc h, num_snoc]
theorem mantN_stay {l : List Nat} {k : Nat} (hk : 19 ≤ k) : mantN l (k + 1) = mantN l k := by
 unfold mantN
 rw [show min (k + 1) 19 = 19 by omega, show min k 19 = 19 by omega]
theorem truncN_low {l : List Nat} {k : Nat} (hk : k ≤ 19) : truncN l k = false := by
 unfold truncN
 rw [List.drop_eq_nil_of_le (by rw [List.length_take]; omega)]
 rfl
theorem truncN_succ {l : List Nat} {k x : Nat} (h : l[k]? = some x) (hk : 19 ≤ k) : truncN l (k + 1) = (truncN l k || (x != 0)) := by
 obtain ⟨hkl, _⟩ := List.getElem?_eq_some_iff.1 h
 unfold truncN
 rw [take_snoc h, List.drop_append_of_le_length (by rw [List.length_take]; omega), List.any_append]
 simp
theorem mantN_lt {l : List Nat} (h : Digs l) (k : Nat) : mantN l k < 10 ^ min k 19 := by
 unfold mantN
 have := num_lt (l := l.take (min k 19)) (fun x hx => h x (List.mem_of_mem_take hx))
 refine Nat.lt_of_lt_of_le this (Nat.pow_le_pow_right (by decide) ?_)
 rw [List.length_take]
 omega
structure DecTxt (s : ByteArray) (g : Bool) (l : List Nat) (E : Int) : Prop where
 txt : s.data.toList = sgnB g ++ digB l ++ 101 :: itoa E
 digs : Digs l
 head : ∀ x, l.head? = some x → x ≠ 0
 ne : l ≠ []
 len : l.length ≤ 400
 lo : -2000 ≤ E
 hi : E ≤ 2000
structure DecPos (s : ByteArray) (g : Bool) (l : List Nat) (E : Int) (a b : Nat) (el : List Nat) : Prop where
 ha : a = if g then 1 else 0
 sign : g = true → s.data.toList[0]? = some 45
 coef : ∀ k x : Nat, l[k]? = some x → s.data.toList[a + k]? = some (UInt8.ofNat (48 + x))
 e : s.data.toList[a + l.length]? = some 101
 hb : b = a + l.length + 1 + (if E < 0 then 1 else 0)
 esign : E < 0 → s.data.toList[a + l.length + 1]? = some 45
 edigs : Digs el
 edig : ∀ k x : Nat, el[k]? = some x → s.data.toList[b + k]? = some (UInt8.ofNat (48 + x))
 enum : num el = E.natAbs
 ene : el ≠ []
 size : s.size = b + el.length
theorem DecTxt.pos {s : ByteArray} {g : Bool} {l : List Nat} {E : Int} (h : DecTxt s g l E) : ∃ a b el, DecPos s g l E a b el := by
 obtain ⟨el, h1, h2, h3, h4⟩ := num_dec E.natAbs
 have hit : itoa E = (if E < 0 then [45] else []) ++ digB el := by
  unfold itoa
  split
  · rw [h2]; rfl
  · rw [show E.toNat = E.natAbs by omega, h2]; rfl
 have hsz : s.size = s.data.toList.length := by simp
 have hdl : ∀ m : List Nat, (digB m).length = m.length := fun m => by simp [digB]
 have hsl : (sgnB g).length = if g then 1 else 0 := by cases g <;> rfl
 have hal : (sgnB g ++ digB l).length = (if g then 1 else 0) + l.length := by rw [List.length_append, hsl, hdl]
 have hdig : ∀ (m : List Nat) (k x : Nat), m[k]? = some x → (digB m)[k]? = some (UInt8.ofNat (48 + x)) := fun m k x hx => by simp [digB, hx]
 have htxt := h.txt
 rw [hit] at htxt
 have hel : (if E < 0 then ([45] : List UInt8) else []).length = if E < 0 then 1 else 0 := by split <;> rfl
 refine ⟨if g then 1 else 0, (if g then 1 else 0) + l.length + 1 + (if E < 0 then 1 else 0), el, rfl, ?_, ?_, ?_, rfl, ?_, h1, ?_, h3, h4, ?_⟩
 · intro hg
   rw [htxt, hg]; rfl
 · intro k x hx
   have hk : k < l.length := (List.getElem?_eq_some_iff.1 hx).1
   rw [htxt, List.getElem?_append_left (by rw [hal]; omega), List.getElem?_append_right (by rw [hsl]; omega), hsl, Nat.add_sub_cancel_left]
   exact hdig l k x hx
 · rw [htxt, List.getElem?_append_right (by rw [hal]; omega), hal, Nat.sub_self]; rfl
 · intro hE
   rw [htxt, List.getElem?_append_right (by rw [hal]; omega), hal, Nat.add_sub_cancel_left, if_pos hE]; rfl
 · intro k x hx
   rw [htxt, List.getElem?_append_right (by rw [hal]; omega), hal, show (if g then 1 else 0) + l.length + 1 + (if E < 0 then 1 else 0) + k - ((if g then 1 else 0) + l.length) = ((if E < 0 then 1 else 0) + k) + 1 by omega, List.getElem?_cons_succ,
    List.getElem?_append_right (by rw [hel]; omega), hel, Nat.add_sub_cancel_left]
   exact hdig el k x hx
 · rw [hsz, htxt, List.length_append, hal, List.length_cons, List.length_append, hel, hdl]
   omega
theorem DecTxt.first {s : ByteArray} {g : Bool} {l : List Nat} {E : Int} (h : DecTxt s g l E) : ∃ x r, l = x :: r ∧ x ≠ 0 := by
 cases hl : l with
 | nil => exact absurd hl h.ne
 | cons x r => exact ⟨x, r, rfl, h.head x (by rw [hl]; rfl)⟩
theorem mantN_pos {s : ByteArray} {g : Bool} {l : List Nat} {E : Int} (h : DecTxt s g l E) {k : Nat} (hk : 0 < k) (_ : k ≤ l.length) : 0 < mantN l k := by
 obtain ⟨x, r, rfl, hx⟩ := h.first
 unfold mantN
 obtain ⟨j, hj⟩ : ∃ j, min k 19 = j + 1 := ⟨min k 19 - 1, by omega⟩
 rw [hj, List.take_succ_cons]
 exact Nat.lt_of_lt_of_le (Nat.pow_pos (by decide)) (num_ge hx)
theorem few_digits {s : ByteArray} {g : Bool} {l : List Nat} {E : Int} (h : DecTxt s g l E) {a b : Nat} {el : List Nat} (P : DecPos s g l E a b el) : el.length ≤ 5 := by
 have h1 : s.data.toList.length = s.size := by simp
 have h2 := P.size
 rw [h.txt] at h1
 have h3 := Go.Proofs.YtjapgpmoojfhnaaGreatDoor.Dc.itoa_len h.lo h.hi
 have h4 : (sgnB g).length = if g then 1 else 0 := by cases g <;> rfl
 have h5 : (digB l).length = l.length := by simp [digB]
 rw [List.length_append, List.length_append, List.length_cons, h4, h5] at h1
 have hb := P.hb
 have ha := P.ha
 rw [← ha] at h1
 split at hb <;> omega
end Go.Proofs.YtjapgpmoojfhnaaGreatDoor.Fl
