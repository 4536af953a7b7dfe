/- Decimals as lists of digits, and their texts: plain definitions and facts, no program in sight. -/

import Derived.Lib.AtoiAll
import Derived.Lib.ItoaNum
import Derived.Lib.ItoaMem
import Derived.Lib.Bytealg
namespace Go.Proofs.YtjapgpmoojfhnaaGreatDoor.Dc
open Go Go.Lib

/-- A number: its sign, its digits, its exponent. -/
structure D where
  neg : Bool
  c : List Nat
  e : Int
  deriving DecidableEq

/-- Without leading zeros. -/
def lead : List Nat → List Nat
  | [] => []
  | x :: l => if x = 0 then lead l else x :: l
/-- How many zeros stand at the end. -/
def trail (l : List Nat) : Nat := (l.reverse.takeWhile (· == 0)).length
/-- Without trailing zeros. -/
def core (l : List Nat) : List Nat := l.take (l.length - trail l)
def norm (neg : Bool) (l : List Nat) (e : Int) : D := if lead l = [] then ⟨false, [], 0⟩ else ⟨neg, core (lead l), e + (trail (lead l) : Int)⟩

theorem lead_zeros {l : List Nat} : ∀ {k : Nat}, (∀ j u, j < k → l[j]? = some u → u = 0) → lead l = lead (l.drop k) := by
  induction l with
  | nil => intro k _; simp
  | cons x l ih =>
    intro k h
    cases k with
    | zero => rfl
    | succ k =>
      have hx : x = 0 := h 0 x (by omega) rfl
      rw [lead, if_pos hx, List.drop_succ_cons]
      exact ih fun j u hj hu => h (j + 1) u (by omega) (by simpa using hu)
theorem lead_stop {l : List Nat} {x : Nat} (h : l.head? = some x) (hx : x ≠ 0) : lead l = l := by
  cases l with
  | nil => cases h
  | cons y l =>
    simp at h
    subst h
    rw [lead, if_neg hx]
theorem lead_head {l : List Nat} {x : Nat} (h : (lead l).head? = some x) : x ≠ 0 := by
  induction l with
  | nil => cases h
  | cons y l ih =>
    rw [lead] at h
    by_cases hy : y = 0
    · rw [if_pos hy] at h; exact ih h
    · rw [if_neg hy] at h; simp at h; omega
theorem lead_mem {l : List Nat} {x : Nat} (h : x ∈ lead l) : x ∈ l := by
  induction l with
  | nil => exact h
  | cons y l ih =>
    rw [lead] at h
    by_cases hy : y = 0
    · rw [if_pos hy] at h; exact List.mem_cons_of_mem _ (ih h)
    · rw [if_neg hy] at h; exact h
theorem lead_len (l : List Nat) : (lead l).length ≤ l.length := by
  induction l with
  | nil => exact Nat.le_refl _
  | cons y l ih =>
    rw [lead]
    split
    · simp; omega
    · exact Nat.le_refl _
theorem trail_le (l : List Nat) : trail l ≤ l.length := by
  have := (List.takeWhile_prefix (p := (· == 0)) (l := l.reverse)).length_le
  simpa [trail] using this
theorem trail_snoc_zero (l : List Nat) : trail (l ++ [0]) = trail l + 1 := by simp [trail]
theorem trail_snoc {l : List Nat} {x : Nat} (h : x ≠ 0) : trail (l ++ [x]) = 0 := by simp [trail, h]
/-- Whose last digit is not zero has no zeros at the end. -/
theorem trail_last {l : List Nat} {x : Nat} (h : l.getLast? = some x) (hx : x ≠ 0) : trail l = 0 := by
  obtain ⟨l', rfl⟩ := List.getLast?_eq_some_iff.1 h
  exact trail_snoc hx
/-- k zeros at the end, and before them none. -/
theorem trail_is {l : List Nat} {k : Nat} (hk : k ≤ l.length) (hz : ∀ j u, l.length - k ≤ j → l[j]? = some u → u = 0) (hs : k = l.length ∨ ∃ u, l[l.length - k - 1]? = some u ∧ u ≠ 0) : trail l = k := by
  induction k generalizing l with
  | zero =>
    rcases hs with h | ⟨u, hu, h0⟩
    · have : l = [] := List.length_eq_zero_iff.1 h.symm
      subst this; rfl
    · refine trail_last (x := u) ?_ h0
      rw [List.getLast?_eq_getElem?]; simpa using hu
  | succ k ih =>
    have hne : l ≠ [] := by intro e; subst e; simp at hk
    obtain ⟨l', x, rfl⟩ : ∃ l' x, l = l' ++ [x] := ⟨l.dropLast, l.getLast hne, (List.dropLast_concat_getLast hne).symm⟩
    have hl : (l' ++ [x]).length = l'.length + 1 := by simp
    have hx : x = 0 := hz l'.length x (by rw [hl]; omega) (by simp)
    subst hx
    rw [trail_snoc_zero]
    congr 1
    refine ih (by rw [hl] at hk; omega) (fun j u hj hu => ?_) ?_
    · by_cases hj2 : j < l'.length
      · exact hz j u (by rw [hl]; omega) (by rw [List.getElem?_append_left hj2]; exact hu)
      · rw [List.getElem?_eq_none (by omega)] at hu; cases hu
    · rcases hs with h | ⟨u, hu, h0⟩
      · left; rw [hl] at h; omega
      · by_cases hc : k = l'.length
        · exact Or.inl hc
        · right
          refine ⟨u, ?_, h0⟩
          rw [hl] at hu
          rw [show l'.length + 1 - (k + 1) - 1 = l'.length - k - 1 by omega, List.getElem?_append_left (by rw [hl] at hk; omega)] at hu
          exact hu
theorem core_len (l : List Nat) : (core l).length = l.length - trail l := by rw [core, List.length_take]; omega
theorem core_mem {l : List Nat} {x : Nat} (h : x ∈ core l) : x ∈ l := List.mem_of_mem_take h
theorem core_eq {l : List Nat} (h : trail l = 0) : core l = l := by rw [core, h]; simp
theorem mem_takeWhile {p : Nat → Bool} {l : List Nat} {y : Nat} (h : y ∈ l.takeWhile p) : p y = true := by
  induction l with
  | nil => cases h
  | cons a l ih =>
    by_cases ha : p a = true
    · rw [List.takeWhile_cons_of_pos ha] at h
      rcases List.mem_cons.1 h with rfl | h
      · exact ha
      · exact ih h
    · rw [List.takeWhile_cons_of_neg ha] at h; cases h
theorem lead_nonzero {l : List Nat} (h : lead l ≠ []) : core (lead l) ≠ [] := by
  intro e
  have h1 := core_len (lead l)
  rw [e] at h1
  have h2 := trail_le (lead l)
  have h3 : trail (lead l) = (lead l).length := by simp at h1; omega
  cases hl : lead l with
  | nil => exact h hl
  | cons x m =>
    have hx : x ≠ 0 := lead_head (l := l) (by rw [hl]; rfl)
    rw [hl] at h3
    have : ∀ y ∈ (x :: m), y = 0 := by
      have h4 : ((x :: m).reverse.takeWhile (· == 0)).length = (x :: m).reverse.length := by simpa [trail] using h3
      have h5 := (List.takeWhile_prefix (p := (· == 0)) (l := (x :: m).reverse)).eq_of_length h4
      intro y hy
      have : y ∈ (x :: m).reverse.takeWhile (· == 0) := by rw [h5]; exact List.mem_reverse.2 hy
      have := mem_takeWhile this
      simpa using this
    exact hx (this x (by simp))
/-- The last digit of a core is not zero. -/
theorem core_last {l : List Nat} {x : Nat} (h : (core l).getLast? = some x) : x ≠ 0 := by
  induction hn : l.length generalizing l with
  | zero =>
    have : l = [] := List.length_eq_zero_iff.1 hn
    subst this; simp [core] at h
  | succ n ih =>
    have hne : l ≠ [] := by intro e; subst e; simp at hn
    obtain ⟨l', y, rfl⟩ : ∃ l' y, l = l' ++ [y] := ⟨l.dropLast, l.getLast hne, (List.dropLast_concat_getLast hne).symm⟩
    by_cases hy : y = 0
    · subst hy
      have e : core (l' ++ [0]) = core l' := by
        rw [core, core, trail_snoc_zero, List.length_append, List.length_singleton, show l'.length + 1 - (trail l' + 1) = l'.length - trail l' by omega, List.take_append_of_le_length (by omega)]
      rw [e] at h
      exact ih h (by simpa using hn)
    · rw [core_eq (trail_snoc hy)] at h
      simp at h; omega

/-- Digits only. -/
def Digs (l : List Nat) : Prop := ∀ x ∈ l, x < 10
/-- As norm leaves a number. -/
def Normal (x : D) : Prop := Digs x.c ∧ (x.c = [] → x.neg = false ∧ x.e = 0) ∧ (∀ u, x.c.head? = some u → u ≠ 0) ∧ (∀ u, x.c.getLast? = some u → u ≠ 0)
theorem norm_normal {neg : Bool} {l : List Nat} {e : Int} (h : Digs l) : Normal (norm neg l e) := by
  rw [norm]
  by_cases hl : lead l = []
  · rw [if_pos hl]
    exact ⟨fun x hx => by simp at hx, fun _ => ⟨rfl, rfl⟩, fun u hu => by simp at hu, fun u hu => by simp at hu⟩
  · rw [if_neg hl]
    refine ⟨fun x hx => h x (lead_mem (core_mem hx)), fun hc => absurd hc (lead_nonzero hl), fun u hu => ?_, fun u hu => core_last hu⟩
    have hpos : 0 < (core (lead l)).length := List.length_pos_iff.2 (lead_nonzero hl)
    have : (core (lead l)).head? = (lead l).head? := by
      rw [core] at hpos ⊢
      rw [List.head?_take]
      rw [if_neg (by rw [List.length_take] at hpos; omega)]
    exact lead_head (this ▸ hu)
theorem norm_self {x : D} (h : Normal x) : norm x.neg x.c x.e = x := by
  obtain ⟨_, h1, h2, h3⟩ := h
  rw [norm]
  cases hc : x.c with
  | nil =>
    obtain ⟨a, b⟩ := h1 hc
    cases x; simp_all [lead]
  | cons y l =>
    have hl : lead (y :: l) = y :: l := lead_stop rfl (h2 y (by rw [hc]; rfl))
    have ht : trail (y :: l) = 0 := trail_last (x := (y :: l).getLast (by simp)) (List.getLast?_eq_some_getLast (by simp)) (h3 _ (by rw [hc]; exact List.getLast?_eq_some_getLast (by simp)))
    rw [hl, if_neg (by simp), core_eq ht, ht]
    cases x; simp_all
theorem norm_zero (neg : Bool) (e : Int) : norm neg [0] e = ⟨false, [], 0⟩ := by simp [norm, lead]
theorem norm_nil (neg : Bool) (e : Int) : norm neg [] e = ⟨false, [], 0⟩ := by simp [norm, lead]

/-- The error of a number beyond the limits. -/
def limit (x : D) : Nat := if 400 < x.c.length then 6 else if x.e < -2000 ∨ 2000 < x.e then 2 else 0
theorem limit_ok {x : D} : limit x = 0 ↔ x.c.length ≤ 400 ∧ -2000 ≤ x.e ∧ x.e ≤ 2000 := by
  unfold limit
  split
  · constructor
    · intro h; cases h
    · intro h; omega
  · split
    · constructor
      · intro h; cases h
      · intro h; omega
    · constructor
      · intro _; omega
      · intro _; rfl

def digB (l : List Nat) : List UInt8 := l.map fun x => UInt8.ofNat (48 + x)
def sgnB (b : Bool) : List UInt8 := if b then [45] else []
def coefB (x : D) : List UInt8 := if x.c = [] then [48] else sgnB x.neg ++ digB x.c
def showB (x : D) : List UInt8 := coefB x ++ 101 :: itoa x.e
/-- A canonical number within the limits. -/
def Canon (x : D) : Prop := Normal x ∧ limit x = 0

theorem digB_toNat {x : Nat} (h : x < 10) : (UInt8.ofNat (48 + x)).toNat = 48 + x := by
  rw [UInt8.toNat_ofNat']; omega
theorem digB_val {l : List Nat} (h : Digs l) : (digB l).map (fun b => b.toNat - 48) = l := by
  induction l with
  | nil => rfl
  | cons x l ih =>
    have hx := digB_toNat (h x (by simp))
    have := ih fun y hy => h y (by simp [hy])
    simp only [digB, List.map_cons] at this ⊢
    rw [hx, this]
    congr 1; omega
theorem digB_mem {l : List Nat} (h : Digs l) {b : UInt8} (hb : b ∈ digB l) : 48 ≤ b.toNat ∧ b.toNat ≤ 57 := by
  simp only [digB, List.mem_map] at hb
  obtain ⟨x, hx, rfl⟩ := hb
  have := h x hx
  rw [digB_toNat this]; omega
theorem digB_inj {l m : List Nat} (hl : Digs l) (hm : Digs m) (h : digB l = digB m) : l = m := by rw [← digB_val hl, ← digB_val hm, h]
theorem coef_no_e {x : D} (h : Digs x.c) {b : UInt8} (hb : b ∈ coefB x) : b ≠ 101 := by
  rw [coefB] at hb
  by_cases hc : x.c = []
  · rw [if_pos hc] at hb; simp at hb; subst hb; decide
  · rw [if_neg hc] at hb
    rcases List.mem_append.1 hb with hb | hb
    · rw [sgnB] at hb
      split at hb
      · simp at hb; subst hb; decide
      · simp at hb
    · have := digB_mem h hb
      intro e; subst e; simp at this
theorem index_of {l m : List UInt8} {c : UInt8} (h : ∀ b ∈ l, b ≠ c) : indexByte (l ++ c :: m) c = (l.length : Int) := by
  induction l with
  | nil => simp [indexByte]
  | cons b l ih =>
    have hb : (b == c) = false := by simpa using h b (by simp)
    have := ih fun y hy => h y (by simp [hy])
    simp only [List.cons_append, indexByte, hb, this]
    rw [if_neg (by simp), if_neg (by simp <;> omega)]
    simp
/-- What an index tells. -/
theorem index_is (l : List UInt8) (c : UInt8) : (indexByte l c = -1 ∧ c ∉ l) ∨ ∃ k : Nat, indexByte l c = (k : Int) ∧ k < l.length ∧ l = l.take k ++ c :: l.drop (k + 1) ∧ ∀ b ∈ l.take k, b ≠ c := by
  induction l with
  | nil => left; exact ⟨rfl, by simp⟩
  | cons b l ih =>
    by_cases hb : b = c
    · subst hb
      right
      exact ⟨0, by simp [indexByte], by simp, by simp, by simp⟩
    · have hb' : (b == c) = false := by simpa using hb
      rcases ih with ⟨h1, h2⟩ | ⟨k, h1, h2, h3, h4⟩
      · left
        refine ⟨by simp [indexByte, hb', h1], ?_⟩
        simp [h2]; exact fun e => hb e.symm
      · right
        refine ⟨k + 1, ?_, by simpa using h2, ?_, ?_⟩
        · simp only [indexByte, hb', h1]
          rw [if_neg (by simp), if_neg (by simp <;> omega)]
          simp
        · simp only [List.take_succ_cons, List.drop_succ_cons, List.cons_append]
          rw [← h3]
        · intro y hy
          simp only [List.take_succ_cons, List.mem_cons] at hy
          rcases hy with rfl | hy
          · exact hb
          · exact h4 y hy
end Go.Proofs.YtjapgpmoojfhnaaGreatDoor.Dc
