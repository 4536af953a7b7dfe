/- Decimals as lists of digits, and their texts: plain definitions and facts, no program in sight. The texts of decimals read back: plain facts. Words for memory: a slice value that reads as a list of cells; what a call hands back. No function of the program is walked here. -/
import Derived.Test.YtjapgpmoojfhnaaGreatDoorProg
import Derived.Lib.AtoiAll
import Derived.Lib.ItoaNum
import Derived.Lib.ItoaMem
import Derived.Lib.Bytealg
import Derived.Below
import Derived.Laws.OwnMore
import Derived.Deep.AppendLies
import Derived.Deep.Draws
import Derived.OwnWalk
import Derived.Lib.OthersKept
import Derived.OneCell
import Derived.WalkKit
import Derived.WalkLawsBesides
import Derived.Lib.Hide
import Derived.Deep.LoopGhost
import Derived.Deep.DeepFit
import Derived.Laws.DeepStrings4
import Derived.WalkSpells
import Derived.Deep.RegionHeld3
import Derived.Deep.DeepCutAuto
import Derived.Deep.CutBlock
import Derived.Deep.QuietTactic
import Derived.BigQuiet
import Derived.IntWalk
import Derived.Laws.IdiomStrings
import Derived.Laws.CopyOwn
import Derived.Laws.BytesString
import Derived.Laws.MakeOwn
import Derived.Laws.BytesArg
namespace Go.Proofs.YtjapgpmoojfhnaaGreatDoor.Dc
open Go Go.Lib

/-- A number: its sign, its digits, its exponent. -/
structure D where
  neg : Bool
  c : List Nat
  e : Int
  deriving DecidableEq

/-- Without leading zeros. -/
def lead : List Nat → List Nat
  | [] => []
  | x :: l => if x = 0 then lead l else x :: l
/-- How many zeros stand at the end. -/
def trail (l : List Nat) : Nat := (l.reverse.takeWhile (· == 0)).length
/-- Without trailing zeros. -/
def core (l : List Nat) : List Nat := l.take (l.length - trail l)
def norm (neg : Bool) (l : List Nat) (e : Int) : D := if lead l = [] then ⟨false, [], 0⟩ else ⟨neg, core (lead l), e + (trail (lead l) : Int)⟩

theorem lead_stop {l : List Nat} {x : Nat} (h : l.head? = some x) (hx : x ≠ 0) : lead l = l := by
  cases l with
  | nil => cases h
  | cons y l =>
    simp at h
    subst h
    rw [lead, if_neg hx]
theorem lead_head {l : List Nat} {x : Nat} (h : (lead l).head? = some x) : x ≠ 0 := by
  induction l with
  | nil => cases h
  | cons y l ih =>
    rw [lead] at h
    by_cases hy : y = 0
    · rw [if_pos hy] at h; exact ih h
    · rw [if_neg hy] at h; simp at h; omega
theorem lead_mem {l : List Nat} {x : Nat} (h : x ∈ lead l) : x ∈ l := by
  induction l with
  | nil => exact h
  | cons y l ih =>
    rw [lead] at h
    by_cases hy : y = 0
    · rw [if_pos hy] at h; exact List.mem_cons_of_mem _ (ih h)
    · rw [if_neg hy] at h; exact h
theorem lead_len (l : List Nat) : (lead l).length ≤ l.length := by
  induction l with
  | nil => exact Nat.le_refl _
  | cons y l ih =>
    rw [lead]
    split
    · simp; omega
    · exact Nat.le_refl _
theorem trail_le (l : List Nat) : trail l ≤ l.length := by
  have := (List.takeWhile_prefix (p := (· == 0)) (l := l.reverse)).length_le
  simpa [trail] using this
theorem trail_snoc_zero (l : List Nat) : trail (l ++ [0]) = trail l + 1 := by simp [trail]
theorem trail_snoc {l : List Nat} {x : Nat} (h : x ≠ 0) : trail (l ++ [x]) = 0 := by simp [trail, h]
/-- Whose last digit is not zero has no zeros at the end. -/
theorem trail_last {l : List Nat} {x : Nat} (h : l.getLast? = some x) (hx : x ≠ 0) : trail l = 0 := by
  obtain ⟨l', rfl⟩ := List.getLast?_eq_some_iff.1 h
  exact trail_snoc hx
/-- k zeros at the end, and before them none. -/
theorem trail_is {l : List Nat} {k : Nat} (hk : k ≤ l.length) (hz : ∀ j u, l.length - k ≤ j → l[j]? = some u → u = 0) (hs : k = l.length ∨ ∃ u, l[l.length - k - 1]? = some u ∧ u ≠ 0) : trail l = k := by
  induction k generalizing l with
  | zero =>
    rcases hs with h | ⟨u, hu, h0⟩
    · have : l = [] := List.length_eq_zero_iff.1 h.symm
      subst this; rfl
    · refine trail_last (x := u) ?_ h0
      rw [List.getLast?_eq_getElem?]; simpa using hu
  | succ k ih =>
    have hne : l ≠ [] := by intro e; subst e; simp at hk
    obtain ⟨l', x, rfl⟩ : ∃ l' x, l = l' ++ [x] := ⟨l.dropLast, l.getLast hne, (List.dropLast_concat_getLast hne).symm⟩
    have hl : (l' ++ [x]).length = l'.length + 1 := by simp
    have hx : x = 0 := hz l'.length x (by rw [hl]; omega) (by simp)
    subst hx
    rw [trail_snoc_zero]
    congr 1
    refine ih (by rw [hl] at hk; omega) (fun j u hj hu => ?_) ?_
    · by_cases hj2 : j < l'.length
      · exact hz j u (by rw [hl]; omega) (by rw [List.getElem?_append_left hj2]; exact hu)
      · rw [List.getElem?_eq_none (by omega)] at hu; cases hu
    · rcases hs with h | ⟨u, hu, h0⟩
      · left; rw [hl] at h; omega
      · by_cases hc : k = l'.length
        · exact Or.inl hc
        · right
          refine ⟨u, ?_, h0⟩
          rw [hl] at hu
          rw [show l'.length + 1 - (k + 1) - 1 = l'.length - k - 1 by omega, List.getElem?_append_left (by rw [hl] at hk; omega)] at hu
          exact hu
theorem core_len (l : List Nat) : (core l).length = l.length - trail l := by rw [core, List.length_take]; omega
theorem core_mem {l : List Nat} {x : Nat} (h : x ∈ core l) : x ∈ l := List.mem_of_mem_take h
theorem core_eq {l : List Nat} (h : trail l = 0) : core l = l := by rw [core, h]; simp
theorem mem_takeWhile {p : Nat → Bool} {l : List Nat} {y : Nat} (h : y ∈ l.takeWhile p) : p y = true := by
  induction l with
  | nil => cases h
  | cons a l ih =>
    by_cases ha : p a = true
    · rw [List.takeWhile_cons_of_pos ha] at h
      rcases List.mem_cons.1 h with rfl | h
      · exact ha
      · exact ih h
    · rw [List.takeWhile_cons_of_neg ha] at h; cases h
theorem lead_nonzero {l : List Nat} (h : lead l ≠ []) : core (lead l) ≠ [] := by
  intro e
  have h1 := core_len (lead l)
  rw [e] at h1
  have h2 := trail_le (lead l)
  have h3 : trail (lead l) = (lead l).length := by simp at h1; omega
  cases hl : lead l with
  | nil => exact h hl
  | cons x m =>
    have hx : x ≠ 0 := lead_head (l := l) (by rw [hl]; rfl)
    rw [hl] at h3
    have : ∀ y ∈ (x :: m), y = 0 := by
      have h4 : ((x :: m).reverse.takeWhile (· == 0)).length = (x :: m).reverse.length := by simpa [trail] using h3
      have h5 := (List.takeWhile_prefix (p := (· == 0)) (l := (x :: m).reverse)).eq_of_length h4
      intro y hy
      have : y ∈ (x :: m).reverse.takeWhile (· == 0) := by rw [h5]; exact List.mem_reverse.2 hy
      have := mem_takeWhile this
      simpa using this
    exact hx (this x (by simp))
/-- The last digit of a core is not zero. -/
theorem core_last {l : List Nat} {x : Nat} (h : (core l).getLast? = some x) : x ≠ 0 := by
  induction hn : l.length generalizing l with
  | zero =>
    have : l = [] := List.length_eq_zero_iff.1 hn
    subst this; simp [core] at h
  | succ n ih =>
    have hne : l ≠ [] := by intro e; subst e; simp at hn
    obtain ⟨l', y, rfl⟩ : ∃ l' y, l = l' ++ [y] := ⟨l.dropLast, l.getLast hne, (List.dropLast_concat_getLast hne).symm⟩
    by_cases hy : y = 0
    · subst hy
      have e : core (l' ++ [0]) = core l' := by
        rw [core, core, trail_snoc_zero, List.length_append, List.length_singleton, show l'.length + 1 - (trail l' + 1) = l'.length - trail l' by omega, List.take_append_of_le_length (by omega)]
      rw [e] at h
      exact ih h (by simpa using hn)
    · rw [core_eq (trail_snoc hy)] at h
      simp at h; omega

/-- Digits only. -/
def Digs (l : List Nat) : Prop := ∀ x ∈ l, x < 10
/-- As norm leaves a number. -/
def Normal (x : D) : Prop := Digs x.c ∧ (x.c = [] → x.neg = false ∧ x.e = 0) ∧ (∀ u, x.c.head? = some u → u ≠ 0) ∧ (∀ u, x.c.getLast? = some u → u ≠ 0)
theorem norm_normal {neg : Bool} {l : List Nat} {e : Int} (h : Digs l) : Normal (norm neg l e) := by
  rw [norm]
  by_cases hl : lead l = []
  · rw [if_pos hl]
    exact ⟨fun x hx => by simp at hx, fun _ => ⟨rfl, rfl⟩, fun u hu => by simp at hu, fun u hu => by simp at hu⟩
  · rw [if_neg hl]
    refine ⟨fun x hx => h x (lead_mem (core_mem hx)), fun hc => absurd hc (lead_nonzero hl), fun u hu => ?_, fun u hu => core_last hu⟩
    have hpos : 0 < (core (lead l)).length := List.length_pos_iff.2 (lead_nonzero hl)
    have : (core (lead l)).head? = (lead l).head? := by
      rw [core] at hpos ⊢
      rw [List.head?_take]
      rw [if_neg (by rw [List.length_take] at hpos; omega)]
    exact lead_head (this ▸ hu)
theorem norm_self {x : D} (h : Normal x) : norm x.neg x.c x.e = x := by
  obtain ⟨_, h1, h2, h3⟩ := h
  rw [norm]
  cases hc : x.c with
  | nil =>
    obtain ⟨a, b⟩ := h1 hc
    cases x; simp_all [lead]
  | cons y l =>
    have hl : lead (y :: l) = y :: l := lead_stop rfl (h2 y (by rw [hc]; rfl))
    have ht : trail (y :: l) = 0 := trail_last (x := (y :: l).getLast (by simp)) (List.getLast?_eq_some_getLast (by simp)) (h3 _ (by rw [hc]; exact List.getLast?_eq_some_getLast (by simp)))
    rw [hl, if_neg (by simp), core_eq ht, ht]
    cases x; simp_all
theorem norm_zero (neg : Bool) (e : Int) : norm neg [0] e = ⟨false, [], 0⟩ := by simp [norm, lead]
/-- The error of a number beyond the limits. -/
def limit (x : D) : Nat := if 400 < x.c.length then 6 else if x.e < -2000 ∨ 2000 < x.e then 2 else 0
theorem limit_ok {x : D} : limit x = 0 ↔ x.c.length ≤ 400 ∧ -2000 ≤ x.e ∧ x.e ≤ 2000 := by
  unfold limit
  split
  · constructor
    · intro h; cases h
    · intro h; omega
  · split
    · constructor
      · intro h; cases h
      · intro h; omega
    · constructor
      · intro _; omega
      · intro _; rfl

def digB (l : List Nat) : List UInt8 := l.map fun x => UInt8.ofNat (48 + x)
def sgnB (b : Bool) : List UInt8 := if b then [45] else []
def coefB (x : D) : List UInt8 := if x.c = [] then [48] else sgnB x.neg ++ digB x.c
def showB (x : D) : List UInt8 := coefB x ++ 101 :: itoa x.e
/-- A canonical number within the limits. -/
def Canon (x : D) : Prop := Normal x ∧ limit x = 0

theorem digB_toNat {x : Nat} (h : x < 10) : (UInt8.ofNat (48 + x)).toNat = 48 + x := by
  rw [UInt8.toNat_ofNat']; omega
theorem digB_val {l : List Nat} (h : Digs l) : (digB l).map (fun b => b.toNat - 48) = l := by
  induction l with
  | nil => rfl
  | cons x l ih =>
    have hx := digB_toNat (h x (by simp))
    have := ih fun y hy => h y (by simp [hy])
    simp only [digB, List.map_cons] at this ⊢
    rw [hx, this]
    congr 1; omega
theorem digB_mem {l : List Nat} (h : Digs l) {b : UInt8} (hb : b ∈ digB l) : 48 ≤ b.toNat ∧ b.toNat ≤ 57 := by
  simp only [digB, List.mem_map] at hb
  obtain ⟨x, hx, rfl⟩ := hb
  have := h x hx
  rw [digB_toNat this]; omega
theorem coef_no_e {x : D} (h : Digs x.c) {b : UInt8} (hb : b ∈ coefB x) : b ≠ 101 := by
  rw [coefB] at hb
  by_cases hc : x.c = []
  · rw [if_pos hc] at hb; simp at hb; subst hb; decide
  · rw [if_neg hc] at hb
    rcases List.mem_append.1 hb with hb | hb
    · rw [sgnB] at hb
      split at hb
      · simp at hb; subst hb; decide
      · simp at hb
    · have := digB_mem h hb
      intro e; subst e; simp at this
theorem index_of {l m : List UInt8} {c : UInt8} (h : ∀ b ∈ l, b ≠ c) : indexByte (l ++ c :: m) c = (l.length : Int) := by
  induction l with
  | nil => simp [indexByte]
  | cons b l ih =>
    have hb : (b == c) = false := by simpa using h b (by simp)
    have := ih fun y hy => h y (by simp [hy])
    simp only [List.cons_append, indexByte, hb, this]
    rw [if_neg (by simp), if_neg (by simp <;> omega)]
    simp
/-- What an index tells. -/
theorem index_is (l : List UInt8) (c : UInt8) : (indexByte l c = -1 ∧ c ∉ l) ∨ ∃ k : Nat, indexByte l c = (k : Int) ∧ k < l.length ∧ l = l.take k ++ c :: l.drop (k + 1) ∧ ∀ b ∈ l.take k, b ≠ c := by
  induction l with
  | nil => left; exact ⟨rfl, by simp⟩
  | cons b l ih =>
    by_cases hb : b = c
    · subst hb
      right
      exact ⟨0, by simp [indexByte], by simp, by simp, by simp⟩
    · have hb' : (b == c) = false := by simpa using hb
      rcases ih with ⟨h1, h2⟩ | ⟨k, h1, h2, h3, h4⟩
      · left
        refine ⟨by simp [indexByte, hb', h1], ?_⟩
        simp [h2]; exact fun e => hb e.symm
      · right
        refine ⟨k + 1, ?_, by simpa using h2, ?_, ?_⟩
        · simp only [indexByte, hb', h1]
          rw [if_neg (by simp), if_neg (by simp <;> omega)]
          simp
        · simp only [List.take_succ_cons, List.drop_succ_cons, List.cons_append]
          rw [← h3]
        · intro y hy
          simp only [List.take_succ_cons, List.mem_cons] at hy
          rcases hy with rfl | hy
          · exact hb
          · exact h4 y hy
end Go.Proofs.YtjapgpmoojfhnaaGreatDoor.Dc

namespace Go.Proofs.YtjapgpmoojfhnaaGreatDoor.Dc
open Go Go.Lib

theorem parse_append (l m : List UInt8) : ∀ acc, parseUint10 acc (l ++ m) = match parseUint10 acc l with
    | .ok v => parseUint10 v m
    | .range => .range
    | x => x := by
  induction l with
  | nil => intro acc; rfl
  | cons c l ih =>
    intro acc
    simp only [List.cons_append, parseUint10]
    split
    · split
      · rfl
      · split
        · rfl
        · exact ih _
    · rfl
theorem dig_toNat {x : Nat} (h : x < 10) : (UInt8.ofNat (48 + x)).toNat = 48 + x := digB_toNat h
theorem parse_dec (u : Nat) (h : u < 1000000000000000000) : parseUint10 0 (decDigits u) = .ok u := by
  induction u using Nat.strongRecOn with
  | _ u ih =>
    by_cases h10 : u < 10
    · rw [decDigits, dif_pos h10]
      simp only [parseUint10, dig_toNat h10]
      rw [if_pos (by omega), if_neg (by omega), if_neg (by omega)]
      congr 1; omega
    · rw [decDigits, dif_neg h10, parse_append, ih (u / 10) (by omega) (by omega)]
      have hd : u % 10 < 10 := by omega
      simp only [parseUint10, dig_toNat hd]
      rw [if_pos (by omega), if_neg (by omega), if_neg (by omega)]
      congr 1; omega
theorem dec_ne (u : Nat) : decDigits u ≠ [] := by
  rw [decDigits]
  split
  · simp
  · simp
theorem dec_mem (u : Nat) : ∀ b ∈ decDigits u, 48 ≤ b.toNat ∧ b.toNat ≤ 57 := by
  induction u using Nat.strongRecOn with
  | _ u ih =>
    intro b hb
    rw [decDigits] at hb
    by_cases h10 : u < 10
    · rw [dif_pos h10] at hb
      simp only [List.mem_singleton] at hb
      rw [hb, dig_toNat h10]; omega
    · rw [dif_neg h10] at hb
      rcases List.mem_append.1 hb with hb | hb
      · exact ih _ (by omega) b hb
      · simp only [List.mem_singleton] at hb
        rw [hb, dig_toNat (by omega)]; omega
theorem atoi_itoa {n : Int} (h0 : -1000000000000000000 < n) (h1 : n < 1000000000000000000) : atoiAll (itoa n) = .ok n := by
  by_cases hn : n < 0
  · have hp := parse_dec n.natAbs (by omega)
    have hm : parseMag (decDigits n.natAbs) = .ok n.natAbs := by rw [parseMag, if_neg (dec_ne _), hp]
    rw [itoa, if_pos hn]
    simp [atoiAll, hm]
    rw [if_neg (by omega)]
    congr 1; omega
  · have hp := parse_dec n.toNat (by omega)
    have hm : parseMag (decDigits n.toNat) = .ok n.toNat := by rw [parseMag, if_neg (dec_ne _), hp]
    obtain ⟨b, r, hbr⟩ : ∃ b r, decDigits n.toNat = b :: r := by
      cases h : decDigits n.toNat with
      | nil => exact absurd h (dec_ne _)
      | cons b r => exact ⟨b, r, rfl⟩
    have hb := dec_mem n.toNat b (by rw [hbr]; simp)
    rw [itoa, if_neg hn]
    rw [hbr] at hm ⊢
    have h45 : ¬ b.toNat = 45 := by omega
    have h43 : ¬ b.toNat = 43 := by omega
    simp [atoiAll, h43, h45, hm]
    rw [if_neg (by omega)]
    congr 1; omega
theorem itoa_len {n : Int} (h0 : -2000 ≤ n) (h1 : n ≤ 2000) : (itoa n).length ≤ 5 := by
  have key : ∀ u, u ≤ 2000 → (decDigits u).length ≤ 4 := by
    intro u hu
    rw [decDigits]
    split
    · simp
    · rw [decDigits]
      split
      · simp
      · rw [decDigits]
        split
        · simp
        · rw [decDigits, dif_pos (by omega)]; simp
  rw [itoa]
  split
  · have := key n.natAbs (by omega)
    simp; omega
  · have := key n.toNat (by omega)
    omega

def isDig (b : UInt8) : Bool := decide (48 ≤ b.toNat) && decide (b.toNat ≤ 57)
theorem isDig_iff {b : UInt8} : isDig b = true ↔ 48 ≤ b.toNat ∧ b.toNat ≤ 57 := by simp [isDig]
def vals (l : List UInt8) : List Nat := l.map fun b => b.toNat - 48
theorem vals_digs {l : List UInt8} (h : l.all isDig = true) : Digs (vals l) := by
  intro x hx
  simp only [vals, List.mem_map] at hx
  obtain ⟨b, hb, rfl⟩ := hx
  have := isDig_iff.1 (List.all_eq_true.1 h b hb)
  omega
/-- What stands behind the sign of an integer. -/
def intTail (l : List UInt8) : List UInt8 := if 1 < l.length ∧ l.head? = some 45 then l.drop 1 else l
/-- The canonical texts of integers. -/
def intB (l : List UInt8) : Bool := !((intTail l).length == 0) && decide ((intTail l).length ≤ 400) && !((intTail l).head? == some 48 && decide (1 < l.length)) && (intTail l).all isDig
/-- Without a minus sign. -/
def unsign (l : List UInt8) : List UInt8 := if l.head? = some 45 then l.drop 1 else l

def readP (l : List UInt8) : Option D :=
  let k := indexByte l 101
  if k < 0 then none else
  if intB (l.take k.toNat) = false then none else
  if 6 < (l.length : Int) - k then none else
  match atoiAll (l.drop (k.toNat + 1)) with
  | .ok e =>
    let x := norm (l.head? == some 45) (vals (unsign (l.take k.toNat))) e
    if limit x = 0 ∧ showB x = l then some x else none
  | _ => none

theorem digB_all {l : List Nat} (h : Digs l) : (digB l).all isDig = true := List.all_eq_true.2 fun _ hb => isDig_iff.2 (digB_mem h hb)
theorem digB_len (l : List Nat) : (digB l).length = l.length := by simp [digB]
theorem digB_not45 {l : List Nat} (h : Digs l) : (digB l).head? ≠ some 45 := by
  intro e
  cases l with
  | nil => cases e
  | cons x l =>
    have := digB_toNat (h x (by simp))
    simp only [digB, List.map_cons, List.head?_cons, Option.some.injEq] at e
    rw [e] at this; simp at this; omega
theorem digB_not48 {l : List Nat} (h : Digs l) (h0 : ∀ u, l.head? = some u → u ≠ 0) : (digB l).head? ≠ some 48 := by
  intro e
  cases l with
  | nil => cases e
  | cons x l =>
    have h1 := digB_toNat (h x (by simp))
    have := h0 x rfl
    simp only [digB, List.map_cons, List.head?_cons, Option.some.injEq] at e
    rw [e] at h1; simp at h1; omega
/-- The coefficient of a canonical number: what its readers see. -/
theorem coef_reads {x : D} (h : Canon x) : intB (coefB x) = true ∧ (coefB x ≠ []) ∧ ((coefB x).head? == some 45) = x.neg ∧ (x.c = [] → vals (unsign (coefB x)) = [0]) ∧ (x.c ≠ [] → vals (unsign (coefB x)) = x.c) := by
  obtain ⟨⟨hd, h1, h2, _⟩, hl⟩ := h
  have hl := limit_ok.1 hl
  by_cases hc : x.c = []
  · have e : coefB x = [48] := by rw [coefB, if_pos hc]
    rw [e, (h1 hc).1]
    exact ⟨by decide, by simp, by decide, fun _ => by decide, fun h => absurd hc h⟩
  · have e : coefB x = sgnB x.neg ++ digB x.c := by rw [coefB, if_neg hc]
    have hne : digB x.c ≠ [] := by simp [digB, hc]
    have hlen : 0 < x.c.length := List.length_pos_iff.2 hc
    have hall := digB_all hd
    have h48 := digB_not48 hd h2
    have h45 := digB_not45 hd
    have hdl := digB_len x.c
    rw [e]
    cases hn : x.neg with
    | true =>
      have et : intTail (sgnB true ++ digB x.c) = digB x.c := by
        rw [intTail, if_pos ⟨by simp [sgnB]; omega, rfl⟩]; rfl
      have eu : unsign (sgnB true ++ digB x.c) = digB x.c := by rw [unsign, if_pos (show (sgnB true ++ digB x.c).head? = some 45 from rfl)]; rfl
      refine ⟨?_, by simp [sgnB], rfl, fun h => absurd h hc, fun _ => by rw [eu]; exact digB_val hd⟩
      rw [intB, et, hall]
      simp [hdl, h48]
      exact ⟨hc, by omega⟩
    | false =>
      have es : sgnB false ++ digB x.c = digB x.c := rfl
      rw [es]
      have et : intTail (digB x.c) = digB x.c := by rw [intTail, if_neg (by simp [h45])]
      have eu : unsign (digB x.c) = digB x.c := by rw [unsign, if_neg h45]
      refine ⟨?_, hne, by simpa using h45, fun h => absurd h hc, fun _ => by rw [eu]; exact digB_val hd⟩
      rw [intB, et, hall]
      simp [hdl, h48]
      exact ⟨hc, by omega⟩
theorem norm_canon {x : D} (h : Canon x) {v : List Nat} (h0 : x.c = [] → v = [0]) (h1 : x.c ≠ [] → v = x.c) : norm x.neg v x.e = x := by
  by_cases hc : x.c = []
  · rw [h0 hc, norm_zero]
    obtain ⟨a, b⟩ := h.1.2.1 hc
    cases x; simp_all
  · rw [h1 hc]; exact norm_self h.1
/-- The reader of the program reads just the canonical texts. -/
theorem readP_show {x : D} (h : Canon x) : readP (showB x) = some x := by
  obtain ⟨i1, i2, i3, i4, i5⟩ := coef_reads h
  have hl := limit_ok.1 h.2
  have hk : indexByte (showB x) 101 = ((coefB x).length : Int) := index_of fun b hb => coef_no_e h.1.1 hb
  have ht : (showB x).take (coefB x).length = coefB x := by rw [showB, List.take_left']; rfl
  have hdr : (showB x).drop ((coefB x).length + 1) = itoa x.e := by
    rw [showB, List.drop_append]; simp
  have hh : (showB x).head? = (coefB x).head? := by
    cases hc : coefB x with
    | nil => exact absurd hc i2
    | cons a b => rw [showB, hc]; rfl
  have hil := itoa_len hl.2.1 hl.2.2
  have hsl : (showB x).length = (coefB x).length + 1 + (itoa x.e).length := by simp [showB]; omega
  unfold readP
  simp only [hk, Int.toNat_natCast]
  rw [if_neg (by omega), ht, i1, if_neg (by decide), if_neg (by omega), hdr, atoi_itoa (by omega) (by omega)]
  simp only [hh, i3]
  rw [norm_canon h i4 i5, if_pos ⟨h.2, rfl⟩]
theorem intB_digs {l : List UInt8} (h : intB l = true) : Digs (vals (unsign l)) := by
  simp only [intB, Bool.and_eq_true] at h
  obtain ⟨⟨⟨h0, _⟩, _⟩, h⟩ := h
  refine vals_digs ?_
  rw [unsign]
  by_cases h45 : l.head? = some 45
  · rw [if_pos h45]
    by_cases hl : 1 < l.length
    · rw [intTail, if_pos ⟨hl, h45⟩] at h; exact h
    · cases l with
      | nil => cases h45
      | cons a l =>
        have : l = [] := by
          cases l with
          | nil => rfl
          | cons b l => simp at hl
        subst this; rfl
  · rw [if_neg h45]
    rw [intTail, if_neg (by simp [h45])] at h; exact h
theorem readP_some {l : List UInt8} {x : D} (h : readP l = some x) : Canon x ∧ showB x = l := by
  unfold readP at h
  simp only at h
  split at h
  · cases h
  · split at h
    · cases h
    · rename_i hi
      split at h
      · cases h
      · split at h
        · split at h
          · rename_i hx
            injection h with h
            subst h
            exact ⟨⟨norm_normal (intB_digs (by simpa using hi)), hx.1⟩, hx.2⟩
          · cases h
        · cases h
theorem readP_iff {l : List UInt8} {x : D} : readP l = some x ↔ Canon x ∧ showB x = l := ⟨readP_some, fun ⟨h1, h2⟩ => h2 ▸ readP_show h1⟩
end Go.Proofs.YtjapgpmoojfhnaaGreatDoor.Dc

namespace Go.Proofs.YtjapgpmoojfhnaaGreatDoor
open Go.RowKit

theorem block_of_add (a : Addr) (n : Nat) : (a.add n).block = a.block := by unfold Addr.add; split <;> rfl
/-- The slice's address A and length n read as the one-cell elements xs, below block B. -/
def Reads (w : World) (B : Nat) (A : Option Addr) (n : Nat) (xs : List Value) : Prop :=
  xs.length = n ∧ (0 < n → ∃ b off, A = some ⟨b, off, none⟩ ∧ b < B ∧ ∀ j u, xs[j]? = some u → w.cell? ⟨b, off + j, none⟩ = some u)

section
variable {w w' : World} {B B' n : Nat} {A : Option Addr} {xs : List Value}
theorem Reads.none_ : Reads w B A 0 [] := ⟨rfl, fun h => absurd h (by omega)⟩
theorem Reads.len (h : Reads w B A n xs) : xs.length = n := h.1
theorem Reads.at_ {k : Nat} (h : Reads w B A n xs) (hk : k < n) : ∃ b off u, A = some ⟨b, off, none⟩ ∧ b < B ∧ xs[k]? = some u ∧ w.cell? ⟨b, off + k, none⟩ = some u := by
  obtain ⟨b, off, e, hb, hc⟩ := h.2 (by omega)
  have hl : k < xs.length := by have := h.1; omega
  exact ⟨b, off, xs[k], e, hb, List.getElem?_eq_getElem hl, hc k _ (List.getElem?_eq_getElem hl)⟩
theorem Reads.keep (h : Reads w B A n xs) (hk : ∀ p : Addr, p.block < B → w'.cell? p = w.cell? p) : Reads w' B A n xs :=
  ⟨h.1, fun hn => by
    obtain ⟨b, off, e, hb, hc⟩ := h.2 hn
    exact ⟨b, off, e, hb, fun j u hu => (hk ⟨b, off + j, none⟩ hb).trans (hc j u hu)⟩⟩
theorem Reads.more (h : Reads w B A n xs) (hB : B ≤ B') : Reads w B' A n xs :=
  ⟨h.1, fun hn => by
    obtain ⟨b, off, e, hb, hc⟩ := h.2 hn
    exact ⟨b, off, e, by omega, hc⟩⟩
theorem Reads.below (h : Reads w B A n xs) (hb : Below B w w') : Reads w' B A n xs := h.keep fun _ hp => hb.cell hp
theorem Reads.on (h : Reads w w.heap.size A n xs) (hb : Below w.heap.size w w') : Reads w' w'.heap.size A n xs := (h.below hb).more hb.size
theorem Reads.drew (h : Reads w B A n xs) : Reads w.drew B A n xs := h
theorem Reads.drewN (h : Reads w B A n xs) (k : Nat) : Reads (w.drewN k) B A n xs := h
theorem Reads.alloc (h : Reads w B A n xs) (hB : B ≤ w.heap.size) (o : Obj) : Reads (w.alloc o) B A n xs := h.keep fun p hp => World.cell?_alloc_lt w o p (by omega)
theorem Reads.setCell (h : Reads w B A n xs) {p : Addr} (hB : B ≤ p.block) (u : Value) : Reads (w.setCell p u) B A n xs :=
  h.keep fun q hq => World.cell?_setCell_other w p q u (fun e => by subst e; omega)
theorem Reads.grown (h : Reads w B A n xs) {row : Option Nat} (hg : w.grownBy w' row) (hB : B ≤ w.heap.size) (hr : ∀ g, row = some g → B ≤ g) : Reads w' B A n xs :=
  h.keep fun p hp => World.cell?_of_block (hg.block p.block (by omega) (fun e => by have := hr _ e.symm; omega))
/-- From what a call owns. -/
theorem Reads.of_own {base : Nat} {e : TypeId} {c : Nat} (h : w.ownsRow base e 1 (.slice A n c) n xs) : Reads w w.heap.size A n xs := by
  refine ⟨by simpa using h.1, fun hn => ?_⟩
  obtain ⟨g, cap, hv, _, hlt⟩ := h.form hn
  have hA : A = some ⟨g, 0, none⟩ := by injection hv
  subst hA
  refine ⟨g, 0, rfl, hlt, fun j u hu => ?_⟩
  have := h.cells (g := g) rfl j u hu
  simpa [Addr.add] using (by
    rcases Nat.eq_zero_or_pos j with hj | hj
    · subst hj; simpa [Addr.add] using this
    · simpa [Addr.add, Nat.ne_of_gt hj] using this : w.cell? ⟨g, j, none⟩ = some u)
end

/-- What an owned value looks like. -/
theorem own_form {w : World} {base : Nat} {e : TypeId} {v : Value} {n : Nat} {xs : List Value} (h : w.ownsRow base e 1 v n xs) : ∃ A c, v = .slice A n c := by
  rcases h.2 with ⟨rfl, h2⟩ | ⟨g, cap, cur, rfl, _⟩
  · subst h2
    exact ⟨none, 0, rfl⟩
  · exact ⟨_, _, rfl⟩

/-- What is owned stays owned where nothing that was there has turned. -/
theorem own_below {w w' : World} {base : Nat} {e : TypeId} {size : Nat} {v : Value} {n : Nat} {xs : List Value} (h : w.ownsRow base e size v n xs) (hb : Below w.heap.size w w') : w'.ownsRow base e size v n xs := by
  have hlt := h.lt
  obtain ⟨h1, h2⟩ := h
  refine ⟨h1, ?_⟩
  rcases h2 with h2 | ⟨g, cap, cur, rfl, b, c, d⟩
  · exact .inl h2
  · exact .inr ⟨g, cap, cur, rfl, b, by rw [hb.block g (hlt g rfl).2]; exact c, d⟩

/-- A value handed back that is a slice and reads as xs. -/
def Hands (w : World) (v : Value) (xs : List Value) : Prop := ∃ A c, v = .slice A xs.length c ∧ Reads w w.heap.size A xs.length xs
theorem Hands.nil (w : World) : Hands w (.slice none 0 0) [] := ⟨none, 0, rfl, Reads.none_⟩
theorem Hands.of_own {w : World} {base : Nat} {e : TypeId} {v : Value} {n : Nat} {xs : List Value} (h : w.ownsRow base e 1 v n xs) : Hands w v xs := by
  obtain ⟨A, c, rfl⟩ := own_form h
  have hl : xs.length = n := by simpa using h.1
  subst hl
  exact ⟨A, c, rfl, Reads.of_own h⟩
theorem Hands.on {w w' : World} {v : Value} {xs : List Value} (h : Hands w v xs) (hb : Below w.heap.size w w') : Hands w' v xs := by
  obtain ⟨A, c, e, hr⟩ := h
  exact ⟨A, c, e, hr.on hb⟩

theorem at_block {w : World} {g : Nat} {cs : Array Value} {t : TypeId} {fr : Nat × Nat} (h : w.heap[g]? = some (.cells cs t fr)) (i : Nat) (v : Value) (hv : cs[i]? = some v) : w.cell? ⟨g, i, none⟩ = some v := by
  simp only [World.cell?, h]; simpa using hv
theorem free_block {w : World} {g : Nat} {cs : Array Value} {t : TypeId} (h : w.heap[g]? = some (.cells cs t (0, 0))) (i : Nat) : w.frozen? ⟨g, i, none⟩ = false := by
  simp [World.frozen?, h]
theorem block_set {w : World} {g : Nat} {cs : Array Value} {t : TypeId} {fr : Nat × Nat} (h : w.heap[g]? = some (.cells cs t fr)) (i : Nat) (v : Value) : (w.setCell ⟨g, i, none⟩ v).heap[g]? = some (.cells (cs.setIfInBounds i v) t fr) := by
  have hlt := lt_of_block h
  have h' : w.heap[g] = .cells cs t fr := by simpa [Array.getElem?_eq_getElem hlt] using h
  show (w.heap.modify g _)[g]? = _
  rw [Array.getElem?_eq_getElem (by simpa using hlt), Array.getElem_modify_self, h']
  rfl
/-- Rows of numbers, as ints and as bytes. -/
def i64s (l : List Nat) : List Value := l.map fun (x : Nat) => Value.int .i64 (x : Int)
def u8s (l : List Nat) : List Value := l.map fun (x : Nat) => Value.int .u8 (x : Int)
theorem u8_at {l : List Nat} {k : Nat} {u : Value} (h : (u8s l)[k]? = some u) : ∃ r : Nat, l[k]? = some r ∧ u = .int .u8 (r : Int) := by
  simp only [u8s, List.getElem?_map, Option.map_eq_some_iff] at h
  obtain ⟨s, h1, rfl⟩ := h
  exact ⟨s, h1, rfl⟩
theorem u8s_len (l : List Nat) : (u8s l).length = l.length := by simp [u8s]
theorem u8s_get {l : List Nat} {k x : Nat} (h : l[k]? = some x) : (u8s l)[k]? = some (.int .u8 (x : Int)) := by simp [u8s, h]
/-- The rest of a row, and its beginning. -/
theorem Reads.drop {w : World} {B n : Nat} {A : Option Addr} {xs : List Value} (h : Reads w B A n xs) (k : Nat) (hk : k ≤ n) (b off : Nat) (hA : A = some ⟨b, off, none⟩) : Reads w B (some ⟨b, off + k, none⟩) (n - k) (xs.drop k) := by
  refine ⟨by rw [List.length_drop, h.1], fun hn => ?_⟩
  obtain ⟨b', off', e, hb, hc⟩ := h.2 (by omega)
  rw [hA] at e
  cases e
  refine ⟨b, off + k, rfl, hb, fun j u hu => ?_⟩
  rw [List.getElem?_drop] at hu
  rw [Nat.add_assoc]
  exact hc _ _ hu
theorem Reads.take {w : World} {B n : Nat} {A : Option Addr} {xs : List Value} (h : Reads w B A n xs) (k : Nat) (hk : k ≤ n) : Reads w B A k (xs.take k) := by
  refine ⟨by rw [List.length_take, h.1]; omega, fun hn => ?_⟩
  obtain ⟨b, off, e, hb, hc⟩ := h.2 (by omega)
  refine ⟨b, off, e, hb, fun j u hu => ?_⟩
  rw [List.getElem?_take] at hu
  split at hu
  · exact hc _ _ hu
  · cases hu
/-- A block whose cells are a row reads as that row. -/
theorem Reads.of_block {w : World} {g : Nat} {cs : List Value} {t : TypeId} {fr : Nat × Nat} (h : w.heap[g]? = some (.cells cs.toArray t fr)) : Reads w w.heap.size (some ⟨g, 0, none⟩) cs.length cs :=
  ⟨rfl, fun _ => ⟨g, 0, rfl, lt_of_block h, fun j u hu => by
    have := at_block h j u (by simpa using hu)
    simpa using this⟩⟩
theorem size5 : (Tryz.prog.info? 5).map (·.size) = some 1 := by kernel_rfl
theorem info5 : (Tryz.prog.info? 5).map (fun i => (i.zero, i.size, i.bytes)) = some (some (.int .u8 0), 1, 1) := by kernel_rfl
theorem info_parts {P : Program} {t : TypeId} {z : Value} {sz by_ : Nat} (h : (P.info? t).map (fun i => (i.zero, i.size, i.bytes)) = some (some z, sz, by_)) : ∃ i, P.info? t = some i ∧ i.zero = some z ∧ i.size = sz ∧ i.bytes = by_ := by
  cases hi : P.info? t with
  | none => rw [hi] at h; cases h
  | some i => rw [hi] at h; simp at h; exact ⟨i, rfl, h.1, h.2.1, h.2.2⟩
theorem made_is (z : Value) (hz : z.cells = #[z]) (n : Nat) : madeCells z.cells n = (List.replicate n z).toArray := by
  rw [hz]
  apply Array.ext'
  simp only [madeCells, Array.toList_map, Array.toList_range]
  rw [List.eq_replicate_iff]
  refine ⟨by simp, fun b hb => ?_⟩
  simp only [List.mem_map] at hb
  obtain ⟨a, _, rfl⟩ := hb
  simp [Nat.mod_one]
/-- make([]byte, n). -/
theorem make_bytes (n : Nat) (h : n ≤ 1099511627776) (W : World) : (Instr.makeSlice 31 (.int .i64 (n : Int)) (.int .i64 (n : Int))).run Tryz.prog W =
    .ok (.slice (some ⟨W.heap.size, 0, none⟩) n n) (W.alloc (.cells (u8s (List.replicate n 0)).toArray 5)) := by
  obtain ⟨i, hi, hz0, hz1, hz2⟩ := info_parts info5
  have h1 := run_make (P := Tryz.prog) W 31 5 i (.int .u8 0) Tryz.underlying31 hi hz0 .i64 .i64 n n (by omega) (by omega) (by rw [hz2]; omega) (by omega)
  rw [h1, hz1, Nat.mul_one, Int.toNat_natCast, made_is _ rfl]
  simp [u8s]
theorem add_plain (b off j : Nat) : (⟨b, off, none⟩ : Addr).add j = ⟨b, off + j, none⟩ := by
  unfold Addr.add
  by_cases h : j = 0
  · subst h; simp
  · simp [h]
/-- A row that is read, as the source of a copy. -/
theorem Reads.src {w : World} {B n : Nat} {A : Option Addr} {xs : List Value} (h : Reads w B A n xs) (hn : 0 < n) : ∃ ad, A = some ad ∧ ad.block < B ∧ ∀ j v, xs[j]? = some v → w.cell? (ad.add j) = some v := by
  obtain ⟨b, off, e, hb, hc⟩ := h.2 hn
  exact ⟨⟨b, off, none⟩, e, hb, fun j v hv => by rw [add_plain]; exact hc j v hv⟩
theorem u8s_one (l : List Nat) : ∀ v ∈ u8s l, v.oneCell' = true := by
  intro v hv
  simp only [u8s, List.mem_map] at hv
  obtain ⟨x, _, rfl⟩ := hv
  rfl
theorem splice_all {α : Type} (Z cs : List α) (h : cs.length = Z.length) : splice Z 0 cs = cs := by
  rw [splice, List.take_zero, List.nil_append, List.drop_eq_nil_of_le (by omega), List.append_nil]
/-- A row that is being filled from the front. -/
def fillL (vs : List Value) (z : Value) (k n : Nat) : List Value := vs.take k ++ List.replicate (n - k) z
theorem fillL_zero (vs : List Value) (z : Value) (n : Nat) : fillL vs z 0 n = List.replicate n z := by simp [fillL]
theorem fillL_all {vs : List Value} {z : Value} {n : Nat} (h : vs.length = n) : fillL vs z n n = vs := by rw [fillL, List.take_of_length_le (by omega)]; simp
theorem fillL_len {vs : List Value} {z : Value} {k n : Nat} (h : vs.length = n) (hk : k ≤ n) : (fillL vs z k n).length = n := by simp [fillL]; omega
theorem fillL_set {vs : List Value} {z v : Value} {k n : Nat} (h : vs.length = n) (hk : k < n) (hv : vs[k]? = some v) : (fillL vs z k n).toArray.setIfInBounds k v = (fillL vs z (k + 1) n).toArray := by
  have e : List.replicate (n - k) z = z :: List.replicate (n - (k + 1)) z := by rw [show n - k = (n - (k + 1)) + 1 by omega, List.replicate_succ]
  rw [fillL, fillL, e, List.setIfInBounds_toArray, List.set_append_right _ _ (by rw [List.length_take]; omega), List.length_take, Nat.min_eq_left (by omega), Nat.sub_self, List.set_cons_zero, List.take_add_one, hv]
  simp
/-- string(b), b a row of bytes. -/
theorem conv_bytes {W : World} {B n c : Nat} {A : Option Addr} {l : List Nat} (hr : Reads W B A n (u8s l)) (hA : n = 0 → ∃ b off, A = some ⟨b, off, none⟩) : (convert 31 9 (.slice A n c)).run Tryz.prog W = .ok (.string ⟨(l.map UInt8.ofNat).toArray⟩) W := by
  have hl : l.length = n := by have := hr.1; rwa [u8s_len] at this
  have e : strOfNums (l.map fun (x : Nat) => (x : Int)) = ⟨(l.map UInt8.ofNat).toArray⟩ := by
    unfold strOfNums
    rw [List.map_map]
    congr 2
  have key : ∃ b off, A = some ⟨b, off, none⟩ ∧ ∀ i, i < n → W.cell? ⟨b, off + i, none⟩ = some (.int .u8 ((l.map fun (x : Nat) => (x : Int)).getD i 0)) := by
    by_cases h0 : n = 0
    · obtain ⟨b, off, e⟩ := hA h0
      exact ⟨b, off, e, fun i hi => by omega⟩
    · obtain ⟨b, off, e, _, hc⟩ := hr.2 (by omega)
      refine ⟨b, off, e, fun i hi => ?_⟩
      have hil : i < l.length := by omega
      rw [hc i (.int .u8 (l[i] : Int)) (u8s_get (List.getElem?_eq_getElem hil))]
      simp [List.getD, List.getElem?_eq_getElem hil]
  obtain ⟨b, off, rfl, hc⟩ := key
  rw [run_convert_bytes_arg W 31 5 Tryz.underlying31 Tryz.underlying5 b off n c _ (by simpa using hl) hc 9 Tryz.underlying9, e]
/-- A number of the program, as a value that reads as x. -/
def NumAt (w : World) (v : Value) (x : Dc.D) : Prop := ∃ A, v = .agg #[.bool x.neg, .slice A x.c.length x.c.length, .int .i64 x.e] ∧ Reads w w.heap.size A x.c.length (u8s x.c)
theorem NumAt.on {w w' : World} {v : Value} {x : Dc.D} (h : NumAt w v x) (hb : Below w.heap.size w w') : NumAt w' v x := by
  obtain ⟨A, e, hr⟩ := h
  exact ⟨A, e, hr.on hb⟩
theorem below_drewN {B : Nat} {w w' : World} (h : Below B w w') (n : Nat) : Below B w (w'.drewN n) := by
  obtain ⟨a, b, c, d, e⟩ := h
  exact ⟨a, b, c, d, e⟩
end Go.Proofs.YtjapgpmoojfhnaaGreatDoor
