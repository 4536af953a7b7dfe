/- Numerals: plain definitions, as the program reads them. -/
import Derived.Test.YtmgafnflkfbckaaGreatDoorWalkH
namespace Go.Proofs.YtmgafnflkfbckaaGreatDoor.Dc
open Go Go.Lib

/-- The exponent behind the mantissa: its digits at most K. -/
def numTail (K : Nat) : List UInt8 → Option Int
  | [] => some 0
  | b :: r =>
    if b = 101 ∨ b = 69 then
      let t := if r.head? = some 45 ∨ r.head? = some 43 then r.drop 1 else r
      if t = [] ∨ runN t ≠ t.length then none else some (if r.head? = some 45 then -(smallN K t : Int) else (smallN K t : Int))
    else none
/-- The digits and the exponent, c read already. -/
def numFrac (K : Nat) (c : List Nat) (s : List UInt8) : Option (List Nat × Int) :=
  if s.head? = some 46 then
    if runN (s.drop 1) = 0 then none else (numTail K (s.drop (runN (s.drop 1) + 1))).map fun k => (c ++ vals ((s.drop 1).take (runN (s.drop 1))), -(runN (s.drop 1) : Int) + k)
  else (numTail K s).map fun k => (c, 0 + k)
def badLead (s : List UInt8) : Bool := decide (runN s = 0) || (decide (1 < runN s) && decide (s.head? = some 48))
def numP (K : Nat) (l : List UInt8) : Option D :=
  if badLead (unsign l) = true then none else
  (numFrac K (vals ((unsign l).take (runN (unsign l)))) ((unsign l).drop (runN (unsign l)))).map fun p => norm (l.head? == some 45) p.1 p.2

theorem prefix_one (l : List UInt8) (c : UInt8) : hasPrefix l [c] = (l.head? == some c) := by
  rw [hasPrefix]
  cases l with
  | nil => rfl
  | cons b l =>
    by_cases h : b = c
    · subst h; simp [List.isPrefixOf]
    · have h2 : ¬ c = b := fun e => h e.symm
      simp only [List.isPrefixOf, List.head?_cons, Bool.and_true]
      rw [beq_eq_false_iff_ne.2 h2]
      exact (beq_eq_false_iff_ne.2 (fun e => h (Option.some.inj e))).symm
theorem head_drop {l : List UInt8} {c : UInt8} (h : l.head? = some c) : l = c :: l.drop 1 ∧ 0 < l.length := by
  cases l with
  | nil => cases h
  | cons b l => simp at h; subst h; simp
theorem tail_nil (K : Nat) : numTail K [] = some 0 := rfl
theorem tail_bad {K : Nat} {l : List UInt8} {b : UInt8} (h : l.head? = some b) (h1 : b ≠ 101) (h2 : b ≠ 69) : numTail K l = none := by
  obtain ⟨e, _⟩ := head_drop h
  rw [e, numTail, if_neg (by simp [h1, h2])]
theorem tail_is {K : Nat} {l t : List UInt8} {b : UInt8} (h : l.head? = some b) (h1 : b = 101 ∨ b = 69) (ht : (if (l.drop 1).head? = some 45 ∨ (l.drop 1).head? = some 43 then (l.drop 1).drop 1 else l.drop 1) = t) :
    numTail K l = if t = [] ∨ runN t ≠ t.length then none else some (if (l.drop 1).head? = some 45 then -(smallN K t : Int) else (smallN K t : Int)) := by
  obtain ⟨e, _⟩ := head_drop h
  rw [e, numTail, if_pos h1]
  simp only [List.drop_succ_cons, List.drop_zero] at ht ⊢
  simp only [ht]
end Go.Proofs.YtmgafnflkfbckaaGreatDoor.Dc
