/- The plain and the scientific form of a decimal. -/
import Derived.Test.YtmgafnflkfbckaaGreatDoorPlain2
namespace Go.Proofs.YtmgafnflkfbckaaGreatDoor.Dc
open Go Go.Lib

/-- What Text returns of a canonical number. -/
def textB (x : D) : List UInt8 :=
  if x.c.length = 0 then [48, 46, 48]
  else if 0 ≤ x.e ∧ (x.c.length : Int) + x.e + 1 ≤ 20 then sgnB x.neg ++ (digB x.c ++ (List.replicate x.e.toNat 48 ++ [46, 48]))
  else if x.e < 0 ∧ -x.e < (x.c.length : Int) ∧ x.c.length ≤ 20 then sgnB x.neg ++ ((digB x.c).take ((x.c.length : Int) + x.e).toNat ++ (46 :: (digB x.c).drop ((x.c.length : Int) + x.e).toNat))
  else if x.e < 0 ∧ (x.c.length : Int) ≤ -x.e ∧ 1 - x.e ≤ 20 then sgnB x.neg ++ (48 :: 46 :: (List.replicate (-x.e - x.c.length).toNat 48 ++ digB x.c))
  else sgnB x.neg ++ ((if 1 < x.c.length then (digB x.c).take 1 ++ (46 :: (digB x.c).drop 1) else digB x.c) ++ (101 :: itoa (x.e + x.c.length - 1)))

/-- Rounding: the digits that are kept, one place more ahead, and whether they go up. -/
def incL : List Nat → List Nat × Bool
  | [] => ([], true)
  | x :: l => match incL l with
    | (r, true) => if x = 9 then (0 :: r, true) else ((x + 1) :: r, false)
    | (r, false) => (x :: r, false)
def goesUp (keep rest : List Nat) : Bool := decide (5 < rest.getD 0 0) || (decide (rest.getD 0 0 = 5) && (decide (1 < rest.length) || decide (keep.getLastD 0 % 2 = 1)))
def roundP (x : D) (places : Int) : D :=
  if x.c.length = 0 ∨ -places - x.e ≤ 0 then x
  else if (x.c.length : Int) - (-places - x.e) < 0 then ⟨false, [], 0⟩
  else
    let n := ((x.c.length : Int) - (-places - x.e)).toNat
    norm x.neg (if goesUp (0 :: x.c.take n) (x.c.drop n) = true then (incL (0 :: x.c.take n)).1 else 0 :: x.c.take n) (-places)
theorem ex_text : textB ⟨false, [1, 5], 29⟩ = [49, 46, 53, 101, 51, 48] := by simp [textB, sgnB, digB, itoa, decDigits]
theorem ex_round : roundP ⟨false, [2, 5], -1⟩ 0 = ⟨false, [2], 0⟩ := by decide
end Go.Proofs.YtmgafnflkfbckaaGreatDoor.Dc
