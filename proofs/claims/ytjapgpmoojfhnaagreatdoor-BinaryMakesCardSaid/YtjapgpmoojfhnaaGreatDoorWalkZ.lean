/- A format's row, boxed. -/
import Derived.Test.YtjapgpmoojfhnaaGreatDoorWalkX
import Derived.Test.YtjapgpmoojfhnaaGreatDoorWalkY
import Derived.Test.YtjapgpmoojfhnaaGreatDoorPlainA
namespace Go.Proofs.YtjapgpmoojfhnaaGreatDoor
open Go.RowKit Go.Lib

theorem box_three (p q r : Int) (w : World) : ∃ (w2 : World) (X : Nat), w.alloc (.cells #[.int .i64 p, .int .i64 q, .int .i64 r] 109) = w2 ∧ w.heap.size = X ∧ Below w.heap.size w w2 ∧
    ∀ W, Below w2.heap.size w2 W → W.cell? ⟨X, 0, none⟩ = some (.int .i64 p) ∧ W.cell? ⟨X, 1, none⟩ = some (.int .i64 q) ∧ W.cell? ⟨X, 2, none⟩ = some (.int .i64 r) ∧ Below w2.heap.size w2 W := by
  refine ⟨_, _, rfl, rfl, (Below.refl _ _).alloc (Nat.le_refl _) _, fun W hW => ?_⟩
  have h := heap_alloc_new w (.cells #[.int .i64 p, .int .i64 q, .int .i64 r] 109)
  have h' := (hW.block w.heap.size (lt_of_block h)).trans h
  exact ⟨at_block h' 0 _ rfl, at_block h' 1 _ rfl, at_block h' 2 _ rfl, hW⟩
/-- The sign laid over a number. -/
theorem or_sign (sg x k : Nat) (hk : k < 64) (hx : x < 2 ^ k) (hs : sg = 0 ∨ sg = 2 ^ k) : bits .or .u64 (sg : Int) (x : Int) = ((sg + x : Nat) : Int) := by
  have hp : 2 ^ k ≤ 2 ^ 63 := Nat.pow_le_pow_right (by decide) (by omega)
  have h63 : (2 : Nat) ^ 63 = 9223372036854775808 := by decide
  have h := u64_or_nat sg x (by omega) (by omega)
  have e : sg ||| x = sg + x := by
    rcases hs with rfl | rfl
    · rw [Nat.zero_or, Nat.zero_add]
    · have := Nat.two_pow_add_eq_or_of_lt hx 1
      rw [Nat.mul_one] at this
      exact this.symm
  rw [e] at h
  exact h
theorem or_bit (F k : Nat) (hk : k < 63) (hF : F < 2 ^ k) : bits .or .u64 (F : Int) ((2 ^ k : Nat) : Int) = ((2 ^ k + F : Nat) : Int) := by
  have hp : 2 ^ k ≤ 2 ^ 62 := Nat.pow_le_pow_right (by decide) (by omega)
  have h62 : (2 : Nat) ^ 62 = 4611686018427387904 := by decide
  have h := u64_or_nat F (2 ^ k) (by omega) (by omega)
  have e : F ||| 2 ^ k = 2 ^ k + F := by
    have := Nat.two_pow_add_eq_or_of_lt hF 1
    rw [Nat.mul_one] at this
    rw [Nat.or_comm]
    exact this.symm
  rw [e] at h
  exact h
theorem cvt_nat (m : Nat) (h0 : 0 < m) (hm : m < 9007199254740992) : floatOfInt FloatKind.f64 (m : Int) = Fl.wordN m := by
  have h := Fl.nearest_nat h0 hm
  change Ieee.double.nearest (decide ((m : Int) < 0)) (m : Int).natAbs 0 = _
  rw [decide_eq_false (by omega), Int.natAbs_natCast]
  exact h
theorem rung_sum {v K K1 u1 Y0 Y1 B b : Nat} (hu : (K = 2 * b ∧ K1 = b ∧ u1 = v + 2) ∨ (K1 = K ∧ u1 = v + 1)) (h0 : u1 * b = Y0) (h1 : Y0 + K1 = Y1) (hB : Y1 - b = B) : v * b + K = B := by
  rcases hu with ⟨rfl, rfl, rfl⟩ | ⟨rfl, rfl⟩
  · rw [Nat.add_mul] at h0
    omega
  · rw [Nat.add_mul] at h0
    omega
end Go.Proofs.YtjapgpmoojfhnaaGreatDoor
