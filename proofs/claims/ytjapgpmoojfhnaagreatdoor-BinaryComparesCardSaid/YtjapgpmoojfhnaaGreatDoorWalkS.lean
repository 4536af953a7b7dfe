/- The reference: place. -/
import Derived.Test.YtjapgpmoojfhnaaGreatDoorWalkR
namespace Go.Proofs.YtjapgpmoojfhnaaGreatDoor
open Go.RowKit Go.Lib

set_option maxHeartbeats 1000000 in
set_option maxRecDepth 100000 in
theorem place_of (k : Int) (neg : Bool) (m e : Int) (r : Nat) (hr : r ≤ 9218868437227405312) (BT : ∀ W, Calls Tryz.prog 28 #[.agg #[.int .i64 k, .bool false, .int .u64 m, .int .i64 e], .int .i64 64] W fun x w' => x = .returned (.tuple #[.int .u64 (r : Int), .bool true]) ∧ Below W.heap.size W w') (w : World) :
    Calls Tryz.prog 70 #[.agg #[.int .i64 k, .bool neg, .int .u64 m, .int .i64 e]] w fun x w' => x = .returned (.int .i64 (Fl.skey neg r)) ∧ Below w.heap.size w w' := by
  have q := two_blocks w (.cells #[.int .i64 k, .bool neg, .int .u64 m, .int .i64 e] 24) (.cells #[.int .i64 k, .bool neg, .int .u64 m, .int .i64 e] 24)
  obtain ⟨w1, hw1⟩ : ∃ w1 : World, w.alloc (.cells #[.int .i64 k, .bool neg, .int .u64 m, .int .i64 e] 24) = w1 := ⟨_, rfl⟩
  obtain ⟨X, hX⟩ : ∃ X, w.heap.size = X := ⟨_, rfl⟩
  have hXc := heap_alloc_new w (.cells #[.int .i64 k, .bool neg, .int .u64 m, .int .i64 e] 24)
  rw [hw1, hX] at hXc
  have x0 := at_block hXc 0 _ rfl
  have x1 := at_block hXc 1 _ rfl
  have x2 := at_block hXc 2 _ rfl
  have x3 := at_block hXc 3 _ rfl
  have hb1 : Below X w w1 := by rw [← hw1, ← hX]; exact (Below.refl _ _).alloc (Nat.le_refl _) _
  have BT := Lib.hid BT
  have HW1 := Lib.hid hw1
  have HX := Lib.hid hX
  have HXC := Lib.hid hXc
  have g1 : IntKind.i64.wrap (r : Int) = (r : Int) := IntWalk.i64_in _ (by omega)
  have g2 : IntKind.i64.wrap (-(r : Int)) = -(r : Int) := IntWalk.i64_in _ (by omega)
  clear hw1 hX hXc q hr
  go_enter Tryz.func70, Tryz.ntmps70
  go_upto_region 1 with fail
  rw [HW1.out, HX.out]
  go_wp2_with fail
  refine (BT.out _).mono ?_
  rintro x w4 ⟨rfl, hb4⟩
  have hX1 := lt_of_block HXC.out
  have hb14 : Below X w w4 := hb1.trans ((((Below.refl w1.heap.size w1).alloc (Nat.le_refl _) _).trans (hb4.mono (by simp))).mono (by omega))
  have hq4 := (hb4.block X (by simp; omega)).trans ((Below.heap_alloc _ _ _ hX1).trans HXC.out)
  clear x0 x1 x2 x3
  have x1 := at_block hq4 1 _ rfl
  clear hq4 hb4
  cases neg with
  | true =>
    go_wp2_with fail
    go_ret
    exact ⟨rfl, by rw [HX.out]; exact hb14⟩
  | false =>
    go_wp2_with fail
    go_ret
    exact ⟨rfl, by rw [HX.out]; exact hb14⟩
/-- place at the float of a word that is no NaN. -/
theorem place_any (b : Nat) (nb : b % 9223372036854775808 ≤ 9218868437227405312) (w : World) : Calls Tryz.prog 70 #[Fl.refF b] w fun x w' => x = .returned (.int .i64 (Fl.key b)) ∧ Below w.heap.size w w' := by
  unfold Fl.refF Fl.key
  rw [if_neg (by omega)]
  by_cases h2 : b % 9223372036854775808 = 9218868437227405312
  · rw [if_pos h2, h2]
    exact place_of 1 _ 0 0 9218868437227405312 (Nat.le_refl _) (fun W => refbits_inf W) w
  · rw [if_neg h2]
    by_cases h3 : b % 9223372036854775808 = 0
    · rw [if_pos h3, h3]
      exact place_of 0 _ 0 0 0 (by omega) (fun W => refbits_zero W) w
    · rw [if_neg h3]
      exact place_of 0 _ _ _ (b % 9223372036854775808) nb (fun W => refbits_num (b % 9223372036854775808) W (by omega) (by omega)) w
end Go.Proofs.YtjapgpmoojfhnaaGreatDoor
