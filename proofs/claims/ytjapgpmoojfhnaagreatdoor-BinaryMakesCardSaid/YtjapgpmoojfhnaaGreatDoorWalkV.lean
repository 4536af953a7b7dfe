/- The formats. -/
import Derived.Test.YtjapgpmoojfhnaaGreatDoorWalkU
namespace Go.Proofs.YtjapgpmoojfhnaaGreatDoor
open Go.RowKit Go.Lib

set_option maxHeartbeats 1000000 in
set_option maxRecDepth 100000 in
theorem of_64 (w : World) (hL : Laid w) : Calls Tryz.prog 61 #[.int .i64 64] w fun x w' => x = .returned (.tuple #[.agg #[.int .i64 64, .int .i64 53, .int .i64 (-1074)], .bool true]) ∧ Below w.heap.size w w' := by
  obtain ⟨w1, hw1⟩ : ∃ w1 : World, w.alloc (.cells #[.int .i64 0, .int .i64 0, .int .i64 0] 109) = w1 := ⟨_, rfl⟩
  obtain ⟨X, hX⟩ : ∃ X, w.heap.size = X := ⟨_, rfl⟩
  have hXc := heap_alloc_new w (.cells #[.int .i64 0, .int .i64 0, .int .i64 0] 109)
  rw [hw1, hX] at hXc
  have hb1 : Below w.heap.size w w1 := by rw [← hw1]; exact (Below.refl _ _).alloc (Nat.le_refl _) _
  have hL1 := hL.on hb1
  have hF := hL1.2.2.2.2.2.2
  have a0 := hF 0 16 rfl
  have a1 := hF 1 11 rfl
  have a2 := hF 2 (-24) rfl
  have a3 := hF 3 32 rfl
  have a4 := hF 4 24 rfl
  have a5 := hF 5 (-149) rfl
  have a6 := hF 6 64 rfl
  have a7 := hF 7 53 rfl
  have a8 := hF 8 (-1074) rfl
  have x0 := at_block hXc 0 _ rfl
  have x1 := at_block hXc 1 _ rfl
  have x2 := at_block hXc 2 _ rfl
  have f0 := free_block hXc 0
  have f1 := free_block hXc 1
  have f2 := free_block hXc 2
  have HW1 := Lib.hid hw1
  have HX := Lib.hid hX
  have hX18 : 18 ≤ X := by rw [← hX]; exact hL.2.1
  rw [hX] at hb1
  clear hw1 hX hXc hL hL1 hF
  go_enter Tryz.func61, Tryz.ntmps61
  go_upto_region 1 with fail
  rw [HW1.out, HX.out]
  go_wp2_with fail
  go_loopg [4, 5] 3 (fun f _ t5 wx => ∃ k : Nat, t5 = .int .i64 (k : Int) ∧ k + f = 3 ∧ k ≤ 2 ∧ wx = w1)
  case atStart => exact ⟨0, rfl, rfl, by omega, rfl⟩
  case round =>
    obtain ⟨k, rfl, hk, hk2, rfl⟩ := hrel
    have hk3 : k = 0 ∨ k = 1 ∨ k = 2 := by omega
    rcases hk3 with rfl | rfl | rfl
    · obtain rfl : gk = 3 := by omega
      go_wp2_with fail
      go_roundg 2
      case measure => omega
      case rel => exact ⟨1, rfl, rfl, by omega, rfl⟩
    · obtain rfl : gk = 2 := by omega
      go_wp2_with fail
      go_roundg 1
      case measure => omega
      case rel => exact ⟨2, rfl, rfl, by omega, rfl⟩
    · obtain rfl : gk = 1 := by omega
      go_wp2_with fail
      refine bodyPost_ret (v := .tuple #[.agg #[.int .i64 64, .int .i64 53, .int .i64 (-1074)], .bool true]) (by simp [results, Tryz.results61, go_sem, x0, x1, x2]) rfl ?_
      refine ⟨rfl, ?_⟩
      rw [HX.out]
      exact ((hb1.setCell (p := ⟨X, 0, none⟩) (Nat.le_refl _) _).setCell (p := ⟨X, 1, none⟩) (Nat.le_refl _) _).setCell (p := ⟨X, 2, none⟩) (Nat.le_refl _) _
set_option maxHeartbeats 1000000 in
set_option maxRecDepth 100000 in
theorem of_16 (w : World) (hL : Laid w) : Calls Tryz.prog 61 #[.int .i64 16] w fun x w' => x = .returned (.tuple #[.agg #[.int .i64 16, .int .i64 11, .int .i64 (-24)], .bool true]) ∧ Below w.heap.size w w' := by
  obtain ⟨w1, hw1⟩ : ∃ w1 : World, w.alloc (.cells #[.int .i64 0, .int .i64 0, .int .i64 0] 109) = w1 := ⟨_, rfl⟩
  obtain ⟨X, hX⟩ : ∃ X, w.heap.size = X := ⟨_, rfl⟩
  have hXc := heap_alloc_new w (.cells #[.int .i64 0, .int .i64 0, .int .i64 0] 109)
  rw [hw1, hX] at hXc
  have hb1 : Below w.heap.size w w1 := by rw [← hw1]; exact (Below.refl _ _).alloc (Nat.le_refl _) _
  have hL1 := hL.on hb1
  have hF := hL1.2.2.2.2.2.2
  have a0 := hF 0 16 rfl
  have a1 := hF 1 11 rfl
  have a2 := hF 2 (-24) rfl
  have a3 := hF 3 32 rfl
  have a4 := hF 4 24 rfl
  have a5 := hF 5 (-149) rfl
  have a6 := hF 6 64 rfl
  have a7 := hF 7 53 rfl
  have a8 := hF 8 (-1074) rfl
  have x0 := at_block hXc 0 _ rfl
  have x1 := at_block hXc 1 _ rfl
  have x2 := at_block hXc 2 _ rfl
  have f0 := free_block hXc 0
  have f1 := free_block hXc 1
  have f2 := free_block hXc 2
  have HW1 := Lib.hid hw1
  have HX := Lib.hid hX
  have hX18 : 18 ≤ X := by rw [← hX]; exact hL.2.1
  rw [hX] at hb1
  clear hw1 hX hXc hL hL1 hF
  go_enter Tryz.func61, Tryz.ntmps61
  go_upto_region 1 with fail
  rw [HW1.out, HX.out]
  go_wp2_with fail
  go_loopg [4, 5] 3 (fun f _ t5 wx => ∃ k : Nat, t5 = .int .i64 (k : Int) ∧ k + f = 3 ∧ k ≤ 0 ∧ wx = w1)
  case atStart => exact ⟨0, rfl, rfl, by omega, rfl⟩
  case round =>
    obtain ⟨k, rfl, hk, hk2, rfl⟩ := hrel
    obtain rfl : k = 0 := by omega
    obtain rfl : gk = 3 := by omega
    go_wp2_with fail
    refine bodyPost_ret (v := .tuple #[.agg #[.int .i64 16, .int .i64 11, .int .i64 (-24)], .bool true]) (by simp [results, Tryz.results61, go_sem, x0, x1, x2]) rfl ?_
    refine ⟨rfl, ?_⟩
    rw [HX.out]
    exact ((hb1.setCell (p := ⟨X, 0, none⟩) (Nat.le_refl _) _).setCell (p := ⟨X, 1, none⟩) (Nat.le_refl _) _).setCell (p := ⟨X, 2, none⟩) (Nat.le_refl _) _
set_option maxHeartbeats 1000000 in
set_option maxRecDepth 100000 in
theorem of_32 (w : World) (hL : Laid w) : Calls Tryz.prog 61 #[.int .i64 32] w fun x w' => x = .returned (.tuple #[.agg #[.int .i64 32, .int .i64 24, .int .i64 (-149)], .bool true]) ∧ Below w.heap.size w w' := by
  obtain ⟨w1, hw1⟩ : ∃ w1 : World, w.alloc (.cells #[.int .i64 0, .int .i64 0, .int .i64 0] 109) = w1 := ⟨_, rfl⟩
  obtain ⟨X, hX⟩ : ∃ X, w.heap.size = X := ⟨_, rfl⟩
  have hXc := heap_alloc_new w (.cells #[.int .i64 0, .int .i64 0, .int .i64 0] 109)
  rw [hw1, hX] at hXc
  have hb1 : Below w.heap.size w w1 := by rw [← hw1]; exact (Below.refl _ _).alloc (Nat.le_refl _) _
  have hL1 := hL.on hb1
  have hF := hL1.2.2.2.2.2.2
  have a0 := hF 0 16 rfl
  have a1 := hF 1 11 rfl
  have a2 := hF 2 (-24) rfl
  have a3 := hF 3 32 rfl
  have a4 := hF 4 24 rfl
  have a5 := hF 5 (-149) rfl
  have a6 := hF 6 64 rfl
  have a7 := hF 7 53 rfl
  have a8 := hF 8 (-1074) rfl
  have x0 := at_block hXc 0 _ rfl
  have x1 := at_block hXc 1 _ rfl
  have x2 := at_block hXc 2 _ rfl
  have f0 := free_block hXc 0
  have f1 := free_block hXc 1
  have f2 := free_block hXc 2
  have HW1 := Lib.hid hw1
  have HX := Lib.hid hX
  have hX18 : 18 ≤ X := by rw [← hX]; exact hL.2.1
  rw [hX] at hb1
  clear hw1 hX hXc hL hL1 hF
  go_enter Tryz.func61, Tryz.ntmps61
  go_upto_region 1 with fail
  rw [HW1.out, HX.out]
  go_wp2_with fail
  go_loopg [4, 5] 3 (fun f _ t5 wx => ∃ k : Nat, t5 = .int .i64 (k : Int) ∧ k + f = 3 ∧ k ≤ 1 ∧ wx = w1)
  case atStart => exact ⟨0, rfl, rfl, by omega, rfl⟩
  case round =>
    obtain ⟨k, rfl, hk, hk2, rfl⟩ := hrel
    have hk3 : k = 0 ∨ k = 1 := by omega
    rcases hk3 with rfl | rfl
    · obtain rfl : gk = 3 := by omega
      go_wp2_with fail
      go_roundg 2
      case measure => omega
      case rel => exact ⟨1, rfl, rfl, by omega, rfl⟩
    · obtain rfl : gk = 2 := by omega
      go_wp2_with fail
      refine bodyPost_ret (v := .tuple #[.agg #[.int .i64 32, .int .i64 24, .int .i64 (-149)], .bool true]) (by simp [results, Tryz.results61, go_sem, x0, x1, x2]) rfl ?_
      refine ⟨rfl, ?_⟩
      rw [HX.out]
      exact ((hb1.setCell (p := ⟨X, 0, none⟩) (Nat.le_refl _) _).setCell (p := ⟨X, 1, none⟩) (Nat.le_refl _) _).setCell (p := ⟨X, 2, none⟩) (Nat.le_refl _) _
set_option maxHeartbeats 1000000 in
set_option maxRecDepth 100000 in
theorem of_none (n : Int) (w : World) (hL : Laid w) (n1 : n ≠ 16) (n2 : n ≠ 32) (n3 : n ≠ 64) : Calls Tryz.prog 61 #[.int .i64 n] w fun x w' => x = .returned (.tuple #[.agg #[.int .i64 0, .int .i64 0, .int .i64 0], .bool false]) ∧ Below w.heap.size w w' := by
  obtain ⟨w1, hw1⟩ : ∃ w1 : World, w.alloc (.cells #[.int .i64 0, .int .i64 0, .int .i64 0] 109) = w1 := ⟨_, rfl⟩
  obtain ⟨X, hX⟩ : ∃ X, w.heap.size = X := ⟨_, rfl⟩
  have hXc := heap_alloc_new w (.cells #[.int .i64 0, .int .i64 0, .int .i64 0] 109)
  rw [hw1, hX] at hXc
  have hb1 : Below w.heap.size w w1 := by rw [← hw1]; exact (Below.refl _ _).alloc (Nat.le_refl _) _
  have hL1 := hL.on hb1
  have hF := hL1.2.2.2.2.2.2
  have a0 := hF 0 16 rfl
  have a1 := hF 1 11 rfl
  have a2 := hF 2 (-24) rfl
  have a3 := hF 3 32 rfl
  have a4 := hF 4 24 rfl
  have a5 := hF 5 (-149) rfl
  have a6 := hF 6 64 rfl
  have a7 := hF 7 53 rfl
  have a8 := hF 8 (-1074) rfl
  have x0 := at_block hXc 0 _ rfl
  have x1 := at_block hXc 1 _ rfl
  have x2 := at_block hXc 2 _ rfl
  have f0 := free_block hXc 0
  have f1 := free_block hXc 1
  have f2 := free_block hXc 2
  have HW1 := Lib.hid hw1
  have HX := Lib.hid hX
  have hX18 : 18 ≤ X := by rw [← hX]; exact hL.2.1
  rw [hX] at hb1
  have m1 : ((16 : Int) == n) = false := by rw [beq_eq_false_iff_ne]; omega
  have m2 : ((32 : Int) == n) = false := by rw [beq_eq_false_iff_ne]; omega
  have m3 : ((64 : Int) == n) = false := by rw [beq_eq_false_iff_ne]; omega
  clear hw1 hX hXc hL hL1 hF n1 n2 n3
  go_enter Tryz.func61, Tryz.ntmps61
  go_upto_region 1 with fail
  rw [HW1.out, HX.out]
  go_wp2_with fail
  go_loopg [4, 5] 3 (fun f _ t5 wx => ∃ k : Nat, t5 = .int .i64 (k : Int) ∧ k + f = 3 ∧ k ≤ 3 ∧ wx = w1)
  case atStart => exact ⟨0, rfl, rfl, by omega, rfl⟩
  case round =>
    obtain ⟨k, rfl, hk, hk2, rfl⟩ := hrel
    have hk3 : k = 0 ∨ k = 1 ∨ k = 2 ∨ k = 3 := by omega
    rcases hk3 with rfl | rfl | rfl | rfl
    · obtain rfl : gk = 3 := by omega
      go_wp2_with fail
      go_roundg 2
      case measure => omega
      case rel => exact ⟨1, rfl, rfl, by omega, rfl⟩
    · obtain rfl : gk = 2 := by omega
      go_wp2_with fail
      go_roundg 1
      case measure => omega
      case rel => exact ⟨2, rfl, rfl, by omega, rfl⟩
    · obtain rfl : gk = 1 := by omega
      go_wp2_with fail
      go_roundg 0
      case measure => omega
      case rel => exact ⟨3, rfl, rfl, by omega, rfl⟩
    · obtain rfl : gk = 0 := by omega
      go_wp2_with fail
      refine bodyPost_ret (v := .tuple #[.agg #[.int .i64 0, .int .i64 0, .int .i64 0], .bool false]) (by simp [results, Tryz.results61, go_sem, x0, x1, x2]) rfl ?_
      refine ⟨rfl, ?_⟩
      rw [HX.out]
      exact ((hb1.setCell (p := ⟨X, 0, none⟩) (Nat.le_refl _) _).setCell (p := ⟨X, 1, none⟩) (Nat.le_refl _) _).setCell (p := ⟨X, 2, none⟩) (Nat.le_refl _) _
end Go.Proofs.YtjapgpmoojfhnaaGreatDoor
