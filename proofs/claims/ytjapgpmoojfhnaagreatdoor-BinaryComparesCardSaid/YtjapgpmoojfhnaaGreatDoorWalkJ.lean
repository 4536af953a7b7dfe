/- The reference: odd. -/
import Derived.Test.YtjapgpmoojfhnaaGreatDoorWalkI
import Derived.Deep.LoopGhost
namespace Go.Proofs.YtjapgpmoojfhnaaGreatDoor
open Go.RowKit Go.Lib

set_option maxHeartbeats 1000000 in
set_option maxRecDepth 100000 in
theorem odd_zero (neg : Bool) (e : Int) (w : World) : Calls Tryz.prog 45 #[.bool neg, .int .u64 0, .int .i64 e] w fun x w' => x = .returned (.agg #[.int .i64 0, .bool neg, .int .u64 0, .int .i64 0]) ∧ Below w.heap.size w w' := by
  go_enter Tryz.func45, Tryz.ntmps45
  go_wp2_with fail
  have hX := heap_alloc_new w (.cells #[.int .i64 0, .bool neg, .int .u64 0, .int .i64 0] 24)
  have z0 := at_block hX 0 _ rfl
  have z1 := at_block hX 1 _ rfl
  have z2 := at_block hX 2 _ rfl
  have z3 := at_block hX 3 _ rfl
  refine bodyPost_ret (v := .agg #[.int .i64 0, .bool neg, .int .u64 0, .int .i64 0]) (by simp [results, Tryz.results45, go_sem, z0, z1, z2, z3]) rfl ?_
  exact ⟨rfl, (Below.refl _ _).alloc (Nat.le_refl _) _⟩
set_option maxHeartbeats 1000000 in
set_option maxRecDepth 100000 in
theorem odd_pos (neg : Bool) (c z : Nat) (e : Int) (w : World) (hc : c % 2 = 1) (hz : z < 64) (hm : c * 2 ^ z < 9007199254740992) (he : -10000 ≤ e ∧ e ≤ 10000) :
    Calls Tryz.prog 45 #[.bool neg, .int .u64 ((c * 2 ^ z : Nat) : Int), .int .i64 e] w fun x w' => x = .returned (.agg #[.int .i64 0, .bool neg, .int .u64 (c : Int), .int .i64 (e + (z : Int))]) ∧ Below w.heap.size w w' := by
  have hc0 : 0 < c := by omega
  have hcm : c ≤ c * 2 ^ z := Nat.le_mul_of_pos_right _ (Nat.two_pow_pos _)
  obtain ⟨m, hmm⟩ : ∃ m, c * 2 ^ z = m := ⟨_, rfl⟩
  rw [hmm] at hm hcm ⊢
  have hm0 : ((m : Int) == 0) = false := by rw [beq_eq_false_iff_ne]; omega
  have HM := Lib.hid hmm
  clear hmm
  go_enter Tryz.func45, Tryz.ntmps45
  go_wp2_with fail
  go_loopg [1, 2] z (fun f t1 t2 wx => ∃ (k M : Nat), t1 = .int .u64 (M : Int) ∧ t2 = .int .i64 (e + (k : Int)) ∧ k + f = z ∧ M = c * 2 ^ f ∧ M ≤ m ∧ wx.heap[w.heap.size]? = some (.cells #[.int .i64 0, .bool false, .int .u64 0, .int .i64 0] 24 (0, 0)) ∧ Below w.heap.size w wx)
  case atStart =>
    exact ⟨0, m, rfl, by simp, by omega, HM.out.symm, Nat.le_refl _, heap_alloc_new w _, (Below.refl _ _).alloc (Nat.le_refl _) _⟩
  case round =>
    obtain ⟨k, M, rfl, rfl, hk, hM, hMm, hX, hbx⟩ := hrel
    cases gk with
    | zero =>
      obtain rfl : M = c := by rw [hM, Nat.pow_zero, Nat.mul_one]
      have g1 : Int.tmod (M : Int) 2 = 1 := by rw [Int.tmod_eq_emod_of_nonneg (by omega)]; omega
      have g2 : (M : Int) % 2 = 1 := by omega
      obtain rfl : k = z := by omega
      have z0 := at_block hX 0 _ rfl
      have z1 := at_block hX 1 _ rfl
      have z2 := at_block hX 2 _ rfl
      have z3 := at_block hX 3 _ rfl
      have f0 := free_block hX 0
      have f1 := free_block hX 1
      have f2 := free_block hX 2
      have f3 := free_block hX 3
      have HX := Lib.hid hX
      clear hM hMm hX hc hm hcm hm0 hc0
      go_wp2_with fail
      refine bodyPost_ret (v := .agg #[.int .i64 0, .bool neg, .int .u64 (M : Int), .int .i64 (e + (k : Int))]) (by simp [results, Tryz.results45, go_sem, z0, z1, z2, z3]) rfl ?_
      refine ⟨rfl, ?_⟩
      exact (((hbx.setCell (p := ⟨w.heap.size, 0, none⟩) (Nat.le_refl _) _).setCell (p := ⟨w.heap.size, 1, none⟩) (Nat.le_refl _) _).setCell (p := ⟨w.heap.size, 2, none⟩) (Nat.le_refl _) _).setCell (p := ⟨w.heap.size, 3, none⟩) (Nat.le_refl _) _
    | succ f =>
      obtain ⟨N, hN⟩ : ∃ N, c * 2 ^ f = N := ⟨_, rfl⟩
      have hMN : M = 2 * N := by rw [hM, Nat.pow_succ, ← Nat.mul_assoc, hN, Nat.mul_comm]
      have g1 : Int.tmod (M : Int) 2 = 0 := by rw [Int.tmod_eq_emod_of_nonneg (by omega)]; omega
      have g2 : (M : Int) % 2 = 0 := by omega
      have g3 : Int.tdiv (M : Int) 2 = (N : Int) := by rw [Int.tdiv_eq_ediv_of_nonneg (by omega)]; omega
      have g4 : (M : Int) / 2 = (N : Int) := by omega
      have g5 : IntKind.u64.wrap (N : Int) = (N : Int) := by rw [IntKind.wrap_u64]; omega
      have g6 : IntKind.i64.wrap (e + (k : Int) + 1) = e + (k : Int) + 1 := IntWalk.i64_in _ (by omega)
      have HH := Lib.hid (And.intro hN (And.intro hX hMm))
      have HMN := Lib.hid hMN
      clear hM hMm hX hN hMN hm0 hcm hc0
      go_wp2_with fail
      go_roundg f
      case measure => omega
      case rel =>
        have := HMN.out
        exact ⟨k + 1, N, rfl, by congr 1; omega, by omega, HH.out.1.symm, by have := HH.out.2.2; omega, HH.out.2.1, hbx⟩
end Go.Proofs.YtjapgpmoojfhnaaGreatDoor
