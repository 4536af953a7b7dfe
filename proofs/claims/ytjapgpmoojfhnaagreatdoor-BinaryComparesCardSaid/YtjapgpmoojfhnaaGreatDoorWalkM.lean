/- The reference: trim, signed, Neg at digits without leading zeros. -/
import Derived.Test.YtjapgpmoojfhnaaGreatDoorWalkL
namespace Go.Proofs.YtjapgpmoojfhnaaGreatDoor
open Go.RowKit Go.Lib

set_option maxHeartbeats 1000000 in
set_option maxRecDepth 100000 in
theorem trim_id (A : Option Addr) (n c : Nat) (l : List Nat) (d : Nat) (w : World) (hr : Reads w w.heap.size A n (u8s l)) (hn0 : 0 < n) (hn : n ≤ c) (hc : n ≤ 1073741824) (hl : l[n - 1]? = some d) (hd : d ≠ 0) :
    Calls Tryz.prog 85 #[.slice A n c] w fun x w' => x = .returned (.slice A n c) ∧ w' = w := by
  obtain ⟨b, off, u, rfl, _, hu, hcell⟩ := hr.at_ (k := n - 1) (by omega)
  obtain ⟨x, hx, rfl⟩ := u8_at hu
  obtain rfl : x = d := by rw [hl] at hx; exact (Option.some.inj hx).symm
  obtain ⟨q, rfl⟩ : ∃ q, n = q + 1 := ⟨n - 1, by omega⟩
  rw [Nat.add_sub_cancel] at hcell
  have h1 : (0 : Int) < ((q + 1 : Nat) : Int) := by omega
  have h2 : IntKind.i64.wrap (((q + 1 : Nat) : Int) - 1) = (q : Int) := by have := IntWalk.i64_in (((q + 1 : Nat) : Int) - 1) (by omega); rw [this]; omega
  have h3 : ((x : Int) == 0) = false := by rw [beq_eq_false_iff_ne]; omega
  have h4 : (0 : Int) ≤ (q : Int) := by omega
  have h5 : (q : Int) < ((q + 1 : Nat) : Int) := by omega
  obtain ⟨N, hN⟩ : ∃ N, q + 1 = N := ⟨_, rfl⟩
  rw [hN] at h1 h2 h5 hn ⊢
  have h6 : (N : Int) ≤ (c : Int) := by omega
  clear hr hu hl hx hd hN hn0
  go_enter Tryz.func85, Tryz.ntmps85
  go_wp2_with fail
  go_loopg [3] 1 (fun f t wx => t = .int .i64 (N : Int) ∧ wx = w)
  case atStart => exact ⟨rfl, rfl⟩
  case round =>
    obtain ⟨rfl, rfl⟩ := hrel
    go_wp2_with fail
    go_ret
    exact ⟨rfl, rfl⟩
set_option maxHeartbeats 1000000 in
set_option maxRecDepth 100000 in
theorem signed_id (A : Option Addr) (n c : Nat) (l : List Nat) (d : Nat) (neg : Bool) (w : World) (hr : Reads w w.heap.size A n (u8s l)) (hn0 : 0 < n) (hn : n ≤ c) (hc : n ≤ 1073741824) (hl : l[n - 1]? = some d) (hd : d ≠ 0) :
    Calls Tryz.prog 97 #[.slice A n c, .bool neg] w fun x w' => x = .returned (.agg #[.bool neg, .slice A n c]) ∧ Below w.heap.size w w' := by
  have TR := fun W hW => trim_id A n c l d W hW hn0 hn hc hl hd
  have hi : (0 : Int) < (n : Int) := by omega
  obtain ⟨w2, hw2⟩ : ∃ w2 : World, w.alloc (.cells #[.bool false, .slice none 0 0] 33) = w2 := ⟨_, rfl⟩
  obtain ⟨X, hX⟩ : ∃ X, w.heap.size = X := ⟨_, rfl⟩
  have hXc := heap_alloc_new w (.cells #[.bool false, .slice none 0 0] 33)
  have hb2 : Below w.heap.size w w2 := by rw [← hw2]; exact (Below.refl _ _).alloc (Nat.le_refl _) _
  rw [hw2, hX] at hXc
  have hr2 := hr.on hb2
  rw [hX] at hb2
  have HW2 := Lib.hid hw2
  have HX := Lib.hid hX
  have TR := Lib.hid (TR w2 hr2)
  have x0 := at_block hXc 0 _ rfl
  have x1 := at_block hXc 1 _ rfl
  have f0 := free_block hXc 0
  have f1 := free_block hXc 1
  clear hw2 hX hXc hr hr2
  go_enter Tryz.func97, Tryz.ntmps97
  go_upto_region 1 with fail
  rw [HW2.out, HX.out]
  go_wp2_with fail
  refine (TR.out).mono ?_
  rintro x w3 ⟨rfl, rfl⟩
  cases neg with
  | true =>
    go_wp2_with fail
    refine bodyPost_ret (v := .agg #[.bool true, .slice A n c]) (by simp [results, Tryz.results97, go_sem, x0, x1]) rfl ?_
    refine ⟨rfl, ?_⟩
    rw [HX.out]
    exact (hb2.setCell (p := ⟨X, 0, none⟩) (Nat.le_refl _) _).setCell (p := ⟨X, 1, none⟩) (Nat.le_refl _) _
  | false =>
    go_wp2_with fail
    refine bodyPost_ret (v := .agg #[.bool false, .slice A n c]) (by simp [results, Tryz.results97, go_sem, x0, x1]) rfl ?_
    refine ⟨rfl, ?_⟩
    rw [HX.out]
    exact (hb2.setCell (p := ⟨X, 0, none⟩) (Nat.le_refl _) _).setCell (p := ⟨X, 1, none⟩) (Nat.le_refl _) _
end Go.Proofs.YtjapgpmoojfhnaaGreatDoor
