/- Valid at the two texts of the example. -/
import Derived.Test.YtjapgpmoojfhnaaGreatDoorWalkT
namespace Go.Proofs.YtjapgpmoojfhnaaGreatDoor
open Go.RowKit Go.Lib

set_option maxRecDepth 100000 in
theorem fits_two (w : World) : Calls Tryz.prog 83 #[.int .u64 2, .int .i64 0] w fun x w' => x = .returned (.bool false) ∧ w' = w := by
  have LN : ∀ W, ∃ L, Calls Tryz.prog 67 #[.int .u64 2] W fun e w' => e = .returned (.int .i64 L) ∧ w' = W := fun W => ⟨_, Tryz.bits_Len64 2 W (by decide) (by decide)⟩
  obtain ⟨L, hL⟩ := LN w
  have LN := Lib.hid hL
  clear hL
  go_enter Tryz.func83, Tryz.ntmps83
  go_wp2_with fail
  refine (LN.out).mono ?_
  rintro x w1 ⟨rfl, rfl⟩
  go_wp2_with fail
  go_ret
  exact ⟨rfl, rfl⟩
set_option maxHeartbeats 1000000 in
set_option maxRecDepth 100000 in
theorem parse_two (w : World) (hL : Laid w) : Calls Tryz.prog 58 #[.string ⟨#[50, 112, 48]⟩] w fun x w' => x = .returned (.tuple #[.float .f64 0, .bool false]) ∧ Below w.heap.size w w' := by
  have CP : ∀ W, Calls Tryz.prog 102 #[.string ⟨#[50, 112, 48]⟩, .string ⟨#[45]⟩] W fun e w' => e = .returned (.tuple #[.string ⟨#[50, 112, 48]⟩, .bool false]) ∧ w' = W := fun W => Tryz.strings_CutPrefix ⟨#[50, 112, 48]⟩ ⟨#[45]⟩ W
  have CU : ∀ W, Laid W → Calls Tryz.prog 48 #[.string ⟨#[50, 112, 48]⟩, .string ⟨#[112]⟩] W fun x w' => x = .returned (.tuple #[.string ⟨#[50]⟩, .string ⟨#[48]⟩, .bool true]) ∧ Below W.heap.size W w' := fun W hW => by
    obtain ⟨mm, hmm⟩ := hW.2.2.2.2.2.1
    have h := Tryz.strings_Cut ⟨#[50, 112, 48]⟩ ⟨#[112]⟩ mm W (by decide) hmm
    have hc : Lib.cut (⟨#[50, 112, 48]⟩ : ByteArray).data.toList (⟨#[112]⟩ : ByteArray).data.toList = ([50], [48], true) := by decide
    rw [hc] at h
    refine h.mono ?_
    rintro x w' ⟨rfl, n, rfl⟩
    exact ⟨rfl, below_drewN (Below.refl _ _) n⟩
  have PU := Lib.hid (fun W => uint_ok ⟨#[50]⟩ (by decide) 2 (by decide) W)
  have AT := Lib.hid (fun W => atoi_ok ⟨#[48]⟩ (by decide) 0 (by decide) W)
  have FI := Lib.hid (fun W => fits_two W)
  have CP := Lib.hid CP
  have CU := Lib.hid CU
  have HL := Lib.hid hL
  clear hL
  go_enter Tryz.func58, Tryz.ntmps58
  go_wp2_with fail
  refine (CP.out _).mono ?_
  rintro x w1 ⟨rfl, rfl⟩
  go_wp2_with fail
  refine (CU.out _ HL.out).mono ?_
  rintro x w2 ⟨rfl, hb2⟩
  go_wp2_with fail
  refine (PU.out _).mono ?_
  rintro x w3 ⟨rfl, hb3⟩
  have hb3 := hb2.trans (hb3.mono hb2.size)
  go_wp2_with fail
  refine (AT.out _).mono ?_
  rintro x w4 ⟨rfl, hb4⟩
  have hb4 := hb3.trans (hb4.mono hb3.size)
  go_wp2_with fail
  refine (FI.out _).mono ?_
  rintro x w5 ⟨rfl, rfl⟩
  go_wp2_with fail
  go_ret2
  exact ⟨rfl, hb4⟩
/-- Valid, by what parse answers. -/
theorem valid_of (s : ByteArray) (f : Nat) (ok : Bool) (w : World) (hp : Calls Tryz.prog 58 #[.string s] w fun x w' => x = .returned (.tuple #[.float .f64 f, .bool ok]) ∧ Below w.heap.size w w') :
    Calls Tryz.prog 34 #[.string s] w fun x w' => x = .returned (.bool ok) ∧ Below w.heap.size w w' := by
  have HP := Lib.hid hp
  clear hp
  go_enter Tryz.func34, Tryz.ntmps34
  go_wp2_with fail
  refine (HP.out).mono ?_
  rintro x w1 ⟨rfl, hb1⟩
  go_wp2_with fail
  go_ret
  exact ⟨rfl, hb1⟩
end Go.Proofs.YtjapgpmoojfhnaaGreatDoor
