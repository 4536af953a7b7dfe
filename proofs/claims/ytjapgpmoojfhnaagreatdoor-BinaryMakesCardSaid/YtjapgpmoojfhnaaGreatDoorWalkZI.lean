/- awake: the examples of the chapter. -/
import Derived.Test.YtjapgpmoojfhnaaGreatDoorWalkZH
import Derived.Test.YtjapgpmoojfhnaaGreatDoorWalkZEC
import Derived.Test.YtjapgpmoojfhnaaGreatDoorWalkZEA
import Derived.Test.YtjapgpmoojfhnaaGreatDoorWalkZEB
namespace Go.Proofs.YtjapgpmoojfhnaaGreatDoor
open Go.RowKit Go.Lib

theorem wideW_double {b : Nat} (hb : b < 18446744073709551616) (h : b % 9223372036854775808 ≤ 9218868437227405312) : Fl.wideW Ieee.double b = b := by
  unfold Fl.wideW
  rw [Fl.double_is.2.2.2.2, Fl.wide_double h]
  split <;> omega
set_option maxHeartbeats 1000000 in
set_option maxRecDepth 100000 in
theorem awake_any (w : World) (hL : Laid w) : Calls Tryz.prog 16 #[] w fun x w' => x = .returned (.bool true) ∧ Below w.heap.size w w' := by
  have FB : ∀ W, Laid W → Calls Tryz.prog 25 #[.int .u64 4609434218613702656, .int .i64 64] W fun x w' => x = .returned (.tuple #[.string ⟨#[51, 112, 45, 49]⟩, .int .i64 0]) ∧ Below W.heap.size W w' := fun W hW => by
    have h := frombits64 4609434218613702656 (by decide) W hW
    rw [wideW_double (by decide) (by decide), show Fl.txt 4609434218613702656 = [51, 112, 45, 49] by kernel_rfl] at h
    exact h
  have BI : ∀ W, Laid W → Calls Tryz.prog 27 #[.string ⟨#[49, 112, 49, 54]⟩, .int .i64 16] W fun x w' => x = .returned (.tuple #[.int .u64 31744, .bool false, .int .i64 0]) ∧ Below W.heap.size W w' := fun W hW => by
    have h := binbits_any16 4679240012837945344 (by decide) W hW
    rw [show Fl.txt 4679240012837945344 = [49, 112, 49, 54] by kernel_rfl, show (Fl.bitsR Fl.half 4679240012837945344).1 = 31744 by kernel_rfl, show (Fl.bitsR Fl.half 4679240012837945344).2 = false by kernel_rfl] at h
    exact h
  have SH : ∀ W, Laid W → Calls Tryz.prog 36 #[.string ⟨#[49, 112, 45, 49, 48, 55, 52]⟩] W fun x w' => x = .returned (.tuple #[.string ⟨#[53, 101, 45, 51, 50, 52]⟩, .int .i64 0]) ∧ Below W.heap.size W w' := fun W hW => by
    have h := shortest_one W hW
    rw [txt_one] at h
    exact h
  have V1 : ∀ W, Laid W → Calls Tryz.prog 34 #[.string ⟨#[45, 48, 112, 48]⟩] W fun x w' => x = .returned (.bool true) ∧ Below W.heap.size W w' := fun W _ => by
    have h := parse_zero 9223372036854775808 (by decide) W (by decide)
    rw [show Fl.txt 9223372036854775808 = [45, 48, 112, 48] by kernel_rfl] at h
    exact valid_of _ _ _ W h
  have V2 : ∀ W, Laid W → Calls Tryz.prog 34 #[.string ⟨#[50, 112, 48]⟩] W fun x w' => x = .returned (.bool false) ∧ Below W.heap.size W w' := fun W hW => valid_of _ _ _ W (parse_two W hW)
  have FB := Lib.hid FB
  have BI := Lib.hid BI
  have SH := Lib.hid SH
  have V1 := Lib.hid V1
  have V2 := Lib.hid V2
  have HL := Lib.hid hL
  clear hL
  go_enter Tryz.func16, Tryz.ntmps16
  go_wp2_with fail
  refine (FB.out _ HL.out).mono ?_
  rintro x w1 ⟨rfl, hb1⟩
  go_wp2_with fail
  refine (BI.out _ (HL.out.on hb1)).mono ?_
  rintro x w2 ⟨rfl, hb2⟩
  have hb2 := b_trans hb1 hb2
  go_wp2_with fail
  refine (SH.out _ (HL.out.on hb2)).mono ?_
  rintro x w3 ⟨rfl, hb3⟩
  have hb3 := b_trans hb2 hb3
  go_wp2_with fail
  refine (V1.out _ (HL.out.on hb3)).mono ?_
  rintro x w4 ⟨rfl, hb4⟩
  have hb4 := b_trans hb3 hb4
  go_wp2_with fail
  refine (V2.out _ (HL.out.on hb4)).mono ?_
  rintro x w5 ⟨rfl, hb5⟩
  have hb5 := b_trans hb4 hb5
  go_wp2_with fail
  go_ret
  exact ⟨rfl, hb5⟩
end Go.Proofs.YtjapgpmoojfhnaaGreatDoor
