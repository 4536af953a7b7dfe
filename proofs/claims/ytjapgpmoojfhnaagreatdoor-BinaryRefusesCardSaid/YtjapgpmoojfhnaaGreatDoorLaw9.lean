/- The law BinaryRefuses returns true for every string. -/
import Derived.Test.YtjapgpmoojfhnaaGreatDoorWalkZR
namespace Go.Proofs.YtjapgpmoojfhnaaGreatDoor
open Go.RowKit Go.Lib

set_option maxHeartbeats 1000000 in
set_option maxRecDepth 100000 in
theorem law9_long (s : ByteArray) (hs : 300 < s.size) (w : World) (hL : Laid w) : Calls Tryz.prog 9 #[.string s] w fun x w' => x = .returned (.bool true) ∧ Below w.heap.size w w' := by
  have AW := Lib.hid (fun W hW => awake_any W hW)
  have HL := Lib.hid hL
  have g1 : decide (300 < s.size) = true := decide_eq_true hs
  have g2 : decide ((300 : Int) < (s.size : Int)) = true := decide_eq_true (by omega)
  clear hL hs
  go_enter Tryz.func9, Tryz.ntmps9
  go_wp2_with fail
  refine (AW.out _ HL.out).mono ?_
  rintro x w1 ⟨rfl, hb1⟩
  go_wp2_with fail
  go_ret
  exact ⟨rfl, hb1⟩
set_option maxHeartbeats 2000000 in
set_option maxRecDepth 100000 in
theorem law9_kind (b : Nat) (hb : b < 18446744073709551616) (hr : 9218868437227405312 ≤ b % 9223372036854775808) (w : World) (hL : Laid w) : Calls Tryz.prog 9 #[.string ⟨(Fl.txt b).toArray⟩] w fun x w' => x = .returned (.bool true) ∧ Below w.heap.size w w' := by
  have AW := Lib.hid (fun W hW => awake_any W hW)
  obtain ⟨K, n, m, e, hK, OF⟩ := of_canon b
  rw [decide_eq_true hr] at hK
  have VA := fun W hW => valid_of _ _ _ W (parse_txt b hb W hW)
  have PA := fun W hW => parts_kind b hb hr W hW
  have hs := txt_few b
  obtain ⟨s, hse⟩ : ∃ s : ByteArray, (⟨(Fl.txt b).toArray⟩ : ByteArray) = s := ⟨_, rfl⟩
  have hsz : s.size ≤ 300 := by rw [← hse]; exact hs
  rw [hse] at OF VA PA ⊢
  have g1 : decide (300 < s.size) = false := decide_eq_false (by omega)
  have g2 : decide ((300 : Int) < (s.size : Int)) = false := decide_eq_false (by omega)
  have OF := Lib.hid OF
  have VA := Lib.hid VA
  have PA := Lib.hid PA
  have HL := Lib.hid hL
  clear hL hs hse hb hr hsz
  go_enter Tryz.func9, Tryz.ntmps9
  go_wp2_with fail
  refine (OF.out _).mono ?_
  rintro x w1 ⟨rfl, hb1⟩
  go_upto_region 4 with fail
  obtain ⟨w2, X, hw2, hX, hb2, hcells⟩ := box_float K n m e w1
  rw [hw2, hX]
  have hb2 := b_trans hb1 hb2
  have HC := Lib.hid hcells
  have HL2 := Lib.hid (HL.out.on hb2)
  have HB2 := Lib.hid hb2
  clear hcells hw2 hX hb1 hb2
  go_wp2_with fail
  refine (VA.out _ HL2.out).mono ?_
  rintro x w3 ⟨rfl, hb3⟩
  go_wp2_with fail
  refine (PA.out _ (HL2.out.on hb3)).mono ?_
  rintro x w4 ⟨rfl, hb4⟩
  have hb4 := b_trans hb3 hb4
  obtain ⟨x0, x1, x2, x3, _⟩ := HC.out w4 hb4
  go_wp2_with fail
  refine (AW.out _ (HL2.out.on hb4)).mono ?_
  rintro x w5 ⟨rfl, hb5⟩
  go_wp2_with fail
  go_ret
  exact ⟨rfl, b_trans HB2.out (b_trans hb4 hb5)⟩
set_option maxHeartbeats 2000000 in
set_option maxRecDepth 100000 in
theorem law9_num (b : Nat) (hb : b < 18446744073709551616) (hr : b % 9223372036854775808 < 9218868437227405312) (w : World) (hL : Laid w) : Calls Tryz.prog 9 #[.string ⟨(Fl.txt b).toArray⟩] w fun x w' => x = .returned (.bool true) ∧ Below w.heap.size w w' := by
  have AW := Lib.hid (fun W hW => awake_any W hW)
  obtain ⟨K, n, m, e, hK, OF⟩ := of_canon b
  rw [decide_eq_false (p := 9218868437227405312 ≤ b % 9223372036854775808) (by omega)] at hK
  have VA := fun W hW => valid_of _ _ _ W (parse_txt b hb W hW)
  have PA : ∃ (D : ByteArray) (E : Int), ∀ W, Laid W → Calls Tryz.prog 35 #[.string ⟨(Fl.txt b).toArray⟩] W fun x w' => x = .returned (.tuple #[.string D, .int .i64 E, .int .i64 0]) ∧ Below W.heap.size W w' := by
    by_cases h0 : b % 9223372036854775808 = 0
    · exact ⟨_, _, fun W hW => parts_zero b hb h0 W hW⟩
    · exact ⟨_, _, fun W hW => parts_num b hb (by omega) hr W hW⟩
  obtain ⟨D, E, PA⟩ := PA
  have hs := txt_few b
  obtain ⟨s, hse⟩ : ∃ s : ByteArray, (⟨(Fl.txt b).toArray⟩ : ByteArray) = s := ⟨_, rfl⟩
  have hsz : s.size ≤ 300 := by rw [← hse]; exact hs
  rw [hse] at OF VA PA ⊢
  have g1 : decide (300 < s.size) = false := decide_eq_false (by omega)
  have g2 : decide ((300 : Int) < (s.size : Int)) = false := decide_eq_false (by omega)
  have OF := Lib.hid OF
  have VA := Lib.hid VA
  have PA := Lib.hid PA
  have HL := Lib.hid hL
  clear hL hs hse hb hr hsz
  go_enter Tryz.func9, Tryz.ntmps9
  go_wp2_with fail
  refine (OF.out _).mono ?_
  rintro x w1 ⟨rfl, hb1⟩
  go_upto_region 4 with fail
  obtain ⟨w2, X, hw2, hX, hb2, hcells⟩ := box_float K n m e w1
  rw [hw2, hX]
  have hb2 := b_trans hb1 hb2
  have HC := Lib.hid hcells
  have HL2 := Lib.hid (HL.out.on hb2)
  have HB2 := Lib.hid hb2
  clear hcells hw2 hX hb1 hb2
  go_wp2_with fail
  refine (VA.out _ HL2.out).mono ?_
  rintro x w3 ⟨rfl, hb3⟩
  go_wp2_with fail
  refine (PA.out _ (HL2.out.on hb3)).mono ?_
  rintro x w4 ⟨rfl, hb4⟩
  have hb4 := b_trans hb3 hb4
  obtain ⟨x0, x1, x2, x3, _⟩ := HC.out w4 hb4
  go_wp2_with fail
  refine (AW.out _ (HL2.out.on hb4)).mono ?_
  rintro x w5 ⟨rfl, hb5⟩
  go_wp2_with fail
  go_ret
  exact ⟨rfl, b_trans HB2.out (b_trans hb4 hb5)⟩
set_option maxHeartbeats 4000000 in
set_option maxRecDepth 100000 in
theorem law9_bad (s : ByteArray) (hs : s.size ≤ 300) (hc : ∀ b, b < 18446744073709551616 → s.data.toList ≠ Fl.txt b) (w : World) (hL : Laid w) : Calls Tryz.prog 9 #[.string s] w fun x w' => x = .returned (.bool true) ∧ Below w.heap.size w w' := by
  have AW := Lib.hid (fun W hW => awake_any W hW)
  have OF := Lib.hid (fun W => of_not s hs hc W)
  have PB := fun W hW => parse_bad s hs hc W hW
  have VA := Lib.hid (fun W hW => valid_of _ _ _ W (PB W hW))
  have PA := Lib.hid (fun W hW => parts_bad s PB W hW)
  have DE := Lib.hid (fun W hW => decimal_bad s PB W hW)
  have SH := Lib.hid (fun W hW => shortest_bad s PB W hW)
  have BI := Lib.hid (fun W hW => bits_bad s PB W hW 7)
  have C1 := Lib.hid (fun W hW => cmp_bad1 s PB W hW)
  have C2 := Lib.hid (fun W hW => cmp_bad2 s PB W hW)
  have g1 : decide (300 < s.size) = false := decide_eq_false (by omega)
  have g2 : decide ((300 : Int) < (s.size : Int)) = false := decide_eq_false (by omega)
  have hadd : ∀ W, (Op.stringOp .add ⟨#[]⟩ ⟨#[]⟩).run Tryz.prog W = .ok (.string ⟨#[]⟩) W := fun W => run_string_add_sum (P := Tryz.prog) (w := W) ⟨#[]⟩ ⟨#[]⟩ (by decide)
  have HL := Lib.hid hL
  clear hL hs hc PB
  go_enter Tryz.func9, Tryz.ntmps9
  go_wp2_with fail
  refine (OF.out _).mono ?_
  rintro x w1 ⟨rfl, hb1⟩
  go_upto_region 4 with fail
  obtain ⟨w2, X, hw2, hX, hb2, hcells⟩ := box_float 0 false 0 0 w1
  rw [hw2, hX]
  have hb2 := b_trans hb1 hb2
  have HL2 := Lib.hid (HL.out.on hb2)
  have HB2 := Lib.hid hb2
  clear hcells hw2 hX hb1 hb2
  go_wp2_with fail
  refine (VA.out _ HL2.out).mono ?_
  rintro x w3 ⟨rfl, hb3⟩
  go_wp2_with fail
  refine (PA.out _ (HL2.out.on hb3)).mono ?_
  rintro x w4 ⟨rfl, hb4⟩
  have hb4 := b_trans hb3 hb4
  clear hb3
  go_wp2_with fail
  refine (BI.out _ (HL2.out.on hb4)).mono ?_
  rintro x w5 ⟨rfl, hb5⟩
  have hb5 := b_trans hb4 hb5
  clear hb4
  go_wp2_with fail
  refine (DE.out _ (HL2.out.on hb5)).mono ?_
  rintro x w6 ⟨rfl, hb6⟩
  have hb6 := b_trans hb5 hb6
  clear hb5
  go_wp2_with fail
  refine (SH.out _ (HL2.out.on hb6)).mono ?_
  rintro x w7 ⟨rfl, hb7⟩
  have hb7 := b_trans hb6 hb7
  clear hb6
  go_wp2_with fail
  refine (C1.out _ (HL2.out.on hb7)).mono ?_
  rintro x w8 ⟨rfl, hb8⟩
  have hb8 := b_trans hb7 hb8
  clear hb7
  go_wp2_with fail
  refine (C2.out _ (HL2.out.on hb8)).mono ?_
  rintro x w9 ⟨rfl, hb9⟩
  have hb9 := b_trans hb8 hb9
  clear hb8
  go_wp2_with fail
  refine (AW.out _ (HL2.out.on hb9)).mono ?_
  rintro x w10 ⟨rfl, hb10⟩
  go_wp2_with fail
  go_ret
  exact ⟨rfl, b_trans HB2.out (b_trans hb9 hb10)⟩
theorem law9 (s : ByteArray) (w : World) (hL : Laid w) : Calls Tryz.prog 9 #[.string s] w fun x w' => x = .returned (.bool true) ∧ Below w.heap.size w w' := by
  by_cases hs : s.size ≤ 300
  · by_cases hc : ∃ b, b < 18446744073709551616 ∧ s.data.toList = Fl.txt b
    · obtain ⟨b, hb, he⟩ := hc
      have e : s = ⟨(Fl.txt b).toArray⟩ := ba_ext (by rw [he])
      rw [e]
      by_cases hr : b % 9223372036854775808 < 9218868437227405312
      · exact law9_num b hb hr w hL
      · exact law9_kind b hb (by omega) w hL
    · exact law9_bad s hs (fun b hb he => hc ⟨b, hb, he⟩) w hL
  · exact law9_long s (by omega) w hL
end Go.Proofs.YtjapgpmoojfhnaaGreatDoor
