/- The law BinaryRounds returns true for every word and every size. -/
import Derived.Test.YtjapgpmoojfhnaaGreatDoorLaw8
import Derived.Test.YtjapgpmoojfhnaaGreatDoorWalkZJA
import Derived.Test.YtjapgpmoojfhnaaGreatDoorWalkZJB
import Derived.Test.YtjapgpmoojfhnaaGreatDoorWalkZJC
namespace Go.Proofs.YtjapgpmoojfhnaaGreatDoor
open Go.RowKit Go.Lib

theorem refbits_any16 (b : Nat) (w : World) :
    Calls Tryz.prog 28 #[Fl.refF b, .int .i64 16] w fun x w' => x = .returned (.tuple #[.int .u64 ((Fl.bitsR Fl.half b).1 : Int), .bool (Fl.bitsR Fl.half b).2]) ∧ Below w.heap.size w w' := by
  obtain ⟨d1, d2, d3, d4, d5⟩ := Fl.half_is
  have hd : ∀ x : Nat, (if 9223372036854775808 ≤ b then x else 0) = (if decide (9223372036854775808 ≤ b) = true then x else 0) := fun x => by
    by_cases h : 9223372036854775808 ≤ b
    · rw [if_pos h, if_pos (decide_eq_true h)]
    · rw [if_neg h, if_neg (by rw [decide_eq_false h]; simp)]
  unfold Fl.bitsR Fl.refF
  rw [d1, d2, d5]
  by_cases h1 : 9218868437227405312 < b % 9223372036854775808
  · rw [if_pos h1, if_pos h1]
    exact refbits_nan16 false 0 0 w
  · rw [if_neg h1, if_neg h1]
    by_cases h2 : b % 9223372036854775808 = 9218868437227405312
    · rw [if_pos h2, if_pos h2, hd]
      exact refbits_inf16 _ 0 0 w
    · rw [if_neg h2, if_neg h2]
      by_cases h3 : b % 9223372036854775808 = 0
      · rw [if_pos h3, if_pos h3, hd]
        exact refbits_zero16 _ w
      · rw [if_neg h3, if_neg h3, hd]
        obtain ⟨s1, s2, s3, s4⟩ := Fl.om_spec (r := b % 9223372036854775808) (by omega)
        obtain ⟨b1, b2, b3, b4⟩ := Fl.om_bounds (r := b % 9223372036854775808) (by omega) (by omega)
        exact refbits_num16 _ _ _ w s3 s4 b1 b2 b3 b4
theorem refbits_any32 (b : Nat) (w : World) :
    Calls Tryz.prog 28 #[Fl.refF b, .int .i64 32] w fun x w' => x = .returned (.tuple #[.int .u64 ((Fl.bitsR Ieee.single b).1 : Int), .bool (Fl.bitsR Ieee.single b).2]) ∧ Below w.heap.size w w' := by
  obtain ⟨d1, d2, d3, d4, d5⟩ := Fl.single_is
  have hd : ∀ x : Nat, (if 9223372036854775808 ≤ b then x else 0) = (if decide (9223372036854775808 ≤ b) = true then x else 0) := fun x => by
    by_cases h : 9223372036854775808 ≤ b
    · rw [if_pos h, if_pos (decide_eq_true h)]
    · rw [if_neg h, if_neg (by rw [decide_eq_false h]; simp)]
  unfold Fl.bitsR Fl.refF
  rw [d1, d2, d5]
  by_cases h1 : 9218868437227405312 < b % 9223372036854775808
  · rw [if_pos h1, if_pos h1]
    exact refbits_nan32 false 0 0 w
  · rw [if_neg h1, if_neg h1]
    by_cases h2 : b % 9223372036854775808 = 9218868437227405312
    · rw [if_pos h2, if_pos h2, hd]
      exact refbits_inf32 _ 0 0 w
    · rw [if_neg h2, if_neg h2]
      by_cases h3 : b % 9223372036854775808 = 0
      · rw [if_pos h3, if_pos h3, hd]
        exact refbits_zero32 _ w
      · rw [if_neg h3, if_neg h3, hd]
        obtain ⟨s1, s2, s3, s4⟩ := Fl.om_spec (r := b % 9223372036854775808) (by omega)
        obtain ⟨b1, b2, b3, b4⟩ := Fl.om_bounds (r := b % 9223372036854775808) (by omega) (by omega)
        exact refbits_num32 _ _ _ w s3 s4 b1 b2 b3 b4
theorem refbits_any64 (b : Nat) (w : World) :
    Calls Tryz.prog 28 #[Fl.refF b, .int .i64 64] w fun x w' => x = .returned (.tuple #[.int .u64 ((Fl.bitsR Ieee.double b).1 : Int), .bool (Fl.bitsR Ieee.double b).2]) ∧ Below w.heap.size w w' := by
  obtain ⟨d1, d2, d3, d4, d5⟩ := Fl.double_is
  have hd : ∀ x : Nat, (if 9223372036854775808 ≤ b then x else 0) = (if decide (9223372036854775808 ≤ b) = true then x else 0) := fun x => by
    by_cases h : 9223372036854775808 ≤ b
    · rw [if_pos h, if_pos (decide_eq_true h)]
    · rw [if_neg h, if_neg (by rw [decide_eq_false h]; simp)]
  unfold Fl.bitsR Fl.refF
  rw [d1, d2, d5]
  by_cases h1 : 9218868437227405312 < b % 9223372036854775808
  · rw [if_pos h1, if_pos h1]
    exact refbits_nan64 false 0 0 w
  · rw [if_neg h1, if_neg h1]
    by_cases h2 : b % 9223372036854775808 = 9218868437227405312
    · rw [if_pos h2, if_pos h2, hd]
      exact refbits_inf64 _ 0 0 w
    · rw [if_neg h2, if_neg h2]
      by_cases h3 : b % 9223372036854775808 = 0
      · rw [if_pos h3, if_pos h3, hd]
        exact refbits_zero64 _ w
      · rw [if_neg h3, if_neg h3, hd]
        obtain ⟨s1, s2, s3, s4⟩ := Fl.om_spec (r := b % 9223372036854775808) (by omega)
        obtain ⟨b1, b2, b3, b4⟩ := Fl.om_bounds (r := b % 9223372036854775808) (by omega) (by omega)
        exact refbits_num64 _ _ _ w s3 s4 b1 b2 b3 b4
set_option maxHeartbeats 1000000 in
set_option maxRecDepth 100000 in
theorem size_any (n : Int) (w : World) : Calls Tryz.prog 26 #[.int .i64 n] w fun x w' => x = .returned (.bool (decide (n = 16 ∨ n = 32 ∨ n = 64))) ∧ w' = w := by
  by_cases h1 : n = 16
  · subst h1
    go_enter Tryz.func26, Tryz.ntmps26
    go_wp2_with fail
    go_ret
    exact ⟨rfl, rfl⟩
  · have c1 : (n == 16) = false := by rw [beq_eq_false_iff_ne]; exact h1
    by_cases h2 : n = 32
    · subst h2
      clear c1
      go_enter Tryz.func26, Tryz.ntmps26
      go_wp2_with fail
      go_ret
      exact ⟨rfl, rfl⟩
    · have c2 : (n == 32) = false := by rw [beq_eq_false_iff_ne]; exact h2
      by_cases h3 : n = 64
      · subst h3
        clear c1 c2
        go_enter Tryz.func26, Tryz.ntmps26
        go_wp2_with fail
        go_ret
        exact ⟨rfl, rfl⟩
      · have c3 : (n == 64) = false := by rw [beq_eq_false_iff_ne]; exact h3
        rw [decide_eq_false (by omega)]
        clear h1 h2 h3
        go_enter Tryz.func26, Tryz.ntmps26
        go_wp2_with fail
        go_ret
        exact ⟨rfl, rfl⟩
/-- One float of the reference, boxed. -/
theorem one_float (k : Int) (n : Bool) (m e : Int) (w : World) : ∃ (w2 : World) (X : Nat), w.alloc (.cells #[.int .i64 k, .bool n, .int .u64 m, .int .i64 e] 24) = w2 ∧ w.heap.size = X ∧ Below w.heap.size w w2 ∧
    ∀ W, Below w2.heap.size w2 W → W.cell? ⟨X, 0, none⟩ = some (.int .i64 k) ∧ W.cell? ⟨X, 1, none⟩ = some (.bool n) ∧ W.cell? ⟨X, 2, none⟩ = some (.int .u64 m) ∧ W.cell? ⟨X, 3, none⟩ = some (.int .i64 e) ∧ Below w2.heap.size w2 W := box_float k n m e w
set_option maxHeartbeats 1000000 in
set_option maxRecDepth 100000 in
theorem law6_in (b : Nat) (n : Int) (hb : b < 18446744073709551616) (w : World) (hL : Laid w) (R : Nat) (Z : Bool)
    (BB : ∀ W, Laid W → Calls Tryz.prog 27 #[.string ⟨(Fl.txt b).toArray⟩, .int .i64 n] W fun x w' => x = .returned (.tuple #[.int .u64 (R : Int), .bool Z, .int .i64 0]) ∧ Below W.heap.size W w')
    (RB : ∀ W, Calls Tryz.prog 28 #[Fl.refF b, .int .i64 n] W fun x w' => x = .returned (.tuple #[.int .u64 (R : Int), .bool Z]) ∧ Below W.heap.size W w') (hn : n = 16 ∨ n = 32 ∨ n = 64) :
    Calls Tryz.prog 6 #[.int .u64 (b : Int), .int .i64 n] w fun x w' => x = .returned (.bool true) ∧ Below w.heap.size w w' := by
  have FB := fun W => fromBits64 b hb W
  have TX := fun W => reftext_any b W
  have SZ := fun W => size_any n W
  rw [decide_eq_true hn] at SZ
  have AW := Lib.hid (fun W hW => awake_any W hW)
  obtain ⟨k, g, m, e, h1, _⟩ := ref_form b
  rw [h1] at FB TX RB
  obtain ⟨SB, hSB⟩ : ∃ S : ByteArray, (⟨(Fl.txt b).toArray⟩ : ByteArray) = S := ⟨_, rfl⟩
  rw [hSB] at TX BB
  have FB := Lib.hid FB
  have TX := Lib.hid TX
  have SZ := Lib.hid SZ
  have BB := Lib.hid BB
  have RB := Lib.hid RB
  have HL := Lib.hid hL
  clear hb hL hn h1 hSB
  go_enter Tryz.func6, Tryz.ntmps6
  go_wp2_with fail
  refine (FB.out _).mono ?_
  rintro x w1 ⟨rfl, hb1⟩
  go_upto_region 2 with fail
  obtain ⟨w3, X, hw3, hX, hb3, hcells⟩ := one_float k g m e w1
  rw [hw3, hX]
  have hb3 := b_trans hb1 hb3
  obtain ⟨x0, x1, x2, x3, hd3⟩ := hcells w3 (Below.refl _ _)
  have HC := Lib.hid hcells
  have HL3 := Lib.hid (HL.out.on hb3)
  have HB3 := Lib.hid hb3
  clear hcells hw3 hX hb1 hb3
  go_wp2_with fail
  refine (TX.out _).mono ?_
  rintro x w4 ⟨rfl, hb4⟩
  clear x0 x1 x2 x3
  go_wp2_with fail
  refine (BB.out _ (HL3.out.on hb4)).mono ?_
  rintro x w5 ⟨rfl, hb5⟩
  have hb5 := b_trans hb4 hb5
  obtain ⟨x0, x1, x2, x3, _⟩ := HC.out w5 hb5
  clear hb4
  go_wp2_with fail
  refine (SZ.out _).mono ?_
  rintro x w6 ⟨rfl, rfl⟩
  go_wp2_with fail
  refine (RB.out _).mono ?_
  rintro x w7 ⟨rfl, hb7⟩
  have hb7 := b_trans hb5 hb7
  clear x0 x1 x2 x3 hb5
  have HL7 := Lib.hid (HL3.out.on hb7)
  go_wp2_with fail
  refine (AW.out _ HL7.out).mono ?_
  rintro x w8 ⟨rfl, hb8⟩
  have hb8 := b_trans hb7 hb8
  go_wp2_with fail
  go_ret
  exact ⟨rfl, b_trans HB3.out hb8⟩
set_option maxHeartbeats 1000000 in
set_option maxRecDepth 100000 in
theorem law6_out (b : Nat) (n : Int) (hb : b < 18446744073709551616) (w : World) (hL : Laid w) (n1 : n ≠ 16) (n2 : n ≠ 32) (n3 : n ≠ 64) :
    Calls Tryz.prog 6 #[.int .u64 (b : Int), .int .i64 n] w fun x w' => x = .returned (.bool true) ∧ Below w.heap.size w w' := by
  have FB := fun W => fromBits64 b hb W
  have TX := fun W => reftext_any b W
  have SZ := fun W => size_any n W
  rw [decide_eq_false (by omega)] at SZ
  have BB := fun W hW => binbits_arg b n hb n1 n2 n3 W hW
  have AW := Lib.hid (fun W hW => awake_any W hW)
  obtain ⟨k, g, m, e, h1, _⟩ := ref_form b
  rw [h1] at FB TX
  obtain ⟨SB, hSB⟩ : ∃ S : ByteArray, (⟨(Fl.txt b).toArray⟩ : ByteArray) = S := ⟨_, rfl⟩
  rw [hSB] at TX BB
  have FB := Lib.hid FB
  have TX := Lib.hid TX
  have SZ := Lib.hid SZ
  have BB := Lib.hid BB
  have HL := Lib.hid hL
  clear hb hL n1 n2 n3 h1 hSB
  go_enter Tryz.func6, Tryz.ntmps6
  go_wp2_with fail
  refine (FB.out _).mono ?_
  rintro x w1 ⟨rfl, hb1⟩
  go_upto_region 2 with fail
  obtain ⟨w3, X, hw3, hX, hb3, hcells⟩ := one_float k g m e w1
  rw [hw3, hX]
  have hb3 := b_trans hb1 hb3
  obtain ⟨x0, x1, x2, x3, hd3⟩ := hcells w3 (Below.refl _ _)
  have HL3 := Lib.hid (HL.out.on hb3)
  have HB3 := Lib.hid hb3
  clear hcells hw3 hX hb1 hb3
  go_wp2_with fail
  refine (TX.out _).mono ?_
  rintro x w4 ⟨rfl, hb4⟩
  clear x0 x1 x2 x3
  go_wp2_with fail
  refine (BB.out _ (HL3.out.on hb4)).mono ?_
  rintro x w5 ⟨rfl, hb5⟩
  have hb5 := b_trans hb4 hb5
  clear hb4
  go_wp2_with fail
  refine (SZ.out _).mono ?_
  rintro x w6 ⟨rfl, rfl⟩
  have HL7 := Lib.hid (HL3.out.on hb5)
  go_wp2_with fail
  refine (AW.out _ HL7.out).mono ?_
  rintro x w8 ⟨rfl, hb8⟩
  have hb8 := b_trans hb5 hb8
  go_wp2_with fail
  go_ret
  exact ⟨rfl, b_trans HB3.out hb8⟩
theorem law6 (b : Nat) (n : Int) (hb : b < 18446744073709551616) (_ : -9223372036854775808 ≤ n ∧ n ≤ 9223372036854775807) (w : World) (hL : Laid w) :
    Calls Tryz.prog 6 #[.int .u64 (b : Int), .int .i64 n] w fun x w' => x = .returned (.bool true) ∧ Below w.heap.size w w' := by
  by_cases h1 : n = 16
  · subst h1
    exact law6_in b 16 hb w hL _ _ (fun W hW => binbits_any16 b hb W hW) (fun W => refbits_any16 b W) (by omega)
  · by_cases h2 : n = 32
    · subst h2
      exact law6_in b 32 hb w hL _ _ (fun W hW => binbits_any32 b hb W hW) (fun W => refbits_any32 b W) (by omega)
    · by_cases h3 : n = 64
      · subst h3
        exact law6_in b 64 hb w hL _ _ (fun W hW => binbits_any64 b hb W hW) (fun W => refbits_any64 b W) (by omega)
      · exact law6_out b n hb w hL h1 h2 h3
end Go.Proofs.YtjapgpmoojfhnaaGreatDoor
