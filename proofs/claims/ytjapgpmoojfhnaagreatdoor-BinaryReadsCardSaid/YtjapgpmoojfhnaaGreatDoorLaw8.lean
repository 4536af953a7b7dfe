/- The law BinaryCompares returns true for every pair of words. -/
import Derived.Test.YtjapgpmoojfhnaaGreatDoorWalkZI
namespace Go.Proofs.YtjapgpmoojfhnaaGreatDoor
open Go.RowKit Go.Lib

theorem ref_form (b : Nat) : ∃ (k : Int) (n : Bool) (m e : Int), Fl.refF b = .agg #[.int .i64 k, .bool n, .int .u64 m, .int .i64 e] ∧ (k == 2) = decide (9218868437227405312 < b % 9223372036854775808) := by
  unfold Fl.refF
  by_cases h1 : 9218868437227405312 < b % 9223372036854775808
  · rw [if_pos h1, decide_eq_true h1]; exact ⟨_, _, _, _, rfl, rfl⟩
  · rw [if_neg h1, decide_eq_false h1]
    split
    · exact ⟨_, _, _, _, rfl, rfl⟩
    · split
      · exact ⟨_, _, _, _, rfl, rfl⟩
      · exact ⟨_, _, _, _, rfl, rfl⟩
/-- Two floats of the reference, boxed. -/
theorem two_floats (k : Int) (n : Bool) (m e : Int) (k' : Int) (n' : Bool) (m' e' : Int) (w : World) : ∃ (w2 : World) (X : Nat), (w.alloc (.cells #[.int .i64 k, .bool n, .int .u64 m, .int .i64 e] 24)).alloc (.cells #[.int .i64 k', .bool n', .int .u64 m', .int .i64 e'] 24) = w2 ∧ w.heap.size = X ∧ Below w.heap.size w w2 ∧
    ∀ W, Below w2.heap.size w2 W → W.cell? ⟨X, 0, none⟩ = some (.int .i64 k) ∧ W.cell? ⟨X, 1, none⟩ = some (.bool n) ∧ W.cell? ⟨X, 2, none⟩ = some (.int .u64 m) ∧ W.cell? ⟨X, 3, none⟩ = some (.int .i64 e) ∧
      W.cell? ⟨X + 1, 0, none⟩ = some (.int .i64 k') ∧ W.cell? ⟨X + 1, 1, none⟩ = some (.bool n') ∧ W.cell? ⟨X + 1, 2, none⟩ = some (.int .u64 m') ∧ W.cell? ⟨X + 1, 3, none⟩ = some (.int .i64 e') ∧ Below w2.heap.size w2 W := by
  obtain ⟨q1, q2, q3, q4⟩ := two_blocks w (.cells #[.int .i64 k, .bool n, .int .u64 m, .int .i64 e] 24) (.cells #[.int .i64 k', .bool n', .int .u64 m', .int .i64 e'] 24)
  refine ⟨_, _, rfl, rfl, q3, fun W hW => ?_⟩
  have h1 := (hW.block w.heap.size (by omega)).trans q1
  have h2 := (hW.block (w.heap.size + 1) (by omega)).trans q2
  exact ⟨at_block h1 0 _ rfl, at_block h1 1 _ rfl, at_block h1 2 _ rfl, at_block h1 3 _ rfl, at_block h2 0 _ rfl, at_block h2 1 _ rfl, at_block h2 2 _ rfl, at_block h2 3 _ rfl, hW⟩
set_option maxHeartbeats 2000000 in
set_option maxRecDepth 100000 in
theorem law8 (a b : Nat) (ha : a < 18446744073709551616) (hb : b < 18446744073709551616) (w : World) (hL : Laid w) :
    Calls Tryz.prog 8 #[.int .u64 (a : Int), .int .u64 (b : Int)] w fun x w' => x = .returned (.bool true) ∧ Below w.heap.size w w' := by
  have FA := fun W => fromBits64 a ha W
  have FB := fun W => fromBits64 b hb W
  have TA := fun W => reftext_any a W
  have TB := fun W => reftext_any b W
  have AW := Lib.hid (fun W hW => awake_any W hW)
  have HL := Lib.hid hL
  obtain ⟨k, n, m, e, h1, hk⟩ := ref_form a
  obtain ⟨k', n', m', e', h2, hk'⟩ := ref_form b
  have CN := fun h W hW => bincmp_nan a b ha hb h W hW
  have CA := fun h h' W hW => bincmp_any a b ha hb h h' W hW
  have RC := fun h h' W => refcmp_key a b h h' W
  rw [h1, h2] at RC
  rw [h1] at FA TA
  rw [h2] at FB TB
  obtain ⟨SA, hSA⟩ : ∃ S : ByteArray, (⟨(Fl.txt a).toArray⟩ : ByteArray) = S := ⟨_, rfl⟩
  obtain ⟨SB, hSB⟩ : ∃ S : ByteArray, (⟨(Fl.txt b).toArray⟩ : ByteArray) = S := ⟨_, rfl⟩
  rw [hSA] at TA CN CA
  rw [hSB] at TB CN CA
  have FA := Lib.hid FA
  have FB := Lib.hid FB
  have TA := Lib.hid TA
  have TB := Lib.hid TB
  by_cases hn : 9218868437227405312 < a % 9223372036854775808 ∨ 9218868437227405312 < b % 9223372036854775808
  · have CN := Lib.hid (CN hn)
    have HK := Lib.hid (And.intro hk (And.intro hk' hn))
    clear CA RC hL h1 h2 hk hk' hSA hSB hn ha hb
    go_enter Tryz.func8, Tryz.ntmps8
    go_wp2_with fail
    refine (FA.out _).mono ?_
    rintro x w1 ⟨rfl, hb1⟩
    go_wp2_with fail
    refine (FB.out _).mono ?_
    rintro x w2 ⟨rfl, hb2⟩
    have hb2 := b_trans hb1 hb2
    go_upto_region 2 with fail
    obtain ⟨w3, X, hw3, hX, hb3, hcells⟩ := two_floats k n m e k' n' m' e' w2
    rw [hw3, hX]
    have hb3 := b_trans hb2 hb3
    have hL3 := HL.out.on hb3
    obtain ⟨x0, x1, x2, x3, y0, y1, y2, y3, hd3⟩ := hcells w3 (Below.refl _ _)
    have HC := Lib.hid hcells
    have HL3 := Lib.hid hL3
    have HB3 := Lib.hid hb3
    clear hcells hw3 hX hb1 hb2 hb3 hL3
    go_region_held3 (fun W => W.cell? ⟨X, 0, none⟩ = some (.int .i64 k) ∧ W.cell? ⟨X, 1, none⟩ = some (.bool n) ∧ W.cell? ⟨X, 2, none⟩ = some (.int .u64 m) ∧ W.cell? ⟨X, 3, none⟩ = some (.int .i64 e) ∧ W.cell? ⟨X + 1, 0, none⟩ = some (.int .i64 k') ∧ W.cell? ⟨X + 1, 1, none⟩ = some (.bool n') ∧ W.cell? ⟨X + 1, 2, none⟩ = some (.int .u64 m') ∧ W.cell? ⟨X + 1, 3, none⟩ = some (.int .i64 e') ∧ Below w3.heap.size w3 W)
      ((refine HC.out _ ?_; first | assumption | exact b_drew hd3 | exact b_drew (by assumption)))
      (first | (go_at_call 15; with_reducible refine (TA.out _).mono ?_; rintro z w4 ⟨rfl, hb4⟩; have hb4' := f8_trans (by assumption) hb4) | (go_at_call 15; with_reducible refine (TB.out _).mono ?_; rintro z w5 ⟨rfl, hb5⟩; have hb5' := f8_trans (by assumption) hb5) | (go_at_call 23; with_reducible refine (CN.out _ (HL3.out.on (by first | exact f8 (by assumption) | exact b_drew (f8 (by assumption))))).mono ?_; rintro z w6 ⟨rfl, hb6⟩; have hb6' := f8_trans (by assumption) hb6))
    clear x0 x1 x2 x3 y0 y1 y2 y3
    obtain ⟨x0, x1, x2, x3, y0, y1, y2, y3, _⟩ := HC.out w6 hb6'
    have hLz := HL3.out.on hb6'
    have hbz := b_trans HB3.out hb6'
    have HLZ := Lib.hid hLz
    clear hb4 hb4' hb5 hb5' hb6 hb6' hLz
    obtain ⟨hk, hk', hn⟩ := HK.out
    by_cases hna : 9218868437227405312 < a % 9223372036854775808
    · rw [decide_eq_true hna] at hk
      clear hk' hn hna
      go_wp2_with fail
      refine (AW.out _ HLZ.out).mono ?_
      rintro z w7 ⟨rfl, hb7⟩
      go_wp2_with fail
      go_ret
      exact ⟨rfl, b_trans hbz hb7⟩
    · rw [decide_eq_false hna] at hk
      rw [decide_eq_true (by omega)] at hk'
      clear hn hna
      go_wp2_with fail
      refine (AW.out _ HLZ.out).mono ?_
      rintro z w7 ⟨rfl, hb7⟩
      go_wp2_with fail
      go_ret
      exact ⟨rfl, b_trans hbz hb7⟩
  · have CA := Lib.hid (CA (by omega) (by omega))
    have RC := Lib.hid (RC (by omega) (by omega))
    obtain ⟨cv, hcv⟩ : ∃ cv, Fl.cmpW a b = cv := ⟨_, rfl⟩
    rw [hcv] at CA RC
    rw [decide_eq_false (by omega)] at hk hk'
    clear CN hL h1 h2 hSA hSB hn ha hb hcv
    go_enter Tryz.func8, Tryz.ntmps8
    go_wp2_with fail
    refine (FA.out _).mono ?_
    rintro x w1 ⟨rfl, hb1⟩
    go_wp2_with fail
    refine (FB.out _).mono ?_
    rintro x w2 ⟨rfl, hb2⟩
    have hb2 := b_trans hb1 hb2
    go_upto_region 2 with fail
    obtain ⟨w3, X, hw3, hX, hb3, hcells⟩ := two_floats k n m e k' n' m' e' w2
    rw [hw3, hX]
    have hb3 := b_trans hb2 hb3
    have hL3 := HL.out.on hb3
    obtain ⟨x0, x1, x2, x3, y0, y1, y2, y3, hd3⟩ := hcells w3 (Below.refl _ _)
    have HC := Lib.hid hcells
    have HL3 := Lib.hid hL3
    have HB3 := Lib.hid hb3
    clear hcells hw3 hX hb1 hb2 hb3 hL3
    go_region_held3 (fun W => W.cell? ⟨X, 0, none⟩ = some (.int .i64 k) ∧ W.cell? ⟨X, 1, none⟩ = some (.bool n) ∧ W.cell? ⟨X, 2, none⟩ = some (.int .u64 m) ∧ W.cell? ⟨X, 3, none⟩ = some (.int .i64 e) ∧ W.cell? ⟨X + 1, 0, none⟩ = some (.int .i64 k') ∧ W.cell? ⟨X + 1, 1, none⟩ = some (.bool n') ∧ W.cell? ⟨X + 1, 2, none⟩ = some (.int .u64 m') ∧ W.cell? ⟨X + 1, 3, none⟩ = some (.int .i64 e') ∧ Below w3.heap.size w3 W)
      ((refine HC.out _ ?_; first | assumption | exact b_drew hd3 | exact b_drew (by assumption)))
      (first | (go_at_call 15; with_reducible refine (TA.out _).mono ?_; rintro z w4 ⟨rfl, hb4⟩; have hb4' := f8_trans (by assumption) hb4) | (go_at_call 15; with_reducible refine (TB.out _).mono ?_; rintro z w5 ⟨rfl, hb5⟩; have hb5' := f8_trans (by assumption) hb5) | (go_at_call 23; with_reducible refine (CA.out _ (HL3.out.on (by first | exact f8 (by assumption) | exact b_drew (f8 (by assumption))))).mono ?_; rintro z w6 ⟨rfl, hb6⟩; have hb6' := f8_trans (by assumption) hb6))
    clear x0 x1 x2 x3 y0 y1 y2 y3
    obtain ⟨x0, x1, x2, x3, y0, y1, y2, y3, _⟩ := HC.out w6 hb6'
    have hLz := HL3.out.on hb6'
    have hbz := b_trans HB3.out hb6'
    have HLZ := Lib.hid hLz
    clear hb4 hb4' hb5 hb5' hb6 hb6' hLz
    go_wp2_with fail
    refine (RC.out _).mono ?_
    rintro z w7 ⟨rfl, hb7⟩
    go_wp2_with fail
    refine (AW.out _ (HLZ.out.on hb7)).mono ?_
    rintro z w8 ⟨rfl, hb8⟩
    go_wp2_with fail
    go_ret
    exact ⟨rfl, b_trans (b_trans hbz hb7) hb8⟩
end Go.Proofs.YtjapgpmoojfhnaaGreatDoor
