/- The law BinaryReads returns true for every pattern and every size. -/
import Derived.Test.YtjapgpmoojfhnaaGreatDoorWalkZK
namespace Go.Proofs.YtjapgpmoojfhnaaGreatDoor
open Go.RowKit Go.Lib

namespace Fl
open Ieee
theorem two_sign {b s : Nat} (h : b < 2 * s) : (if s ≤ b then s else 0) + b % s = b := by
  by_cases h1 : s ≤ b
  · rw [if_pos h1, Nat.mod_eq_sub_mod h1, Nat.mod_eq_of_lt (by omega)]; omega
  · rw [if_neg h1, Nat.mod_eq_of_lt (by omega)]; omega
theorem reads_num {f : Format} (hf : Fmt f) {b : Nat} (hb : b < 2 * f.signWeight) (hr : b % f.signWeight ≤ f.infRung) : bitsR f (wideW f b) = (b, true) := by
  obtain ⟨v1, v2, _⟩ := wideW_mod hf b
  have hsum := two_sign hb
  have hsg : (if 9223372036854775808 ≤ wideW f b then f.signWeight else 0) = (if f.signWeight ≤ b then f.signWeight else 0) := by
    by_cases h : f.signWeight ≤ b
    · rw [if_pos h, if_pos (v2.2 h)]
    · rw [if_neg h, if_neg (fun h' => h (v2.1 h'))]
  obtain ⟨r, hrr⟩ : ∃ r, b % f.signWeight = r := ⟨_, rfl⟩
  rw [hrr] at v1 hsum hr
  unfold bitsR
  rw [v1, hsg]
  by_cases h1 : r = f.infRung
  · rw [h1, wide_inf, if_neg (by omega), if_pos rfl]
    rw [h1] at hsum
    rw [hsum]
  · by_cases h0 : r = 0
    · rw [h0, wide_zero hf, if_neg (by omega), if_neg (by omega), if_pos rfl]
      rw [h0] at hsum
      simp only [Nat.add_zero] at hsum
      rw [hsum]
    · obtain ⟨s1, s2, s3⟩ := wide_is hf (r := r) (by omega) (by omega)
      rw [if_neg (by omega), if_neg (by omega), if_neg (by omega)]
      obtain ⟨n1, n2⟩ := nearest_same f (r := r) (by omega) (by omega) (same_trans (om_same s1) (same_symm s3)) (om_spec s1).2.1
      rw [n1, n2, hsum]
theorem reads_nan {f : Format} (hf : Fmt f) {b : Nat} (hr : f.infRung < b % f.signWeight) : (bitsR f (wideW f b)).2 = true ∧ 9218868437227405312 < wideW f b % 9223372036854775808 := by
  obtain ⟨v1, v2, _⟩ := wideW_mod hf b
  rw [wide_nan hr] at v1
  unfold bitsR
  rw [v1, if_pos (by omega)]
  exact ⟨rfl, by decide⟩
end Fl
set_option maxHeartbeats 1000000 in
set_option maxRecDepth 100000 in
theorem frombits_arg (b : Nat) (n : Int) (n1 : n ≠ 16) (n2 : n ≠ 32) (n3 : n ≠ 64) (w : World) (hL : Laid w) :
    Calls Tryz.prog 25 #[.int .u64 (b : Int), .int .i64 n] w fun x w' => x = .returned (.tuple #[.string ⟨#[]⟩, .int .i64 1]) ∧ Below w.heap.size w w' := by
  have OF := Lib.hid (fun W hW => of_none n W hW n1 n2 n3)
  have HL := Lib.hid hL
  clear hL n1 n2 n3
  go_enter Tryz.func25, Tryz.ntmps25
  go_wp2_with fail
  refine (OF.out _ HL.out).mono ?_
  rintro x w2 ⟨rfl, hb2⟩
  go_upto_region 2 with fail
  obtain ⟨w3, Y, hw3, hY, hb3, hcells⟩ := box_three 0 0 0 w2
  rw [hw3]
  have HB3 := Lib.hid (hb2.trans (hb3.mono hb2.size))
  clear hw3 hY hb3 hcells hb2
  go_wp2_with fail
  go_ret2
  exact ⟨rfl, HB3.out⟩
set_option maxHeartbeats 1000000 in
set_option maxRecDepth 100000 in
theorem frombits_range16 (b : Nat) (h : 65536 ≤ b) (hb : b < 18446744073709551616) (w : World) (hL : Laid w) :
    Calls Tryz.prog 25 #[.int .u64 (b : Int), .int .i64 16] w fun x w' => x = .returned (.tuple #[.string ⟨#[]⟩, .int .i64 2]) ∧ Below w.heap.size w w' := by
  have OF := Lib.hid (fun W hW => of_16 W hW)
  have HL := Lib.hid hL
  obtain ⟨q, hq⟩ : ∃ q, b / 65536 = q := ⟨_, rfl⟩
  have g1 : (b : Int) / 65536 = (q : Int) := by omega
  have g2 : ((q : Int) != 0) = true := by rw [bne_iff_ne]; omega
  have g3 : ((q : Int) == 0) = false := by rw [beq_eq_false_iff_ne]; omega
  clear hL hq h hb
  go_enter Tryz.func25, Tryz.ntmps25
  go_wp2_with fail
  refine (OF.out _ HL.out).mono ?_
  rintro x w2 ⟨rfl, hb2⟩
  go_upto_region 2 with fail
  obtain ⟨w3, Y, hw3, hY, hb3, hcells⟩ := box_three 16 11 (-24) w2
  rw [hw3]
  have HB3 := Lib.hid (hb2.trans (hb3.mono hb2.size))
  clear hw3 hY hb3 hcells hb2
  go_wp2_with fail
  go_ret2
  exact ⟨rfl, HB3.out⟩
set_option maxHeartbeats 1000000 in
set_option maxRecDepth 100000 in
theorem frombits_range32 (b : Nat) (h : 4294967296 ≤ b) (hb : b < 18446744073709551616) (w : World) (hL : Laid w) :
    Calls Tryz.prog 25 #[.int .u64 (b : Int), .int .i64 32] w fun x w' => x = .returned (.tuple #[.string ⟨#[]⟩, .int .i64 2]) ∧ Below w.heap.size w w' := by
  have OF := Lib.hid (fun W hW => of_32 W hW)
  have HL := Lib.hid hL
  obtain ⟨q, hq⟩ : ∃ q, b / 4294967296 = q := ⟨_, rfl⟩
  have g1 : (b : Int) / 4294967296 = (q : Int) := by omega
  have g2 : ((q : Int) != 0) = true := by rw [bne_iff_ne]; omega
  have g3 : ((q : Int) == 0) = false := by rw [beq_eq_false_iff_ne]; omega
  clear hL hq h hb
  go_enter Tryz.func25, Tryz.ntmps25
  go_wp2_with fail
  refine (OF.out _ HL.out).mono ?_
  rintro x w2 ⟨rfl, hb2⟩
  go_upto_region 2 with fail
  obtain ⟨w3, Y, hw3, hY, hb3, hcells⟩ := box_three 32 24 (-149) w2
  rw [hw3]
  have HB3 := Lib.hid (hb2.trans (hb3.mono hb2.size))
  clear hw3 hY hb3 hcells hb2
  go_wp2_with fail
  go_ret2
  exact ⟨rfl, HB3.out⟩
set_option maxHeartbeats 1000000 in
set_option maxRecDepth 100000 in
/-- Where FromBits answers an error. -/
theorem law5_arg (b : Nat) (n : Int) (n1 : n ≠ 16) (n2 : n ≠ 32) (n3 : n ≠ 64) (w : World) (hL : Laid w) :
    Calls Tryz.prog 5 #[.int .u64 (b : Int), .int .i64 n] w fun x w' => x = .returned (.bool true) ∧ Below w.heap.size w w' := by
  have FA := Lib.hid (fun W hW => frombits_arg b n n1 n2 n3 W hW)
  have SZ := fun W => size_any n W
  rw [decide_eq_false (by omega)] at SZ
  have SZ := Lib.hid SZ
  have AW := Lib.hid (fun W hW => awake_any W hW)
  have HL := Lib.hid hL
  clear hL n1 n2 n3
  go_enter Tryz.func5, Tryz.ntmps5
  go_wp2_with fail
  refine (FA.out _ HL.out).mono ?_
  rintro x w1 ⟨rfl, hb1⟩
  go_wp2_with fail
  refine (SZ.out _).mono ?_
  rintro x w2 ⟨rfl, rfl⟩
  go_wp2_with fail
  refine (AW.out _ (HL.out.on hb1)).mono ?_
  rintro x w3 ⟨rfl, hb3⟩
  go_wp2_with fail
  go_ret
  exact ⟨rfl, b_trans hb1 hb3⟩
set_option maxHeartbeats 1000000 in
set_option maxRecDepth 100000 in
theorem law5_range (b : Nat) (n P : Nat) (hn : n = 16 ∧ P = 65536 ∨ n = 32 ∧ P = 4294967296) (hP : P ≤ b) (hb : b < 18446744073709551616)
    (FA : ∀ W, Laid W → Calls Tryz.prog 25 #[.int .u64 (b : Int), .int .i64 (n : Int)] W fun x w' => x = .returned (.tuple #[.string ⟨#[]⟩, .int .i64 2]) ∧ Below W.heap.size W w') (w : World) (hL : Laid w) :
    Calls Tryz.prog 5 #[.int .u64 (b : Int), .int .i64 (n : Int)] w fun x w' => x = .returned (.bool true) ∧ Below w.heap.size w w' := by
  have SZ := fun W => size_any n W
  rw [decide_eq_true (by omega)] at SZ
  have AW := Lib.hid (fun W hW => awake_any W hW)
  have HL := Lib.hid hL
  rcases hn with ⟨rfl, rfl⟩ | ⟨rfl, rfl⟩
  · obtain ⟨q, hq⟩ : ∃ q, b / 65536 = q := ⟨_, rfl⟩
    have g1 : (b : Int) / 65536 = (q : Int) := by omega
    have g2 : decide ((0 : Int) < (q : Int)) = true := decide_eq_true (by omega)
    have g3 : decide (0 < q) = true := decide_eq_true (by omega)
    have SZ := Lib.hid SZ
    have FA := Lib.hid FA
    clear hL hq hP hb
    go_enter Tryz.func5, Tryz.ntmps5
    go_wp2_with fail
    refine (FA.out _ HL.out).mono ?_
    rintro x w1 ⟨rfl, hb1⟩
    go_wp2_with fail
    refine (SZ.out _).mono ?_
    rintro x w2 ⟨rfl, rfl⟩
    go_wp2_with fail
    refine (AW.out _ (HL.out.on hb1)).mono ?_
    rintro x w3 ⟨rfl, hb3⟩
    go_wp2_with fail
    go_ret
    exact ⟨rfl, b_trans hb1 hb3⟩
  · obtain ⟨q, hq⟩ : ∃ q, b / 4294967296 = q := ⟨_, rfl⟩
    have g1 : (b : Int) / 4294967296 = (q : Int) := by omega
    have g2 : decide ((0 : Int) < (q : Int)) = true := decide_eq_true (by omega)
    have g3 : decide (0 < q) = true := decide_eq_true (by omega)
    have SZ := Lib.hid SZ
    have FA := Lib.hid FA
    clear hL hq hP hb
    go_enter Tryz.func5, Tryz.ntmps5
    go_wp2_with fail
    refine (FA.out _ HL.out).mono ?_
    rintro x w1 ⟨rfl, hb1⟩
    go_wp2_with fail
    refine (SZ.out _).mono ?_
    rintro x w2 ⟨rfl, rfl⟩
    go_wp2_with fail
    refine (AW.out _ (HL.out.on hb1)).mono ?_
    rintro x w3 ⟨rfl, hb3⟩
    go_wp2_with fail
    go_ret
    exact ⟨rfl, b_trans hb1 hb3⟩
theorem reffrom64 (b : Nat) (hb : b < 18446744073709551616) (w : World) :
    Calls Tryz.prog 13 #[.int .u64 (b : Int), .int .i64 64] w fun x w' => x = .returned (Fl.refF (Fl.wideW Ieee.double b)) ∧ Below w.heap.size w w' := by
  have h := fromBits64 b hb w
  have e : Fl.refF b = Fl.refF (Fl.wideW Ieee.double b) := by
    by_cases hn : b % 9223372036854775808 ≤ 9218868437227405312
    · rw [wideW_double hb hn]
    · obtain ⟨v1, _, _⟩ := Fl.wideW_mod (f := Ieee.double) (.inr (.inr rfl)) b
      rw [Fl.double_is.2.2.2.2, Fl.wide_nan (by rw [Fl.double_is.1]; omega)] at v1
      unfold Fl.refF
      rw [if_pos (by omega), v1, if_pos (by decide)]
  rw [e] at h
  exact h
set_option maxHeartbeats 1000000 in
set_option maxRecDepth 100000 in
theorem law5_in16 (b : Nat) (hb : b < 65536) (w : World) (hL : Laid w) : Calls Tryz.prog 5 #[.int .u64 (b : Int), .int .i64 16] w fun x w' => x = .returned (.bool true) ∧ Below w.heap.size w w' := by
  have FA := fun W hW => frombits16 b hb W hW
  have RF := fun W => reffrom16 b hb W
  have hfm : Fl.Fmt Fl.half := by unfold Fl.Fmt; simp
  have hsg : Ieee.Format.signWeight Fl.half = 32768 := Fl.half_is.2.2.2.2
  have hv := (Fl.wideW_mod hfm b).2.2
  have hcase : (Fl.bitsR Fl.half (Fl.wideW Fl.half b)).2 = true ∧ ((Fl.bitsR Fl.half (Fl.wideW Fl.half b)).1 = b ∨ 9218868437227405312 < Fl.wideW Fl.half b % 9223372036854775808) := by
    by_cases h : b % Ieee.Format.signWeight Fl.half ≤ Ieee.Format.infRung Fl.half
    · rw [Fl.reads_num hfm (by rw [hsg]; omega) h]
      exact ⟨rfl, .inl rfl⟩
    · obtain ⟨h1, h2⟩ := Fl.reads_nan hfm (b := b) (by omega)
      exact ⟨h1, .inr h2⟩
  obtain ⟨W0, hW0⟩ : ∃ W0, Fl.wideW Fl.half b = W0 := ⟨_, rfl⟩
  rw [hW0] at FA RF hv hcase
  have BB := fun W hW => binbits_any16 W0 hv W hW
  have TX := fun W => reftext_any W0 W
  obtain ⟨R, hR⟩ : ∃ R, (Fl.bitsR Fl.half W0).1 = R := ⟨_, rfl⟩
  rw [hR] at BB hcase
  rw [hcase.1] at BB
  have SZ := fun W => size_any 16 W
  rw [decide_eq_true (by omega)] at SZ
  have AW := Lib.hid (fun W hW => awake_any W hW)
  obtain ⟨k, g, m, e, h1, hk⟩ := ref_form W0
  rw [h1] at RF TX
  obtain ⟨SB, hSB⟩ : ∃ S : ByteArray, (⟨(Fl.txt W0).toArray⟩ : ByteArray) = S := ⟨_, rfl⟩
  rw [hSB] at FA BB TX
  have FA := Lib.hid FA
  have RF := Lib.hid RF
  have BB := Lib.hid BB
  have TX := Lib.hid TX
  have SZ := Lib.hid SZ
  have HL := Lib.hid hL
  have HK := Lib.hid (And.intro hcase.2 hk)
  have g1 : (b : Int) / 65536 = 0 := by omega
  clear hb hL hfm hsg hv hcase hW0 hR h1 hk hSB
  go_enter Tryz.func5, Tryz.ntmps5
  go_wp2_with fail
  refine (FA.out _ HL.out).mono ?_
  rintro x w1 ⟨rfl, hb1⟩
  go_wp2_with fail
  refine (SZ.out _).mono ?_
  rintro x w2 ⟨rfl, rfl⟩
  go_wp2_with fail
  refine (RF.out _).mono ?_
  rintro x w3 ⟨rfl, hb3⟩
  have hb3 := b_trans hb1 hb3
  go_upto_region 7 with fail
  obtain ⟨w4, X, hw4, hX, hb4, hcells⟩ := one_float k g m e w3
  rw [hw4, hX]
  have hb4 := b_trans hb3 hb4
  have HC := Lib.hid hcells
  have HL4 := Lib.hid (HL.out.on hb4)
  have HB4 := Lib.hid hb4
  clear hcells hw4 hX hb1 hb3 hb4
  go_wp2_with fail
  refine (BB.out _ HL4.out).mono ?_
  rintro x w5 ⟨rfl, hb5⟩
  obtain ⟨x0, x1, x2, x3, _⟩ := HC.out w5 hb5
  go_wp2_with fail
  refine (TX.out _).mono ?_
  rintro x w6 ⟨rfl, hb6⟩
  have hb6 := b_trans hb5 hb6
  clear x0 x1 x2 x3 hb5
  obtain ⟨x0, x1, x2, x3, _⟩ := HC.out w6 hb6
  have HL6 := Lib.hid (HL4.out.on hb6)
  have hbz := b_trans HB4.out hb6
  clear hb6
  by_cases hRb : R = b
  · subst hRb
    go_wp2_with fail
    refine (AW.out _ HL6.out).mono ?_
    rintro x w7 ⟨rfl, hb7⟩
    go_wp2_with fail
    go_ret
    exact ⟨rfl, b_trans hbz hb7⟩
  · have c1 : ((R : Int) == (b : Int)) = false := by rw [beq_eq_false_iff_ne]; omega
    have hk : (k == 2) = true := by
      rw [HK.out.2]
      rcases HK.out.1 with h | h
      · exact absurd h hRb
      · exact decide_eq_true h
    clear hRb
    go_wp2_with fail
    refine (AW.out _ HL6.out).mono ?_
    rintro x w7 ⟨rfl, hb7⟩
    go_wp2_with fail
    go_ret
    exact ⟨rfl, b_trans hbz hb7⟩
set_option maxHeartbeats 1000000 in
set_option maxRecDepth 100000 in
theorem law5_in32 (b : Nat) (hb : b < 4294967296) (w : World) (hL : Laid w) : Calls Tryz.prog 5 #[.int .u64 (b : Int), .int .i64 32] w fun x w' => x = .returned (.bool true) ∧ Below w.heap.size w w' := by
  have FA := fun W hW => frombits32 b hb W hW
  have RF := fun W => reffrom32 b hb W
  have hfm : Fl.Fmt Ieee.single := by unfold Fl.Fmt; simp
  have hsg : Ieee.Format.signWeight Ieee.single = 2147483648 := Fl.single_is.2.2.2.2
  have hv := (Fl.wideW_mod hfm b).2.2
  have hcase : (Fl.bitsR Ieee.single (Fl.wideW Ieee.single b)).2 = true ∧ ((Fl.bitsR Ieee.single (Fl.wideW Ieee.single b)).1 = b ∨ 9218868437227405312 < Fl.wideW Ieee.single b % 9223372036854775808) := by
    by_cases h : b % Ieee.Format.signWeight Ieee.single ≤ Ieee.Format.infRung Ieee.single
    · rw [Fl.reads_num hfm (by rw [hsg]; omega) h]
      exact ⟨rfl, .inl rfl⟩
    · obtain ⟨h1, h2⟩ := Fl.reads_nan hfm (b := b) (by omega)
      exact ⟨h1, .inr h2⟩
  obtain ⟨W0, hW0⟩ : ∃ W0, Fl.wideW Ieee.single b = W0 := ⟨_, rfl⟩
  rw [hW0] at FA RF hv hcase
  have BB := fun W hW => binbits_any32 W0 hv W hW
  have TX := fun W => reftext_any W0 W
  obtain ⟨R, hR⟩ : ∃ R, (Fl.bitsR Ieee.single W0).1 = R := ⟨_, rfl⟩
  rw [hR] at BB hcase
  rw [hcase.1] at BB
  have SZ := fun W => size_any 32 W
  rw [decide_eq_true (by omega)] at SZ
  have AW := Lib.hid (fun W hW => awake_any W hW)
  obtain ⟨k, g, m, e, h1, hk⟩ := ref_form W0
  rw [h1] at RF TX
  obtain ⟨SB, hSB⟩ : ∃ S : ByteArray, (⟨(Fl.txt W0).toArray⟩ : ByteArray) = S := ⟨_, rfl⟩
  rw [hSB] at FA BB TX
  have FA := Lib.hid FA
  have RF := Lib.hid RF
  have BB := Lib.hid BB
  have TX := Lib.hid TX
  have SZ := Lib.hid SZ
  have HL := Lib.hid hL
  have HK := Lib.hid (And.intro hcase.2 hk)
  have g1 : (b : Int) / 4294967296 = 0 := by omega
  clear hb hL hfm hsg hv hcase hW0 hR h1 hk hSB
  go_enter Tryz.func5, Tryz.ntmps5
  go_wp2_with fail
  refine (FA.out _ HL.out).mono ?_
  rintro x w1 ⟨rfl, hb1⟩
  go_wp2_with fail
  refine (SZ.out _).mono ?_
  rintro x w2 ⟨rfl, rfl⟩
  go_wp2_with fail
  refine (RF.out _).mono ?_
  rintro x w3 ⟨rfl, hb3⟩
  have hb3 := b_trans hb1 hb3
  go_upto_region 7 with fail
  obtain ⟨w4, X, hw4, hX, hb4, hcells⟩ := one_float k g m e w3
  rw [hw4, hX]
  have hb4 := b_trans hb3 hb4
  have HC := Lib.hid hcells
  have HL4 := Lib.hid (HL.out.on hb4)
  have HB4 := Lib.hid hb4
  clear hcells hw4 hX hb1 hb3 hb4
  go_wp2_with fail
  refine (BB.out _ HL4.out).mono ?_
  rintro x w5 ⟨rfl, hb5⟩
  obtain ⟨x0, x1, x2, x3, _⟩ := HC.out w5 hb5
  go_wp2_with fail
  refine (TX.out _).mono ?_
  rintro x w6 ⟨rfl, hb6⟩
  have hb6 := b_trans hb5 hb6
  clear x0 x1 x2 x3 hb5
  obtain ⟨x0, x1, x2, x3, _⟩ := HC.out w6 hb6
  have HL6 := Lib.hid (HL4.out.on hb6)
  have hbz := b_trans HB4.out hb6
  clear hb6
  by_cases hRb : R = b
  · subst hRb
    go_wp2_with fail
    refine (AW.out _ HL6.out).mono ?_
    rintro x w7 ⟨rfl, hb7⟩
    go_wp2_with fail
    go_ret
    exact ⟨rfl, b_trans hbz hb7⟩
  · have c1 : ((R : Int) == (b : Int)) = false := by rw [beq_eq_false_iff_ne]; omega
    have hk : (k == 2) = true := by
      rw [HK.out.2]
      rcases HK.out.1 with h | h
      · exact absurd h hRb
      · exact decide_eq_true h
    clear hRb
    go_wp2_with fail
    refine (AW.out _ HL6.out).mono ?_
    rintro x w7 ⟨rfl, hb7⟩
    go_wp2_with fail
    go_ret
    exact ⟨rfl, b_trans hbz hb7⟩
set_option maxHeartbeats 1000000 in
set_option maxRecDepth 100000 in
theorem law5_in64 (b : Nat) (hb : b < 18446744073709551616) (w : World) (hL : Laid w) : Calls Tryz.prog 5 #[.int .u64 (b : Int), .int .i64 64] w fun x w' => x = .returned (.bool true) ∧ Below w.heap.size w w' := by
  have FA := fun W hW => frombits64 b hb W hW
  have RF := fun W => reffrom64 b hb W
  have hfm : Fl.Fmt Ieee.double := by unfold Fl.Fmt; simp
  have hsg : Ieee.Format.signWeight Ieee.double = 9223372036854775808 := Fl.double_is.2.2.2.2
  have hv := (Fl.wideW_mod hfm b).2.2
  have hcase : (Fl.bitsR Ieee.double (Fl.wideW Ieee.double b)).2 = true ∧ ((Fl.bitsR Ieee.double (Fl.wideW Ieee.double b)).1 = b ∨ 9218868437227405312 < Fl.wideW Ieee.double b % 9223372036854775808) := by
    by_cases h : b % Ieee.Format.signWeight Ieee.double ≤ Ieee.Format.infRung Ieee.double
    · rw [Fl.reads_num hfm (by rw [hsg]; omega) h]
      exact ⟨rfl, .inl rfl⟩
    · obtain ⟨h1, h2⟩ := Fl.reads_nan hfm (b := b) (by omega)
      exact ⟨h1, .inr h2⟩
  obtain ⟨W0, hW0⟩ : ∃ W0, Fl.wideW Ieee.double b = W0 := ⟨_, rfl⟩
  rw [hW0] at FA RF hv hcase
  have BB := fun W hW => binbits_any64 W0 hv W hW
  have TX := fun W => reftext_any W0 W
  obtain ⟨R, hR⟩ : ∃ R, (Fl.bitsR Ieee.double W0).1 = R := ⟨_, rfl⟩
  rw [hR] at BB hcase
  rw [hcase.1] at BB
  have SZ := fun W => size_any 64 W
  rw [decide_eq_true (by omega)] at SZ
  have AW := Lib.hid (fun W hW => awake_any W hW)
  obtain ⟨k, g, m, e, h1, hk⟩ := ref_form W0
  rw [h1] at RF TX
  obtain ⟨SB, hSB⟩ : ∃ S : ByteArray, (⟨(Fl.txt W0).toArray⟩ : ByteArray) = S := ⟨_, rfl⟩
  rw [hSB] at FA BB TX
  have FA := Lib.hid FA
  have RF := Lib.hid RF
  have BB := Lib.hid BB
  have TX := Lib.hid TX
  have SZ := Lib.hid SZ
  have HL := Lib.hid hL
  have HK := Lib.hid (And.intro hcase.2 hk)
  clear hb hL hfm hsg hv hcase hW0 hR h1 hk hSB
  go_enter Tryz.func5, Tryz.ntmps5
  go_wp2_with fail
  refine (FA.out _ HL.out).mono ?_
  rintro x w1 ⟨rfl, hb1⟩
  go_wp2_with fail
  refine (SZ.out _).mono ?_
  rintro x w2 ⟨rfl, rfl⟩
  go_wp2_with fail
  refine (RF.out _).mono ?_
  rintro x w3 ⟨rfl, hb3⟩
  have hb3 := b_trans hb1 hb3
  go_upto_region 7 with fail
  obtain ⟨w4, X, hw4, hX, hb4, hcells⟩ := one_float k g m e w3
  rw [hw4, hX]
  have hb4 := b_trans hb3 hb4
  have HC := Lib.hid hcells
  have HL4 := Lib.hid (HL.out.on hb4)
  have HB4 := Lib.hid hb4
  clear hcells hw4 hX hb1 hb3 hb4
  go_wp2_with fail
  refine (BB.out _ HL4.out).mono ?_
  rintro x w5 ⟨rfl, hb5⟩
  obtain ⟨x0, x1, x2, x3, _⟩ := HC.out w5 hb5
  go_wp2_with fail
  refine (TX.out _).mono ?_
  rintro x w6 ⟨rfl, hb6⟩
  have hb6 := b_trans hb5 hb6
  clear x0 x1 x2 x3 hb5
  obtain ⟨x0, x1, x2, x3, _⟩ := HC.out w6 hb6
  have HL6 := Lib.hid (HL4.out.on hb6)
  have hbz := b_trans HB4.out hb6
  clear hb6
  by_cases hRb : R = b
  · subst hRb
    go_wp2_with fail
    refine (AW.out _ HL6.out).mono ?_
    rintro x w7 ⟨rfl, hb7⟩
    go_wp2_with fail
    go_ret
    exact ⟨rfl, b_trans hbz hb7⟩
  · have c1 : ((R : Int) == (b : Int)) = false := by rw [beq_eq_false_iff_ne]; omega
    have hk : (k == 2) = true := by
      rw [HK.out.2]
      rcases HK.out.1 with h | h
      · exact absurd h hRb
      · exact decide_eq_true h
    clear hRb
    go_wp2_with fail
    refine (AW.out _ HL6.out).mono ?_
    rintro x w7 ⟨rfl, hb7⟩
    go_wp2_with fail
    go_ret
    exact ⟨rfl, b_trans hbz hb7⟩
theorem law5 (b : Nat) (n : Int) (hb : b < 18446744073709551616) (_ : -9223372036854775808 ≤ n ∧ n ≤ 9223372036854775807) (w : World) (hL : Laid w) :
    Calls Tryz.prog 5 #[.int .u64 (b : Int), .int .i64 n] w fun x w' => x = .returned (.bool true) ∧ Below w.heap.size w w' := by
  by_cases h1 : n = 16
  · subst h1
    by_cases h : b < 65536
    · exact law5_in16 b h w hL
    · exact law5_range b 16 65536 (.inl ⟨rfl, rfl⟩) (by omega) hb (fun W hW => frombits_range16 b (by omega) hb W hW) w hL
  · by_cases h2 : n = 32
    · subst h2
      by_cases h : b < 4294967296
      · exact law5_in32 b h w hL
      · exact law5_range b 32 4294967296 (.inr ⟨rfl, rfl⟩) (by omega) hb (fun W hW => frombits_range32 b (by omega) hb W hW) w hL
    · by_cases h3 : n = 64
      · subst h3
        exact law5_in64 b hb w hL
      · exact law5_arg b n h1 h2 h3 w hL
end Go.Proofs.YtjapgpmoojfhnaaGreatDoor
