/- The reference: FromBits at 64 bits. The reference's text of a word's float is the canonical text; Bitlen. The reference: Bits at 64 bits, of a float that is not negative. The reference: place. The reference: Cmp. Valid at the two texts of the example. -/
import Derived.Test.YtjapgpmoojfhnaaGreatDoorB06
namespace Go.Proofs.YtjapgpmoojfhnaaGreatDoor
open Go.RowKit Go.Lib

set_option maxRecDepth 100000 in
theorem format64 (w : World) : Calls Tryz.prog 44 #[.int .i64 64] w fun x w' => x = .returned (.tuple #[.int .i64 53, .int .i64 (-1074), .int .i64 1024]) ∧ w' = w := by
  go_enter Tryz.func44, Tryz.ntmps44
  go_wp2_with fail
  refine bodyPost_ret (v := .tuple #[.int .i64 53, .int .i64 (-1074), .int .i64 1024]) (by simp [results, Tryz.results44, go_sem]) rfl ?_
  exact ⟨rfl, rfl⟩
namespace Fl
/-- The float of a word, as the reference tells it. -/
def refF (b : Nat) : Value :=
  if 9218868437227405312 < b % 9223372036854775808 then .agg #[.int .i64 2, .bool false, .int .u64 0, .int .i64 0] else
  if b % 9223372036854775808 = 9218868437227405312 then .agg #[.int .i64 1, .bool (decide (9223372036854775808 ≤ b)), .int .u64 0, .int .i64 0] else
  if b % 9223372036854775808 = 0 then .agg #[.int .i64 0, .bool (decide (9223372036854775808 ≤ b)), .int .u64 0, .int .i64 0] else
  .agg #[.int .i64 0, .bool (decide (9223372036854775808 ≤ b)), .int .u64 (om (b % 9223372036854775808) : Int), .int .i64 (oe (b % 9223372036854775808))]
end Fl
set_option maxHeartbeats 2000000 in
set_option maxRecDepth 100000 in
theorem fromBits64 (b : Nat) (hb : b < 18446744073709551616) (w : World) :
    Calls Tryz.prog 13 #[.int .u64 (b : Int), .int .i64 64] w fun x w' => x = .returned (Fl.refF b) ∧ Below w.heap.size w w' := by
  have FO := Lib.hid (fun W => format64 W)
  obtain ⟨F, hF⟩ : ∃ F, b % 4503599627370496 = F := ⟨_, rfl⟩
  obtain ⟨S, hS⟩ : ∃ S, b / 9223372036854775808 = S := ⟨_, rfl⟩
  obtain ⟨Q, hQ⟩ : ∃ Q, b / 4503599627370496 = Q := ⟨_, rfl⟩
  obtain ⟨E, hE⟩ : ∃ E, Q % 2048 = E := ⟨_, rfl⟩
  obtain ⟨r, hr⟩ : ∃ r, b % 9223372036854775808 = r := ⟨_, rfl⟩
  obtain ⟨sb, hsb⟩ : ∃ sb, decide (9223372036854775808 ≤ b) = sb := ⟨_, rfl⟩
  have g1 : (b : Int) % 4503599627370496 = (F : Int) := by omega
  have g2 : (b : Int) / 9223372036854775808 = (S : Int) := by omega
  have g3 : (b : Int) / 4503599627370496 = (Q : Int) := by omega
  have g4 : ((S : Int) % 2 == 1) = sb := by
    rw [← hsb]
    by_cases h : 9223372036854775808 ≤ b
    · rw [decide_eq_true h, beq_iff_eq]; omega
    · rw [decide_eq_false h, beq_eq_false_iff_ne]; omega
  have g5 : bits .and .u64 (Q : Int) 2047 = (E : Int) := by
    have h1 := u64_and_nat Q 2047 (by omega) (by decide)
    have e : Q &&& 2047 = Q % 2048 := Nat.and_two_pow_sub_one_eq_mod Q 11
    rw [e, hE] at h1
    exact h1
  have hrE : r = E * 4503599627370496 + F := by omega
  have hFb : F < 4503599627370496 := by omega
  have hEb : E < 2048 := by omega
  obtain ⟨V, hV⟩ : ∃ V, Fl.refF b = V := ⟨_, rfl⟩
  rw [hV]
  unfold Fl.refF at hV
  rw [hr, hsb] at hV
  obtain ⟨w2, hw2⟩ : ∃ w2 : World, w.alloc (.cells #[.int .i64 0, .bool false, .int .u64 0, .int .i64 0] 24) = w2 := ⟨_, rfl⟩
  obtain ⟨X, hX⟩ : ∃ X, w.heap.size = X := ⟨_, rfl⟩
  have hXc := heap_alloc_new w (.cells #[.int .i64 0, .bool false, .int .u64 0, .int .i64 0] 24)
  have hb2 : Below X w w2 := by rw [← hw2, ← hX]; exact (Below.refl _ _).alloc (Nat.le_refl _) _
  rw [hw2, hX] at hXc
  have HW2 := Lib.hid hw2
  have HX := Lib.hid hX
  clear hw2 hX hF hS hQ hE hr hsb hb
  by_cases h1 : E = 2047
  · subst h1
    by_cases h2 : F = 0
    · subst h2
      rw [if_neg (by omega), if_pos (by omega)] at hV
      have HV := Lib.hid hV.symm
      have z0 := at_block hXc 0 _ rfl
      have z1 := at_block hXc 1 _ rfl
      have z2 := at_block hXc 2 _ rfl
      have z3 := at_block hXc 3 _ rfl
      have f0 := free_block hXc 0
      have f1 := free_block hXc 1
      have f2 := free_block hXc 2
      have f3 := free_block hXc 3
      clear hXc hV hrE hFb hEb
      go_enter Tryz.func13, Tryz.ntmps13
      go_wp2_with fail
      rw [HW2.out, HX.out]
      refine (FO.out _).mono ?_
      rintro x w1 ⟨rfl, rfl⟩
      go_wp2_with fail
      refine bodyPost_ret (v := .agg #[.int .i64 1, .bool sb, .int .u64 0, .int .i64 0]) (by simp [results, Tryz.results13, go_sem, z0, z1, z2, z3]) rfl ?_
      refine ⟨by rw [HV.out], ?_⟩
      rw [HX.out]
      exact (((hb2.setCell (p := ⟨X, 0, none⟩) (Nat.le_refl _) _).setCell (p := ⟨X, 1, none⟩) (Nat.le_refl _) _).setCell (p := ⟨X, 2, none⟩) (Nat.le_refl _) _).setCell (p := ⟨X, 3, none⟩) (Nat.le_refl _) _
    · rw [if_pos (by omega)] at hV
      have HV := Lib.hid hV.symm
      have k1 : ((F : Int) != 0) = true := by rw [bne_iff_ne]; omega
      have k2 : ((F : Int) == 0) = false := by rw [beq_eq_false_iff_ne]; omega
      have z0 := at_block hXc 0 _ rfl
      have z1 := at_block hXc 1 _ rfl
      have z2 := at_block hXc 2 _ rfl
      have z3 := at_block hXc 3 _ rfl
      have f0 := free_block hXc 0
      have f1 := free_block hXc 1
      have f2 := free_block hXc 2
      have f3 := free_block hXc 3
      clear hXc hV hrE hFb hEb h2
      go_enter Tryz.func13, Tryz.ntmps13
      go_wp2_with fail
      rw [HW2.out, HX.out]
      refine (FO.out _).mono ?_
      rintro x w1 ⟨rfl, rfl⟩
      go_wp2_with fail
      refine bodyPost_ret (v := .agg #[.int .i64 2, .bool false, .int .u64 0, .int .i64 0]) (by simp [results, Tryz.results13, go_sem, z0, z1, z2, z3]) rfl ?_
      refine ⟨by rw [HV.out], ?_⟩
      rw [HX.out]
      exact (((hb2.setCell (p := ⟨X, 0, none⟩) (Nat.le_refl _) _).setCell (p := ⟨X, 1, none⟩) (Nat.le_refl _) _).setCell (p := ⟨X, 2, none⟩) (Nat.le_refl _) _).setCell (p := ⟨X, 3, none⟩) (Nat.le_refl _) _
  · have k1 : ((E : Int) == 2047) = false := by rw [beq_eq_false_iff_ne]; omega
    rw [if_neg (by omega), if_neg (by omega)] at hV
    have ODD : ∀ M p, 0 < r → Fl.rmag Ieee.double r = M → Fl.rplace Ieee.double r = p → ∀ W, Calls Tryz.prog 45 #[.bool sb, .int .u64 (M : Int), .int .i64 p] W fun x w' => x = .returned (.agg #[.int .i64 0, .bool sb, .int .u64 (Fl.om r : Int), .int .i64 (Fl.oe r)]) ∧ Below W.heap.size W w' := by
      intro M p h0 hM hp W
      obtain ⟨a1, a2, a3, a4⟩ := Fl.om_spec h0
      have hM2 : Fl.rmag Ieee.double r < 9007199254740992 := Fl.rmag_lt Ieee.double r
      have hz : tzN (Fl.rmag Ieee.double r) < 64 := by obtain ⟨_, _, h⟩ := tz_spec (m := Fl.rmag Ieee.double r) (Fl.rmag_pos h0) (by omega); exact h
      have hpb : -10000 ≤ p ∧ p ≤ 10000 := by
        rw [← hp]
        unfold Fl.rplace
        rw [Fl.d_binade, Fl.d_least]
        split <;> omega
      have h := odd_pos sb (Fl.om r) (tzN (Fl.rmag Ieee.double r)) p W a2 hz (by rw [← a1]; exact hM2) hpb
      rw [← a1, hM, show p + ((tzN M : Nat) : Int) = Fl.oe r by unfold Fl.oe; rw [hM, hp]] at h
      exact h
    by_cases h2 : E = 0
    · subst h2
      by_cases h3 : F = 0
      · subst h3
        rw [if_pos (by omega)] at hV
        obtain ⟨cc, hcc⟩ : ∃ cc : Nat, cc = 0 := ⟨_, rfl⟩
        obtain ⟨ee, hee⟩ : ∃ ee : Int, ee = 0 := ⟨_, rfl⟩
        have HV := Lib.hid (show V = .agg #[.int .i64 0, .bool sb, .int .u64 (cc : Int), .int .i64 ee] by rw [← hV, hcc, hee]; rfl)
        have OD : ∀ W, Calls Tryz.prog 45 #[.bool sb, .int .u64 0, .int .i64 (-1074)] W fun x w' => x = .returned (.agg #[.int .i64 0, .bool sb, .int .u64 (cc : Int), .int .i64 ee]) ∧ Below W.heap.size W w' := fun W => by
          rw [hcc, hee]
          exact odd_zero sb (-1074) W
        have HQ := Lib.hid hXc
        have OD := Lib.hid OD
        clear hXc hV hrE hFb hEb hcc hee h1 ODD
        go_enter Tryz.func13, Tryz.ntmps13
        go_wp2_with fail
        rw [HW2.out, HX.out]
        refine (FO.out _).mono ?_
        rintro x w1 ⟨rfl, rfl⟩
        go_wp2_with fail
        refine (OD.out _).mono ?_
        rintro x w3 ⟨rfl, hb3⟩
        have q3 := (hb3.block X (lt_of_block HQ.out)).trans HQ.out
        have hbz := hb2.trans (hb3.mono (by have := lt_of_block HQ.out; omega))
        have z0 := at_block q3 0 _ rfl
        have z1 := at_block q3 1 _ rfl
        have z2 := at_block q3 2 _ rfl
        have z3 := at_block q3 3 _ rfl
        have f0 := free_block q3 0
        have f1 := free_block q3 1
        have f2 := free_block q3 2
        have f3 := free_block q3 3
        clear q3
        go_wp2_with fail
        refine bodyPost_ret (v := .agg #[.int .i64 0, .bool sb, .int .u64 (cc : Int), .int .i64 ee]) (by simp [results, Tryz.results13, go_sem, z0, z1, z2, z3]) rfl ?_
        refine ⟨by rw [HV.out], ?_⟩
        rw [HX.out]
        exact (((hbz.setCell (p := ⟨X, 0, none⟩) (Nat.le_refl _) _).setCell (p := ⟨X, 1, none⟩) (Nat.le_refl _) _).setCell (p := ⟨X, 2, none⟩) (Nat.le_refl _) _).setCell (p := ⟨X, 3, none⟩) (Nat.le_refl _) _
      · rw [if_neg (by omega)] at hV
        have hr0 : 0 < r := by omega
        have eM : Fl.rmag Ieee.double r = F := by unfold Fl.rmag; rw [Fl.d_binade, if_pos (by omega)]; omega
        have eP : Fl.rplace Ieee.double r = -1074 := by unfold Fl.rplace; rw [Fl.d_binade, if_pos (by omega), Fl.d_least]
        have OD := ODD F (-1074) hr0 eM eP
        obtain ⟨cc, hcc⟩ : ∃ cc : Nat, Fl.om r = cc := ⟨_, rfl⟩
        obtain ⟨ee, hee⟩ : ∃ ee : Int, Fl.oe r = ee := ⟨_, rfl⟩
        rw [hcc, hee] at OD hV
        have HV := Lib.hid hV.symm
        have HQ := Lib.hid hXc
        have OD := Lib.hid OD
        clear hXc hV hrE hFb hEb hcc hee h1 h3 ODD hr0 eM eP
        go_enter Tryz.func13, Tryz.ntmps13
        go_wp2_with fail
        rw [HW2.out, HX.out]
        refine (FO.out _).mono ?_
        rintro x w1 ⟨rfl, rfl⟩
        go_wp2_with fail
        refine (OD.out _).mono ?_
        rintro x w3 ⟨rfl, hb3⟩
        have q3 := (hb3.block X (lt_of_block HQ.out)).trans HQ.out
        have hbz := hb2.trans (hb3.mono (by have := lt_of_block HQ.out; omega))
        have z0 := at_block q3 0 _ rfl
        have z1 := at_block q3 1 _ rfl
        have z2 := at_block q3 2 _ rfl
        have z3 := at_block q3 3 _ rfl
        have f0 := free_block q3 0
        have f1 := free_block q3 1
        have f2 := free_block q3 2
        have f3 := free_block q3 3
        clear q3
        go_wp2_with fail
        refine bodyPost_ret (v := .agg #[.int .i64 0, .bool sb, .int .u64 (cc : Int), .int .i64 ee]) (by simp [results, Tryz.results13, go_sem, z0, z1, z2, z3]) rfl ?_
        refine ⟨by rw [HV.out], ?_⟩
        rw [HX.out]
        exact (((hbz.setCell (p := ⟨X, 0, none⟩) (Nat.le_refl _) _).setCell (p := ⟨X, 1, none⟩) (Nat.le_refl _) _).setCell (p := ⟨X, 2, none⟩) (Nat.le_refl _) _).setCell (p := ⟨X, 3, none⟩) (Nat.le_refl _) _
    · rw [if_neg (by omega)] at hV
      have hr0 : 0 < r := by omega
      have k2 : ((E : Int) == 0) = false := by rw [beq_eq_false_iff_ne]; omega
      obtain ⟨M, hM⟩ : ∃ M, F + 4503599627370496 = M := ⟨_, rfl⟩
      obtain ⟨P, hP⟩ : ∃ P : Int, -1074 + (E : Int) - 1 = P := ⟨_, rfl⟩
      have eM : Fl.rmag Ieee.double r = M := by unfold Fl.rmag; rw [Fl.d_binade, if_neg (by omega)]; omega
      have eP : Fl.rplace Ieee.double r = P := by unfold Fl.rplace; rw [Fl.d_binade, if_neg (by omega), Fl.d_least]; omega
      have m1 : IntKind.u64.wrap ((F : Int) + 4503599627370496) = (M : Int) := by rw [IntKind.wrap_u64]; omega
      have m2 : IntKind.i64.wrap (E : Int) = (E : Int) := IntWalk.i64_in _ (by omega)
      have m3 : IntKind.i64.wrap (-1074 + (E : Int)) = -1074 + (E : Int) := IntWalk.i64_in _ (by omega)
      have m4 : IntKind.i64.wrap (-1074 + (E : Int) - 1) = P := by rw [← hP]; exact IntWalk.i64_in _ (by omega)
      have OD := ODD M P hr0 eM eP
      obtain ⟨cc, hcc⟩ : ∃ cc : Nat, Fl.om r = cc := ⟨_, rfl⟩
      obtain ⟨ee, hee⟩ : ∃ ee : Int, Fl.oe r = ee := ⟨_, rfl⟩
      rw [hcc, hee] at OD hV
      have HV := Lib.hid hV.symm
      have HQ := Lib.hid hXc
      have OD := Lib.hid OD
      clear hXc hV hrE hFb hEb hcc hee h1 h2 ODD hr0 eM eP hM hP
      go_enter Tryz.func13, Tryz.ntmps13
      go_wp2_with fail
      rw [HW2.out, HX.out]
      refine (FO.out _).mono ?_
      rintro x w1 ⟨rfl, rfl⟩
      go_wp2_with fail
      refine (OD.out _).mono ?_
      rintro x w3 ⟨rfl, hb3⟩
      have q3 := (hb3.block X (lt_of_block HQ.out)).trans HQ.out
      have hbz := hb2.trans (hb3.mono (by have := lt_of_block HQ.out; omega))
      have z0 := at_block q3 0 _ rfl
      have z1 := at_block q3 1 _ rfl
      have z2 := at_block q3 2 _ rfl
      have z3 := at_block q3 3 _ rfl
      have f0 := free_block q3 0
      have f1 := free_block q3 1
      have f2 := free_block q3 2
      have f3 := free_block q3 3
      clear q3
      go_wp2_with fail
      refine bodyPost_ret (v := .agg #[.int .i64 0, .bool sb, .int .u64 (cc : Int), .int .i64 ee]) (by simp [results, Tryz.results13, go_sem, z0, z1, z2, z3]) rfl ?_
      refine ⟨by rw [HV.out], ?_⟩
      rw [HX.out]
      exact (((hbz.setCell (p := ⟨X, 0, none⟩) (Nat.le_refl _) _).setCell (p := ⟨X, 1, none⟩) (Nat.le_refl _) _).setCell (p := ⟨X, 2, none⟩) (Nat.le_refl _) _).setCell (p := ⟨X, 3, none⟩) (Nat.le_refl _) _
end Go.Proofs.YtjapgpmoojfhnaaGreatDoor

namespace Go.Proofs.YtjapgpmoojfhnaaGreatDoor
open Go.RowKit Go.Lib

theorem sgn_same (b : Nat) : sgnS (decide (9223372036854775808 ≤ b)) = Fl.sgB b := by
  unfold sgnS Fl.sgB
  by_cases h : 9223372036854775808 ≤ b
  · rw [decide_eq_true h, if_pos rfl, if_pos h]
  · rw [decide_eq_false h, if_neg (by simp), if_neg h]
theorem reftext_any (b : Nat) (w : World) : Calls Tryz.prog 15 #[Fl.refF b] w fun x w' => x = .returned (.string ⟨(Fl.txt b).toArray⟩) ∧ Below w.heap.size w w' := by
  unfold Fl.refF Fl.txt
  by_cases h1 : 9218868437227405312 < b % 9223372036854775808
  · rw [if_pos h1, if_pos h1]
    exact floattext_nan 0 0 w
  · rw [if_neg h1, if_neg h1]
    by_cases h2 : b % 9223372036854775808 = 9218868437227405312
    · rw [if_pos h2, if_pos h2, ← sgn_same]
      exact floattext_inf _ 0 0 w
    · rw [if_neg h2, if_neg h2]
      by_cases h3 : b % 9223372036854775808 = 0
      · rw [if_pos h3, if_pos h3, ← sgn_same]
        have h := floattext_num (decide (9223372036854775808 ≤ b)) 0 0 w (by omega) (by omega)
        have e : decDigits 0 ++ 112 :: itoa 0 = [48, 112, 48] := by
          rw [show itoa 0 = decDigits 0 from itoa_nonneg 0, decDigits_one (by omega)]
          rfl
        rw [e] at h
        exact h
      · rw [if_neg h3, if_neg h3, ← sgn_same]
        have h0 : 0 < b % 9223372036854775808 := by omega
        obtain ⟨_, _, _, a4⟩ := Fl.om_spec h0
        obtain ⟨_, b2, b3, _⟩ := Fl.om_bounds h0 (by omega)
        exact floattext_num _ (Fl.om (b % 9223372036854775808)) (Fl.oe (b % 9223372036854775808)) w (by omega) (by omega)
set_option maxHeartbeats 1000000 in
set_option maxRecDepth 100000 in
theorem bitlen_any (m : Nat) (w : World) (hm : m < 18446744073709551616) : Calls Tryz.prog 69 #[.int .u64 (m : Int)] w fun x w' => x = .returned (.int .i64 (Lib.bitLen m : Nat)) ∧ w' = w := by
  go_enter Tryz.func69, Tryz.ntmps69
  go_wp2_with fail
  go_loopg [0, 3] 64 (fun f t0 t3 wx => ∃ (x k : Nat), t0 = .int .u64 (x : Int) ∧ t3 = .int .i64 (k : Int) ∧ x < 2 ^ f ∧ x ≤ m ∧ k + f ≤ 64 ∧ k + Lib.bitLen x = Lib.bitLen m ∧ wx = w)
  case atStart => exact ⟨m, 0, rfl, rfl, by omega, Nat.le_refl _, by omega, by omega, rfl⟩
  case round =>
    obtain ⟨x, k, rfl, rfl, hxf, hxm, hkf, hk, rfl⟩ := hrel
    have HK := Lib.hid hk
    have HF := Lib.hid hxf
    clear hk hxf
    by_cases hx : x = 0
    · subst hx
      go_wp2_with fail
      go_ret
      refine ⟨?_, rfl⟩
      have h := HK.out
      have e : Lib.bitLen 0 = 0 := by decide
      rw [e] at h
      rw [← h]
      rfl
    · obtain ⟨f, rfl⟩ : ∃ f, gk = f + 1 := ⟨gk - 1, by
        rcases Nat.eq_zero_or_pos gk with h | h
        · have := HF.out; subst h; simp at this; omega
        · omega⟩
      have hxp : (0 : Int) < (x : Int) := by omega
      obtain ⟨y, hy⟩ : ∃ y, x / 2 = y := ⟨_, rfl⟩
      have g4 : (x : Int) / 2 = (y : Int) := by omega
      have g7 : IntKind.u64.wrap (y : Int) = (y : Int) := by rw [IntKind.wrap_u64]; omega
      have g8 : IntKind.i64.wrap ((k : Int) + 1) = (k : Int) + 1 := IntWalk.i64_in _ (by omega)
      have hym : y ≤ m := by omega
      have hyf : y < 2 ^ f := by have := HF.out; rw [Nat.pow_succ] at this; omega
      have hh := Lib.bitLen_half x hx (by omega)
      rw [hy] at hh
      have HH := Lib.hid (And.intro hh hyf)
      clear hh hyf hy hx
      go_wp2_with fail
      go_roundg f
      case measure => omega
      case rel =>
        have h1 := HK.out
        have h2 := HH.out.1
        exact ⟨y, k + 1, rfl, by go_num, HH.out.2, hym, by omega, by omega, rfl⟩
end Go.Proofs.YtjapgpmoojfhnaaGreatDoor

namespace Go.Proofs.YtjapgpmoojfhnaaGreatDoor
open Go.RowKit Go.Lib

set_option maxHeartbeats 1000000 in
set_option maxRecDepth 100000 in
theorem refbits_zero (w : World) : Calls Tryz.prog 28 #[.agg #[.int .i64 0, .bool false, .int .u64 0, .int .i64 0], .int .i64 64] w fun x w' => x = .returned (.tuple #[.int .u64 0, .bool true]) ∧ Below w.heap.size w w' := by
  obtain ⟨w2, X, hw2, hX, hb2, hcells⟩ := box_float 0 false 0 0 w
  have FO := Lib.hid (fun W => format64 W)
  have HW2 := Lib.hid hw2
  have HX := Lib.hid hX
  obtain ⟨x0, x1, x2, x3, _⟩ := hcells w2 (Below.refl _ _)
  clear hcells hw2 hX
  go_enter Tryz.func28, Tryz.ntmps28
  go_upto_region 1 with fail
  rw [HW2.out, HX.out]
  go_wp2_with fail
  refine (FO.out _).mono ?_
  rintro x w1 ⟨rfl, rfl⟩
  go_wp2_with fail
  go_ret2
  exact ⟨rfl, hb2⟩
set_option maxHeartbeats 1000000 in
set_option maxRecDepth 100000 in
theorem refbits_inf (w : World) : Calls Tryz.prog 28 #[.agg #[.int .i64 1, .bool false, .int .u64 0, .int .i64 0], .int .i64 64] w fun x w' => x = .returned (.tuple #[.int .u64 9218868437227405312, .bool true]) ∧ Below w.heap.size w w' := by
  obtain ⟨w2, X, hw2, hX, hb2, hcells⟩ := box_float 1 false 0 0 w
  have FO := Lib.hid (fun W => format64 W)
  have HW2 := Lib.hid hw2
  have HX := Lib.hid hX
  obtain ⟨x0, x1, x2, x3, _⟩ := hcells w2 (Below.refl _ _)
  clear hcells hw2 hX
  go_enter Tryz.func28, Tryz.ntmps28
  go_upto_region 1 with fail
  rw [HW2.out, HX.out]
  go_wp2_with fail
  refine (FO.out _).mono ?_
  rintro x w1 ⟨rfl, rfl⟩
  go_wp2_with fail
  go_ret2
  exact ⟨rfl, hb2⟩
set_option maxHeartbeats 2000000 in
set_option maxRecDepth 100000 in
theorem refbits_num (r : Nat) (w : World) (h0 : 0 < r) (hr : r < 9218868437227405312) : Calls Tryz.prog 28 #[.agg #[.int .i64 0, .bool false, .int .u64 (Fl.om r : Int), .int .i64 (Fl.oe r)], .int .i64 64] w fun x w' => x = .returned (.tuple #[.int .u64 (r : Int), .bool true]) ∧ Below w.heap.size w w' := by
  obtain ⟨a1, a2, a3, a4⟩ := Fl.om_spec h0
  obtain ⟨b1, b2, b3, b4⟩ := Fl.om_bounds h0 hr
  have hlast := Fl.last_place Ieee.double h0
  have hsp := Fl.same_place a3 h0 (Fl.om_same h0)
  have hoe : Fl.oe r = Fl.rplace Ieee.double r + (tzN (Fl.rmag Ieee.double r) : Nat) := rfl
  obtain ⟨P, hP⟩ : ∃ P, Fl.rplace Ieee.double r = P := ⟨_, rfl⟩
  obtain ⟨M, hM⟩ : ∃ M, Fl.rmag Ieee.double r = M := ⟨_, rfl⟩
  obtain ⟨m, hm⟩ : ∃ m, Fl.om r = m := ⟨_, rfl⟩
  obtain ⟨e, he⟩ : ∃ e, Fl.oe r = e := ⟨_, rfl⟩
  obtain ⟨z, hz⟩ : ∃ z, tzN M = z := ⟨_, rfl⟩
  rw [Fl.d_least, show (Ieee.double.fractionBits : Int) = 52 from rfl] at hlast
  rw [hP, hM] at hlast hsp hoe
  rw [hm, he] at hsp
  rw [he, hz] at hoe
  rw [hm] at a2 a3 a4 b1 b4
  rw [he] at b2 b3 b4
  rw [hm, hM, hz] at a1
  rw [hm, he]
  obtain ⟨w2, X, hw2, hX, hb2, hcells⟩ := box_float 0 false (m : Int) e w
  have FO := Lib.hid (fun W => format64 W)
  have BL := Lib.hid (fun W => bitlen_any m W (by omega))
  have hbl : Lib.bitLen m = m.log2 + 1 := Fl.bitLen_log2 m (by omega) (by omega)
  rw [hbl] at BL
  obtain ⟨L, hL⟩ : ∃ L, m.log2 + 1 = L := ⟨_, rfl⟩
  rw [hL] at BL
  have HW2 := Lib.hid hw2
  have HX := Lib.hid hX
  have HC := Lib.hid hcells
  obtain ⟨x0, x1, x2, x3, _⟩ := hcells w2 (Below.refl _ _)
  have k1 : ((m : Int) == 0) = false := by rw [beq_eq_false_iff_ne]; omega
  have k2 : IntKind.i64.wrap (e + (L : Int)) = e + (L : Int) := IntWalk.i64_in _ (by omega)
  have k3 : IntKind.i64.wrap (e + (L : Int) - 53) = e + (L : Int) - 53 := IntWalk.i64_in _ (by omega)
  have k4 : IntKind.i64.wrap (e - P) = (z : Int) := by rw [hoe]; have := IntWalk.i64_in (P + (z : Int) - P) (by have : z < 64 := by { obtain ⟨_, _, h⟩ := tz_spec (m := M) (by rw [← hM]; exact Fl.rmag_pos h0) (by rw [← hM]; have := Fl.rmag_lt Ieee.double r; exact Nat.lt_trans this (by decide)); rw [← hz]; exact h }; omega); rw [this]; omega
  have c1 : decide (P ≤ e) = true := decide_eq_true (by omega)
  have HQ := Lib.hid (And.intro hlast (And.intro hsp (And.intro hoe (And.intro hP (And.intro hM (And.intro a1 hL))))))
  have HB := Lib.hid (And.intro a2 (And.intro a3 (And.intro a4 (And.intro b1 (And.intro b2 (And.intro b3 b4))))))
  have HZ := Lib.hid (And.intro hz (And.intro hm he))
  have H0 := Lib.hid (And.intro h0 hr)
  clear hcells hw2 hX hlast hsp hoe hP hM a1 hL a2 a3 a4 b1 b2 b3 b4 hz hm he h0 hr hbl
  have hd2 : Below w2.heap.size w2 w2 := Below.refl _ _
  go_enter Tryz.func28, Tryz.ntmps28
  go_upto_region 1 with fail
  rw [HW2.out, HX.out]
  go_wp2_with fail
  refine (FO.out _).mono ?_
  rintro x w1 ⟨rfl, rfl⟩
  go_upto_region 12 with fail
  go_region_held3 (fun W => W.cell? ⟨X, 0, none⟩ = some (.int .i64 0) ∧ W.cell? ⟨X, 1, none⟩ = some (.bool false) ∧ W.cell? ⟨X, 2, none⟩ = some (.int .u64 (m : Int)) ∧ W.cell? ⟨X, 3, none⟩ = some (.int .i64 e) ∧ Below w1.heap.size w1 W)
    ((refine HC.out _ ?_; first | assumption | exact b_drew hd2 | exact b_drew (by assumption)))
    (first | (go_at_call 69; refine (BL.out _).mono ?_; rintro x w3 ⟨rfl, rfl⟩))
  have HMX : max (e + (L : Int) - 53) (-1074) = P := by
    obtain ⟨q1, q2, q3, q4, q5, q6, q7⟩ := HQ.out
    rw [show e + (L : Int) - 53 = P + (M.log2 : Int) - 52 by omega]
    exact q1
  rw [HMX]
  have hz64 : z < 64 := by
    obtain ⟨_, _, h⟩ := tz_spec (m := M) (by rw [← HQ.out.2.2.2.2.1]; exact Fl.rmag_pos H0.out.1) (by rw [← HQ.out.2.2.2.2.1]; exact Nat.lt_trans (Fl.rmag_lt Ieee.double r) (by decide))
    rw [← HZ.out.1]; exact h
  have hM2 : M < 9007199254740992 := by rw [← HQ.out.2.2.2.2.1]; exact Fl.rmag_lt Ieee.double r
  have hM0 : 0 < M := by rw [← HQ.out.2.2.2.2.1]; exact Fl.rmag_pos H0.out.1
  have k5 : IntKind.u64.wrap (z : Int) = (z : Int) := by rw [IntKind.wrap_u64]; omega
  have k6 : IntKind.u64.wrap ((m : Int) * 2 ^ z) = (M : Int) := by
    have h : (m : Int) * 2 ^ z = (M : Int) := by rw [HQ.out.2.2.2.2.2.1]; simp
    rw [h, IntKind.wrap_u64]; omega
  have k10 : min z 64 = z := by omega
  have k7 : ((M : Int) == 0) = false := by rw [beq_eq_false_iff_ne]; omega
  have BM := Lib.hid (fun W => bitlen_any M W (by omega))
  rw [Fl.bitLen_log2 M (by omega) (by omega)] at BM
  obtain ⟨LM, hLM⟩ : ∃ LM, M.log2 + 1 = LM := ⟨_, rfl⟩
  rw [hLM] at BM
  have hlm : M.log2 < 53 := (Nat.log2_lt (by omega)).2 hM2
  have c2 : decide ((53 : Int) < (LM : Int)) = false := decide_eq_false (by omega)
  have hPL : P + (LM : Int) ≤ 1024 := by
    obtain ⟨q1, q2, q3, q4, q5, q6, q7⟩ := HQ.out
    obtain ⟨r1, r2, r3, r4, r5, r6, r7⟩ := HB.out
    omega
  have hPge : -1074 ≤ P := by
    have := Fl.place_ge Ieee.double r
    rw [Fl.d_least, HQ.out.2.2.2.1] at this
    exact this
  have k8 : IntKind.i64.wrap (P + (LM : Int)) = P + (LM : Int) := IntWalk.i64_in _ (by omega)
  have c3 : decide ((1024 : Int) < P + (LM : Int)) = false := decide_eq_false (by omega)
  have k9 : IntKind.u64.wrap (M : Int) = (M : Int) := by rw [IntKind.wrap_u64]; omega
  have HLM := Lib.hid (And.intro hLM (And.intro hPL (And.intro hPge (And.intro hM0 (And.intro hM2 hz64)))))
  clear HMX hLM hPL hPge hlm hM0 hM2 hz64
  by_cases hsub : LM < 53
  · have c4 : decide ((LM : Int) < 53) = true := decide_eq_true (by omega)
    have hMr : (M : Int) = (r : Int) := by
      have h1 := HQ.out.2.2.2.2.1
      have h2 := HLM.out.1
      by_cases h : r < 4503599627370496
      · rw [← h1]; unfold Fl.rmag; rw [Fl.d_binade, if_pos h]
      · exfalso
        have h3 : 4503599627370496 ≤ M := by rw [← h1]; unfold Fl.rmag; rw [Fl.d_binade, if_neg h]; omega
        have h4 : 52 ≤ M.log2 := (Nat.le_log2 (by omega)).2 h3
        omega
    have HMR := Lib.hid hMr
    clear hMr hsub
    go_wp2_with fail
    refine (BM.out _).mono ?_
    rintro x w4 ⟨rfl, rfl⟩
    go_wp2_with fail
    refine (BM.out _).mono ?_
    rintro x w5 ⟨rfl, rfl⟩
    go_wp2_with fail
    refine (BM.out _).mono ?_
    rintro x w6 ⟨rfl, rfl⟩
    go_wp2_with fail
    go_ret2
    exact ⟨by rw [HMR.out]; rfl, hb2.drew⟩
  · have c4 : decide ((LM : Int) < 53) = false := decide_eq_false (by omega)
    have hrr := H0.out.2
    obtain ⟨q, hq⟩ : ∃ q, r / 4503599627370496 = q := ⟨_, rfl⟩
    have hge : 4503599627370496 ≤ r := by
      have h1 := HQ.out.2.2.2.2.1
      have h2 := HLM.out.1
      refine Nat.le_of_not_lt fun h => ?_
      have h3 : M = r := by rw [← h1]; unfold Fl.rmag; rw [Fl.d_binade, if_pos h]
      have h5 : M.log2 < 52 := (Nat.log2_lt (by have := HLM.out.2.2.2.1; omega)).2 (by rw [h3]; exact h)
      omega
    have hMq : M = 4503599627370496 + r % 4503599627370496 := by rw [← HQ.out.2.2.2.2.1]; unfold Fl.rmag; rw [Fl.d_binade, if_neg (by omega)]
    have hPq : P = (q : Int) - 1075 := by rw [← HQ.out.2.2.2.1]; unfold Fl.rplace; rw [Fl.d_binade, if_neg (by omega), Fl.d_least, hq]; omega
    have n1 : IntKind.i64.wrap (P + 1074) = P + 1074 := IntWalk.i64_in _ (by omega)
    have n2 : IntKind.i64.wrap (P + 1074 + 1) = (q : Int) := by rw [show P + 1074 + 1 = (q : Int) by omega]; exact IntWalk.i64_in _ (by omega)
    have n3 : IntKind.u64.wrap (q : Int) = (q : Int) := by rw [IntKind.wrap_u64]; omega
    obtain ⟨Y0, hY0⟩ : ∃ Y0, q * 4503599627370496 = Y0 := ⟨_, rfl⟩
    have n4 : IntKind.u64.wrap ((q : Int) * 4503599627370496) = (Y0 : Int) := by rw [IntKind.wrap_u64]; omega
    have n5 : IntKind.u64.wrap (Y0 : Int) = (Y0 : Int) := by rw [IntKind.wrap_u64]; omega
    obtain ⟨Y1, hY1⟩ : ∃ Y1, Y0 + M = Y1 := ⟨_, rfl⟩
    have n6 : IntKind.u64.wrap ((Y0 : Int) + (M : Int)) = (Y1 : Int) := by rw [IntKind.wrap_u64]; omega
    have n7 : IntKind.u64.wrap ((Y1 : Int) - 4503599627370496) = (r : Int) := by rw [IntKind.wrap_u64]; omega
    clear hsub hrr hq hge hMq hPq hY0 hY1
    go_wp2_with fail
    refine (BM.out _).mono ?_
    rintro x w4 ⟨rfl, rfl⟩
    go_wp2_with fail
    refine (BM.out _).mono ?_
    rintro x w5 ⟨rfl, rfl⟩
    go_wp2_with fail
    refine (BM.out _).mono ?_
    rintro x w6 ⟨rfl, rfl⟩
    go_wp2_with fail
    go_ret2
    exact ⟨rfl, hb2.drew⟩
end Go.Proofs.YtjapgpmoojfhnaaGreatDoor

namespace Go.Proofs.YtjapgpmoojfhnaaGreatDoor
open Go.RowKit Go.Lib

set_option maxHeartbeats 1000000 in
set_option maxRecDepth 100000 in
theorem place_of (k : Int) (neg : Bool) (m e : Int) (r : Nat) (hr : r ≤ 9218868437227405312) (BT : ∀ W, Calls Tryz.prog 28 #[.agg #[.int .i64 k, .bool false, .int .u64 m, .int .i64 e], .int .i64 64] W fun x w' => x = .returned (.tuple #[.int .u64 (r : Int), .bool true]) ∧ Below W.heap.size W w') (w : World) :
    Calls Tryz.prog 70 #[.agg #[.int .i64 k, .bool neg, .int .u64 m, .int .i64 e]] w fun x w' => x = .returned (.int .i64 (Fl.skey neg r)) ∧ Below w.heap.size w w' := by
  have q := two_blocks w (.cells #[.int .i64 k, .bool neg, .int .u64 m, .int .i64 e] 24) (.cells #[.int .i64 k, .bool neg, .int .u64 m, .int .i64 e] 24)
  obtain ⟨w1, hw1⟩ : ∃ w1 : World, w.alloc (.cells #[.int .i64 k, .bool neg, .int .u64 m, .int .i64 e] 24) = w1 := ⟨_, rfl⟩
  obtain ⟨X, hX⟩ : ∃ X, w.heap.size = X := ⟨_, rfl⟩
  have hXc := heap_alloc_new w (.cells #[.int .i64 k, .bool neg, .int .u64 m, .int .i64 e] 24)
  rw [hw1, hX] at hXc
  have x0 := at_block hXc 0 _ rfl
  have x1 := at_block hXc 1 _ rfl
  have x2 := at_block hXc 2 _ rfl
  have x3 := at_block hXc 3 _ rfl
  have hb1 : Below X w w1 := by rw [← hw1, ← hX]; exact (Below.refl _ _).alloc (Nat.le_refl _) _
  have BT := Lib.hid BT
  have HW1 := Lib.hid hw1
  have HX := Lib.hid hX
  have HXC := Lib.hid hXc
  have g1 : IntKind.i64.wrap (r : Int) = (r : Int) := IntWalk.i64_in _ (by omega)
  have g2 : IntKind.i64.wrap (-(r : Int)) = -(r : Int) := IntWalk.i64_in _ (by omega)
  clear hw1 hX hXc q hr
  go_enter Tryz.func70, Tryz.ntmps70
  go_upto_region 1 with fail
  rw [HW1.out, HX.out]
  go_wp2_with fail
  refine (BT.out _).mono ?_
  rintro x w4 ⟨rfl, hb4⟩
  have hX1 := lt_of_block HXC.out
  have hb14 : Below X w w4 := hb1.trans ((((Below.refl w1.heap.size w1).alloc (Nat.le_refl _) _).trans (hb4.mono (by simp))).mono (by omega))
  have hq4 := (hb4.block X (by simp; omega)).trans ((Below.heap_alloc _ _ _ hX1).trans HXC.out)
  clear x0 x1 x2 x3
  have x1 := at_block hq4 1 _ rfl
  clear hq4 hb4
  cases neg with
  | true =>
    go_wp2_with fail
    go_ret
    exact ⟨rfl, by rw [HX.out]; exact hb14⟩
  | false =>
    go_wp2_with fail
    go_ret
    exact ⟨rfl, by rw [HX.out]; exact hb14⟩
/-- place at the float of a word that is no NaN. -/
theorem place_any (b : Nat) (nb : b % 9223372036854775808 ≤ 9218868437227405312) (w : World) : Calls Tryz.prog 70 #[Fl.refF b] w fun x w' => x = .returned (.int .i64 (Fl.key b)) ∧ Below w.heap.size w w' := by
  unfold Fl.refF Fl.key
  rw [if_neg (by omega)]
  by_cases h2 : b % 9223372036854775808 = 9218868437227405312
  · rw [if_pos h2, h2]
    exact place_of 1 _ 0 0 9218868437227405312 (Nat.le_refl _) (fun W => refbits_inf W) w
  · rw [if_neg h2]
    by_cases h3 : b % 9223372036854775808 = 0
    · rw [if_pos h3, h3]
      exact place_of 0 _ 0 0 0 (by omega) (fun W => refbits_zero W) w
    · rw [if_neg h3]
      exact place_of 0 _ _ _ (b % 9223372036854775808) nb (fun W => refbits_num (b % 9223372036854775808) W (by omega) (by omega)) w
end Go.Proofs.YtjapgpmoojfhnaaGreatDoor

namespace Go.Proofs.YtjapgpmoojfhnaaGreatDoor
open Go.RowKit Go.Lib

theorem f8 {A B C D E F G H : Prop} {a W : World} (h : A ∧ B ∧ C ∧ D ∧ E ∧ F ∧ G ∧ H ∧ Below a.heap.size a W) : Below a.heap.size a W := h.2.2.2.2.2.2.2.2
theorem f8_trans {A B C D E F G H : Prop} {a W W' : World} (h : A ∧ B ∧ C ∧ D ∧ E ∧ F ∧ G ∧ H ∧ Below a.heap.size a W) (hb : Below W.heap.size W W') : Below a.heap.size a W' := (f8 h).trans (hb.mono (f8 h).size)
/-- The float of a word that is no NaN: its parts, and whether it is zero. -/
theorem ref_parts (b : Nat) (nb : b % 9223372036854775808 ≤ 9218868437227405312) : ∃ (k : Int) (n : Bool) (m e : Int), Fl.refF b = .agg #[.int .i64 k, .bool n, .int .u64 m, .int .i64 e] ∧
    ((b % 9223372036854775808 = 0 ∧ (m == 0) = true ∧ (k == 0) = true) ∨ (b % 9223372036854775808 ≠ 0 ∧ ((m == 0) = false ∨ ((m == 0) = true ∧ (k == 0) = false)))) := by
  unfold Fl.refF
  rw [if_neg (by omega)]
  by_cases h2 : b % 9223372036854775808 = 9218868437227405312
  · rw [if_pos h2]
    exact ⟨_, _, _, _, rfl, Or.inr ⟨by omega, Or.inr ⟨rfl, rfl⟩⟩⟩
  · rw [if_neg h2]
    by_cases h3 : b % 9223372036854775808 = 0
    · rw [if_pos h3]
      exact ⟨_, _, _, _, rfl, Or.inl ⟨h3, rfl, rfl⟩⟩
    · rw [if_neg h3]
      have := (Fl.om_spec (r := b % 9223372036854775808) (by omega)).2.2.1
      exact ⟨_, _, _, _, rfl, Or.inr ⟨h3, Or.inl (by rw [beq_eq_false_iff_ne]; omega)⟩⟩
set_option maxHeartbeats 4000000 in
set_option maxRecDepth 100000 in
theorem refcmp_key (x y : Nat) (nx : x % 9223372036854775808 ≤ 9218868437227405312) (ny : y % 9223372036854775808 ≤ 9218868437227405312) (w : World) :
    Calls Tryz.prog 32 #[Fl.refF x, Fl.refF y] w fun z w' => z = .returned (.int .i64 (Fl.cmpW x y)) ∧ Below w.heap.size w w' := by
  have PX := fun W => place_any x nx W
  have PY := fun W => place_any y ny W
  obtain ⟨kx, sx, mx, ex, hx, zx⟩ := ref_parts x nx
  obtain ⟨ky, sy, my, ey, hy, zy⟩ := ref_parts y ny
  rw [hx] at PX ⊢
  rw [hy] at PY ⊢
  have q := two_blocks w (.cells #[.int .i64 kx, .bool sx, .int .u64 mx, .int .i64 ex] 24) (.cells #[.int .i64 ky, .bool sy, .int .u64 my, .int .i64 ey] 24)
  obtain ⟨w2, hw2⟩ : ∃ w2 : World, (w.alloc (.cells #[.int .i64 kx, .bool sx, .int .u64 mx, .int .i64 ex] 24)).alloc (.cells #[.int .i64 ky, .bool sy, .int .u64 my, .int .i64 ey] 24) = w2 := ⟨_, rfl⟩
  obtain ⟨X, hX⟩ : ∃ X, w.heap.size = X := ⟨_, rfl⟩
  rw [hw2, hX] at q
  obtain ⟨q1, q2, hb2, hs2⟩ := q
  have hC : ∀ W, Below w2.heap.size w2 W → W.cell? ⟨X, 0, none⟩ = some (.int .i64 kx) ∧ W.cell? ⟨X, 1, none⟩ = some (.bool sx) ∧ W.cell? ⟨X, 2, none⟩ = some (.int .u64 mx) ∧ W.cell? ⟨X, 3, none⟩ = some (.int .i64 ex) ∧ W.cell? ⟨X + 1, 0, none⟩ = some (.int .i64 ky) ∧ W.cell? ⟨X + 1, 1, none⟩ = some (.bool sy) ∧ W.cell? ⟨X + 1, 2, none⟩ = some (.int .u64 my) ∧ W.cell? ⟨X + 1, 3, none⟩ = some (.int .i64 ey) ∧ Below w2.heap.size w2 W := fun W hW => by
    have h1 := (hW.block X (lt_of_block q1)).trans q1
    have h2 := (hW.block (X + 1) (lt_of_block q2)).trans q2
    exact ⟨at_block h1 0 _ rfl, at_block h1 1 _ rfl, at_block h1 2 _ rfl, at_block h1 3 _ rfl, at_block h2 0 _ rfl, at_block h2 1 _ rfl, at_block h2 2 _ rfl, at_block h2 3 _ rfl, hW⟩
  obtain ⟨x0, x1, x2, x3, y0, y1, y2, y3, _⟩ := hC w2 (Below.refl _ _)
  obtain ⟨a, ha⟩ : ∃ a, Fl.key x = a := ⟨_, rfl⟩
  obtain ⟨b, hb⟩ : ∃ b, Fl.key y = b := ⟨_, rfl⟩
  obtain ⟨c, hc⟩ : ∃ c, Fl.cmpW x y = c := ⟨_, rfl⟩
  have hcc : c = if a < b then -1 else if b < a then 1 else 0 := by rw [← hc, Fl.cmpW, ha, hb]
  have hzz : x % 9223372036854775808 = 0 → y % 9223372036854775808 = 0 → c = 0 := by
    intro h1 h2
    rw [hcc, ← ha, ← hb]
    have e : ∀ u, u % 9223372036854775808 = 0 → Fl.key u = 0 := fun u hu => by unfold Fl.key Fl.skey; rw [hu]; split <;> rfl
    rw [e x h1, e y h2]
    rfl
  rw [ha] at PX
  rw [hb] at PY
  rw [hc]
  have PX := Lib.hid PX
  have PY := Lib.hid PY
  have HC := Lib.hid hC
  have HW2 := Lib.hid hw2
  have HX := Lib.hid hX
  have hd2 : Below w2.heap.size w2 w2 := Below.refl _ _
  have hsz : X ≤ w2.heap.size := by omega
  clear hC hw2 hX q1 q2 hs2 ha hb hc hx hy nx ny
  have hcase : (∃ k1 : (mx == 0) = true, ∃ k2 : (kx == 0) = true, ∃ k3 : (my == 0) = true, (ky == 0) = true ∧ c = 0) ∨ ((mx == 0) = false) ∨ ((mx == 0) = true ∧ (kx == 0) = false) ∨ ((mx == 0) = true ∧ (kx == 0) = true ∧ (my == 0) = false) ∨ ((mx == 0) = true ∧ (kx == 0) = true ∧ (my == 0) = true ∧ (ky == 0) = false) := by
    rcases zx with ⟨h1, h2, h3⟩ | ⟨h1, h2 | ⟨h2, h3⟩⟩
    · rcases zy with ⟨g1, g2, g3⟩ | ⟨g1, g2 | ⟨g2, g3⟩⟩
      · exact Or.inl ⟨h2, h3, g2, g3, hzz h1 g1⟩
      · exact Or.inr (Or.inr (Or.inr (Or.inl ⟨h2, h3, g2⟩)))
      · exact Or.inr (Or.inr (Or.inr (Or.inr ⟨h2, h3, g2, g3⟩)))
    · exact Or.inr (Or.inl h2)
    · exact Or.inr (Or.inr (Or.inl ⟨h2, h3⟩))
  clear hzz zx zy
  rcases hcase with ⟨k1, k2, k3, k4, k5⟩ | k1 | ⟨k1, k2⟩ | ⟨k1, k2, k3⟩ | ⟨k1, k2, k3, k4⟩
  · have K5 := Lib.hid k5
    clear k5 hcc
    go_enter Tryz.func32, Tryz.ntmps32
    go_upto_region 1 with fail
    rw [HW2.out, HX.out]
    go_wp2_with fail
    go_ret
    exact ⟨by rw [K5.out]; rfl, by rw [HX.out]; exact hb2⟩
  · have HCC := Lib.hid hcc
    clear hcc
    go_enter Tryz.func32, Tryz.ntmps32
    go_upto_region 1 with fail
    rw [HW2.out, HX.out]
    go_upto_region 3 with fail
    go_region_held3 (fun W => W.cell? ⟨X, 0, none⟩ = some (.int .i64 kx) ∧ W.cell? ⟨X, 1, none⟩ = some (.bool sx) ∧ W.cell? ⟨X, 2, none⟩ = some (.int .u64 mx) ∧ W.cell? ⟨X, 3, none⟩ = some (.int .i64 ex) ∧ W.cell? ⟨X + 1, 0, none⟩ = some (.int .i64 ky) ∧ W.cell? ⟨X + 1, 1, none⟩ = some (.bool sy) ∧ W.cell? ⟨X + 1, 2, none⟩ = some (.int .u64 my) ∧ W.cell? ⟨X + 1, 3, none⟩ = some (.int .i64 ey) ∧ Below w2.heap.size w2 W)
      ((refine HC.out _ ?_; first | assumption | exact b_drew hd2 | exact b_drew (by assumption)))
      (first | (with_reducible refine (PX.out _).mono ?_; rintro z w3 ⟨rfl, hb3⟩; have hb3' := f8_trans (by assumption) hb3) | (with_reducible refine (PY.out _).mono ?_; rintro z w4 ⟨rfl, hb4⟩; have hb4' := f8_trans (by assumption) hb4))
    have hbz : Below X w w4 := hb2.trans (hb4'.mono hsz)
    clear hb3 hb3' hb4 hb4' x0 x1 x2 x3 y0 y1 y2 y3
    rcases Int.lt_trichotomy a b with h | h | h
    · have d1 : decide (a < b) = true := decide_eq_true h
      have E := Lib.hid (show c = -1 by rw [HCC.out, if_pos h])
      clear h
      go_wp2_with fail
      go_ret
      exact ⟨by rw [E.out]; rfl, by rw [HX.out]; exact hbz⟩
    · have d1 : decide (a < b) = false := decide_eq_false (by omega)
      have d2 : decide (b < a) = false := decide_eq_false (by omega)
      have E := Lib.hid (show c = 0 by rw [HCC.out, if_neg (by omega), if_neg (by omega)])
      clear h
      go_wp2_with fail
      go_ret
      exact ⟨by rw [E.out]; rfl, by rw [HX.out]; exact hbz⟩
    · have d1 : decide (a < b) = false := decide_eq_false (by omega)
      have d2 : decide (b < a) = true := decide_eq_true h
      have E := Lib.hid (show c = 1 by rw [HCC.out, if_neg (by omega), if_pos h])
      clear h
      go_wp2_with fail
      go_ret
      exact ⟨by rw [E.out]; rfl, by rw [HX.out]; exact hbz⟩
  · have HCC := Lib.hid hcc
    clear hcc
    go_enter Tryz.func32, Tryz.ntmps32
    go_upto_region 1 with fail
    rw [HW2.out, HX.out]
    go_upto_region 3 with fail
    go_region_held3 (fun W => W.cell? ⟨X, 0, none⟩ = some (.int .i64 kx) ∧ W.cell? ⟨X, 1, none⟩ = some (.bool sx) ∧ W.cell? ⟨X, 2, none⟩ = some (.int .u64 mx) ∧ W.cell? ⟨X, 3, none⟩ = some (.int .i64 ex) ∧ W.cell? ⟨X + 1, 0, none⟩ = some (.int .i64 ky) ∧ W.cell? ⟨X + 1, 1, none⟩ = some (.bool sy) ∧ W.cell? ⟨X + 1, 2, none⟩ = some (.int .u64 my) ∧ W.cell? ⟨X + 1, 3, none⟩ = some (.int .i64 ey) ∧ Below w2.heap.size w2 W)
      ((refine HC.out _ ?_; first | assumption | exact b_drew hd2 | exact b_drew (by assumption)))
      (first | (with_reducible refine (PX.out _).mono ?_; rintro z w3 ⟨rfl, hb3⟩; have hb3' := f8_trans (by assumption) hb3) | (with_reducible refine (PY.out _).mono ?_; rintro z w4 ⟨rfl, hb4⟩; have hb4' := f8_trans (by assumption) hb4))
    have hbz : Below X w w4 := hb2.trans (hb4'.mono hsz)
    clear hb3 hb3' hb4 hb4' x0 x1 x2 x3 y0 y1 y2 y3
    rcases Int.lt_trichotomy a b with h | h | h
    · have d1 : decide (a < b) = true := decide_eq_true h
      have E := Lib.hid (show c = -1 by rw [HCC.out, if_pos h])
      clear h
      go_wp2_with fail
      go_ret
      exact ⟨by rw [E.out]; rfl, by rw [HX.out]; exact hbz⟩
    · have d1 : decide (a < b) = false := decide_eq_false (by omega)
      have d2 : decide (b < a) = false := decide_eq_false (by omega)
      have E := Lib.hid (show c = 0 by rw [HCC.out, if_neg (by omega), if_neg (by omega)])
      clear h
      go_wp2_with fail
      go_ret
      exact ⟨by rw [E.out]; rfl, by rw [HX.out]; exact hbz⟩
    · have d1 : decide (a < b) = false := decide_eq_false (by omega)
      have d2 : decide (b < a) = true := decide_eq_true h
      have E := Lib.hid (show c = 1 by rw [HCC.out, if_neg (by omega), if_pos h])
      clear h
      go_wp2_with fail
      go_ret
      exact ⟨by rw [E.out]; rfl, by rw [HX.out]; exact hbz⟩
  · have HCC := Lib.hid hcc
    clear hcc
    go_enter Tryz.func32, Tryz.ntmps32
    go_upto_region 1 with fail
    rw [HW2.out, HX.out]
    go_upto_region 3 with fail
    go_region_held3 (fun W => W.cell? ⟨X, 0, none⟩ = some (.int .i64 kx) ∧ W.cell? ⟨X, 1, none⟩ = some (.bool sx) ∧ W.cell? ⟨X, 2, none⟩ = some (.int .u64 mx) ∧ W.cell? ⟨X, 3, none⟩ = some (.int .i64 ex) ∧ W.cell? ⟨X + 1, 0, none⟩ = some (.int .i64 ky) ∧ W.cell? ⟨X + 1, 1, none⟩ = some (.bool sy) ∧ W.cell? ⟨X + 1, 2, none⟩ = some (.int .u64 my) ∧ W.cell? ⟨X + 1, 3, none⟩ = some (.int .i64 ey) ∧ Below w2.heap.size w2 W)
      ((refine HC.out _ ?_; first | assumption | exact b_drew hd2 | exact b_drew (by assumption)))
      (first | (with_reducible refine (PX.out _).mono ?_; rintro z w3 ⟨rfl, hb3⟩; have hb3' := f8_trans (by assumption) hb3) | (with_reducible refine (PY.out _).mono ?_; rintro z w4 ⟨rfl, hb4⟩; have hb4' := f8_trans (by assumption) hb4))
    have hbz : Below X w w4 := hb2.trans (hb4'.mono hsz)
    clear hb3 hb3' hb4 hb4' x0 x1 x2 x3 y0 y1 y2 y3
    rcases Int.lt_trichotomy a b with h | h | h
    · have d1 : decide (a < b) = true := decide_eq_true h
      have E := Lib.hid (show c = -1 by rw [HCC.out, if_pos h])
      clear h
      go_wp2_with fail
      go_ret
      exact ⟨by rw [E.out]; rfl, by rw [HX.out]; exact hbz⟩
    · have d1 : decide (a < b) = false := decide_eq_false (by omega)
      have d2 : decide (b < a) = false := decide_eq_false (by omega)
      have E := Lib.hid (show c = 0 by rw [HCC.out, if_neg (by omega), if_neg (by omega)])
      clear h
      go_wp2_with fail
      go_ret
      exact ⟨by rw [E.out]; rfl, by rw [HX.out]; exact hbz⟩
    · have d1 : decide (a < b) = false := decide_eq_false (by omega)
      have d2 : decide (b < a) = true := decide_eq_true h
      have E := Lib.hid (show c = 1 by rw [HCC.out, if_neg (by omega), if_pos h])
      clear h
      go_wp2_with fail
      go_ret
      exact ⟨by rw [E.out]; rfl, by rw [HX.out]; exact hbz⟩
  · have HCC := Lib.hid hcc
    clear hcc
    go_enter Tryz.func32, Tryz.ntmps32
    go_upto_region 1 with fail
    rw [HW2.out, HX.out]
    go_upto_region 3 with fail
    go_region_held3 (fun W => W.cell? ⟨X, 0, none⟩ = some (.int .i64 kx) ∧ W.cell? ⟨X, 1, none⟩ = some (.bool sx) ∧ W.cell? ⟨X, 2, none⟩ = some (.int .u64 mx) ∧ W.cell? ⟨X, 3, none⟩ = some (.int .i64 ex) ∧ W.cell? ⟨X + 1, 0, none⟩ = some (.int .i64 ky) ∧ W.cell? ⟨X + 1, 1, none⟩ = some (.bool sy) ∧ W.cell? ⟨X + 1, 2, none⟩ = some (.int .u64 my) ∧ W.cell? ⟨X + 1, 3, none⟩ = some (.int .i64 ey) ∧ Below w2.heap.size w2 W)
      ((refine HC.out _ ?_; first | assumption | exact b_drew hd2 | exact b_drew (by assumption)))
      (first | (with_reducible refine (PX.out _).mono ?_; rintro z w3 ⟨rfl, hb3⟩; have hb3' := f8_trans (by assumption) hb3) | (with_reducible refine (PY.out _).mono ?_; rintro z w4 ⟨rfl, hb4⟩; have hb4' := f8_trans (by assumption) hb4))
    have hbz : Below X w w4 := hb2.trans (hb4'.mono hsz)
    clear hb3 hb3' hb4 hb4' x0 x1 x2 x3 y0 y1 y2 y3
    rcases Int.lt_trichotomy a b with h | h | h
    · have d1 : decide (a < b) = true := decide_eq_true h
      have E := Lib.hid (show c = -1 by rw [HCC.out, if_pos h])
      clear h
      go_wp2_with fail
      go_ret
      exact ⟨by rw [E.out]; rfl, by rw [HX.out]; exact hbz⟩
    · have d1 : decide (a < b) = false := decide_eq_false (by omega)
      have d2 : decide (b < a) = false := decide_eq_false (by omega)
      have E := Lib.hid (show c = 0 by rw [HCC.out, if_neg (by omega), if_neg (by omega)])
      clear h
      go_wp2_with fail
      go_ret
      exact ⟨by rw [E.out]; rfl, by rw [HX.out]; exact hbz⟩
    · have d1 : decide (a < b) = false := decide_eq_false (by omega)
      have d2 : decide (b < a) = true := decide_eq_true h
      have E := Lib.hid (show c = 1 by rw [HCC.out, if_neg (by omega), if_pos h])
      clear h
      go_wp2_with fail
      go_ret
      exact ⟨by rw [E.out]; rfl, by rw [HX.out]; exact hbz⟩
end Go.Proofs.YtjapgpmoojfhnaaGreatDoor

namespace Go.Proofs.YtjapgpmoojfhnaaGreatDoor
open Go.RowKit Go.Lib

set_option maxRecDepth 100000 in
theorem fits_two (w : World) : Calls Tryz.prog 83 #[.int .u64 2, .int .i64 0] w fun x w' => x = .returned (.bool false) ∧ w' = w := by
  have LN : ∀ W, ∃ L, Calls Tryz.prog 67 #[.int .u64 2] W fun e w' => e = .returned (.int .i64 L) ∧ w' = W := fun W => ⟨_, Tryz.bits_Len64 2 W (by decide) (by decide)⟩
  obtain ⟨L, hL⟩ := LN w
  have LN := Lib.hid hL
  clear hL
  go_enter Tryz.func83, Tryz.ntmps83
  go_wp2_with fail
  refine (LN.out).mono ?_
  rintro x w1 ⟨rfl, rfl⟩
  go_wp2_with fail
  go_ret
  exact ⟨rfl, rfl⟩
set_option maxHeartbeats 1000000 in
set_option maxRecDepth 100000 in
theorem parse_two (w : World) (hL : Laid w) : Calls Tryz.prog 58 #[.string ⟨#[50, 112, 48]⟩] w fun x w' => x = .returned (.tuple #[.float .f64 0, .bool false]) ∧ Below w.heap.size w w' := by
  have CP : ∀ W, Calls Tryz.prog 102 #[.string ⟨#[50, 112, 48]⟩, .string ⟨#[45]⟩] W fun e w' => e = .returned (.tuple #[.string ⟨#[50, 112, 48]⟩, .bool false]) ∧ w' = W := fun W => Tryz.strings_CutPrefix ⟨#[50, 112, 48]⟩ ⟨#[45]⟩ W
  have CU : ∀ W, Laid W → Calls Tryz.prog 48 #[.string ⟨#[50, 112, 48]⟩, .string ⟨#[112]⟩] W fun x w' => x = .returned (.tuple #[.string ⟨#[50]⟩, .string ⟨#[48]⟩, .bool true]) ∧ Below W.heap.size W w' := fun W hW => by
    obtain ⟨mm, hmm⟩ := hW.2.2.2.2.2.1
    have h := Tryz.strings_Cut ⟨#[50, 112, 48]⟩ ⟨#[112]⟩ mm W (by decide) hmm
    have hc : Lib.cut (⟨#[50, 112, 48]⟩ : ByteArray).data.toList (⟨#[112]⟩ : ByteArray).data.toList = ([50], [48], true) := by decide
    rw [hc] at h
    refine h.mono ?_
    rintro x w' ⟨rfl, n, rfl⟩
    exact ⟨rfl, below_drewN (Below.refl _ _) n⟩
  have PU := Lib.hid (fun W => uint_ok ⟨#[50]⟩ (by decide) 2 (by decide) W)
  have AT := Lib.hid (fun W => atoi_ok ⟨#[48]⟩ (by decide) 0 (by decide) W)
  have FI := Lib.hid (fun W => fits_two W)
  have CP := Lib.hid CP
  have CU := Lib.hid CU
  have HL := Lib.hid hL
  clear hL
  go_enter Tryz.func58, Tryz.ntmps58
  go_wp2_with fail
  refine (CP.out _).mono ?_
  rintro x w1 ⟨rfl, rfl⟩
  go_wp2_with fail
  refine (CU.out _ HL.out).mono ?_
  rintro x w2 ⟨rfl, hb2⟩
  go_wp2_with fail
  refine (PU.out _).mono ?_
  rintro x w3 ⟨rfl, hb3⟩
  have hb3 := hb2.trans (hb3.mono hb2.size)
  go_wp2_with fail
  refine (AT.out _).mono ?_
  rintro x w4 ⟨rfl, hb4⟩
  have hb4 := hb3.trans (hb4.mono hb3.size)
  go_wp2_with fail
  refine (FI.out _).mono ?_
  rintro x w5 ⟨rfl, rfl⟩
  go_wp2_with fail
  go_ret2
  exact ⟨rfl, hb4⟩
/-- Valid, by what parse answers. -/
theorem valid_of (s : ByteArray) (f : Nat) (ok : Bool) (w : World) (hp : Calls Tryz.prog 58 #[.string s] w fun x w' => x = .returned (.tuple #[.float .f64 f, .bool ok]) ∧ Below w.heap.size w w') :
    Calls Tryz.prog 34 #[.string s] w fun x w' => x = .returned (.bool ok) ∧ Below w.heap.size w w' := by
  have HP := Lib.hid hp
  clear hp
  go_enter Tryz.func34, Tryz.ntmps34
  go_wp2_with fail
  refine (HP.out).mono ?_
  rintro x w1 ⟨rfl, hb1⟩
  go_wp2_with fail
  go_ret
  exact ⟨rfl, hb1⟩
end Go.Proofs.YtjapgpmoojfhnaaGreatDoor
