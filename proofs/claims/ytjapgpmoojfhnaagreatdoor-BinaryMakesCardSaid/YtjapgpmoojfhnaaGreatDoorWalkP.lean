/- The reference: FromBits at 64 bits. -/
import Derived.Test.YtjapgpmoojfhnaaGreatDoorWalkO
namespace Go.Proofs.YtjapgpmoojfhnaaGreatDoor
open Go.RowKit Go.Lib

set_option maxRecDepth 100000 in
theorem format64 (w : World) : Calls Tryz.prog 44 #[.int .i64 64] w fun x w' => x = .returned (.tuple #[.int .i64 53, .int .i64 (-1074), .int .i64 1024]) ∧ w' = w := by
  go_enter Tryz.func44, Tryz.ntmps44
  go_wp2_with fail
  refine bodyPost_ret (v := .tuple #[.int .i64 53, .int .i64 (-1074), .int .i64 1024]) (by simp [results, Tryz.results44, go_sem]) rfl ?_
  exact ⟨rfl, rfl⟩
namespace Fl
/-- The float of a word, as the reference tells it. -/
def refF (b : Nat) : Value :=
  if 9218868437227405312 < b % 9223372036854775808 then .agg #[.int .i64 2, .bool false, .int .u64 0, .int .i64 0] else
  if b % 9223372036854775808 = 9218868437227405312 then .agg #[.int .i64 1, .bool (decide (9223372036854775808 ≤ b)), .int .u64 0, .int .i64 0] else
  if b % 9223372036854775808 = 0 then .agg #[.int .i64 0, .bool (decide (9223372036854775808 ≤ b)), .int .u64 0, .int .i64 0] else
  .agg #[.int .i64 0, .bool (decide (9223372036854775808 ≤ b)), .int .u64 (om (b % 9223372036854775808) : Int), .int .i64 (oe (b % 9223372036854775808))]
end Fl
set_option maxHeartbeats 2000000 in
set_option maxRecDepth 100000 in
theorem fromBits64 (b : Nat) (hb : b < 18446744073709551616) (w : World) :
    Calls Tryz.prog 13 #[.int .u64 (b : Int), .int .i64 64] w fun x w' => x = .returned (Fl.refF b) ∧ Below w.heap.size w w' := by
  have FO := Lib.hid (fun W => format64 W)
  obtain ⟨F, hF⟩ : ∃ F, b % 4503599627370496 = F := ⟨_, rfl⟩
  obtain ⟨S, hS⟩ : ∃ S, b / 9223372036854775808 = S := ⟨_, rfl⟩
  obtain ⟨Q, hQ⟩ : ∃ Q, b / 4503599627370496 = Q := ⟨_, rfl⟩
  obtain ⟨E, hE⟩ : ∃ E, Q % 2048 = E := ⟨_, rfl⟩
  obtain ⟨r, hr⟩ : ∃ r, b % 9223372036854775808 = r := ⟨_, rfl⟩
  obtain ⟨sb, hsb⟩ : ∃ sb, decide (9223372036854775808 ≤ b) = sb := ⟨_, rfl⟩
  have g1 : (b : Int) % 4503599627370496 = (F : Int) := by omega
  have g2 : (b : Int) / 9223372036854775808 = (S : Int) := by omega
  have g3 : (b : Int) / 4503599627370496 = (Q : Int) := by omega
  have g4 : ((S : Int) % 2 == 1) = sb := by
    rw [← hsb]
    by_cases h : 9223372036854775808 ≤ b
    · rw [decide_eq_true h, beq_iff_eq]; omega
    · rw [decide_eq_false h, beq_eq_false_iff_ne]; omega
  have g5 : bits .and .u64 (Q : Int) 2047 = (E : Int) := by
    have h1 := u64_and_nat Q 2047 (by omega) (by decide)
    have e : Q &&& 2047 = Q % 2048 := Nat.and_two_pow_sub_one_eq_mod Q 11
    rw [e, hE] at h1
    exact h1
  have hrE : r = E * 4503599627370496 + F := by omega
  have hFb : F < 4503599627370496 := by omega
  have hEb : E < 2048 := by omega
  obtain ⟨V, hV⟩ : ∃ V, Fl.refF b = V := ⟨_, rfl⟩
  rw [hV]
  unfold Fl.refF at hV
  rw [hr, hsb] at hV
  obtain ⟨w2, hw2⟩ : ∃ w2 : World, w.alloc (.cells #[.int .i64 0, .bool false, .int .u64 0, .int .i64 0] 24) = w2 := ⟨_, rfl⟩
  obtain ⟨X, hX⟩ : ∃ X, w.heap.size = X := ⟨_, rfl⟩
  have hXc := heap_alloc_new w (.cells #[.int .i64 0, .bool false, .int .u64 0, .int .i64 0] 24)
  have hb2 : Below X w w2 := by rw [← hw2, ← hX]; exact (Below.refl _ _).alloc (Nat.le_refl _) _
  rw [hw2, hX] at hXc
  have HW2 := Lib.hid hw2
  have HX := Lib.hid hX
  clear hw2 hX hF hS hQ hE hr hsb hb
  by_cases h1 : E = 2047
  · subst h1
    by_cases h2 : F = 0
    · subst h2
      rw [if_neg (by omega), if_pos (by omega)] at hV
      have HV := Lib.hid hV.symm
      have z0 := at_block hXc 0 _ rfl
      have z1 := at_block hXc 1 _ rfl
      have z2 := at_block hXc 2 _ rfl
      have z3 := at_block hXc 3 _ rfl
      have f0 := free_block hXc 0
      have f1 := free_block hXc 1
      have f2 := free_block hXc 2
      have f3 := free_block hXc 3
      clear hXc hV hrE hFb hEb
      go_enter Tryz.func13, Tryz.ntmps13
      go_wp2_with fail
      rw [HW2.out, HX.out]
      refine (FO.out _).mono ?_
      rintro x w1 ⟨rfl, rfl⟩
      go_wp2_with fail
      refine bodyPost_ret (v := .agg #[.int .i64 1, .bool sb, .int .u64 0, .int .i64 0]) (by simp [results, Tryz.results13, go_sem, z0, z1, z2, z3]) rfl ?_
      refine ⟨by rw [HV.out], ?_⟩
      rw [HX.out]
      exact (((hb2.setCell (p := ⟨X, 0, none⟩) (Nat.le_refl _) _).setCell (p := ⟨X, 1, none⟩) (Nat.le_refl _) _).setCell (p := ⟨X, 2, none⟩) (Nat.le_refl _) _).setCell (p := ⟨X, 3, none⟩) (Nat.le_refl _) _
    · rw [if_pos (by omega)] at hV
      have HV := Lib.hid hV.symm
      have k1 : ((F : Int) != 0) = true := by rw [bne_iff_ne]; omega
      have k2 : ((F : Int) == 0) = false := by rw [beq_eq_false_iff_ne]; omega
      have z0 := at_block hXc 0 _ rfl
      have z1 := at_block hXc 1 _ rfl
      have z2 := at_block hXc 2 _ rfl
      have z3 := at_block hXc 3 _ rfl
      have f0 := free_block hXc 0
      have f1 := free_block hXc 1
      have f2 := free_block hXc 2
      have f3 := free_block hXc 3
      clear hXc hV hrE hFb hEb h2
      go_enter Tryz.func13, Tryz.ntmps13
      go_wp2_with fail
      rw [HW2.out, HX.out]
      refine (FO.out _).mono ?_
      rintro x w1 ⟨rfl, rfl⟩
      go_wp2_with fail
      refine bodyPost_ret (v := .agg #[.int .i64 2, .bool false, .int .u64 0, .int .i64 0]) (by simp [results, Tryz.results13, go_sem, z0, z1, z2, z3]) rfl ?_
      refine ⟨by rw [HV.out], ?_⟩
      rw [HX.out]
      exact (((hb2.setCell (p := ⟨X, 0, none⟩) (Nat.le_refl _) _).setCell (p := ⟨X, 1, none⟩) (Nat.le_refl _) _).setCell (p := ⟨X, 2, none⟩) (Nat.le_refl _) _).setCell (p := ⟨X, 3, none⟩) (Nat.le_refl _) _
  · have k1 : ((E : Int) == 2047) = false := by rw [beq_eq_false_iff_ne]; omega
    rw [if_neg (by omega), if_neg (by omega)] at hV
    have ODD : ∀ M p, 0 < r → Fl.rmag Ieee.double r = M → Fl.rplace Ieee.double r = p → ∀ W, Calls Tryz.prog 45 #[.bool sb, .int .u64 (M : Int), .int .i64 p] W fun x w' => x = .returned (.agg #[.int .i64 0, .bool sb, .int .u64 (Fl.om r : Int), .int .i64 (Fl.oe r)]) ∧ Below W.heap.size W w' := by
      intro M p h0 hM hp W
      obtain ⟨a1, a2, a3, a4⟩ := Fl.om_spec h0
      have hM2 : Fl.rmag Ieee.double r < 9007199254740992 := Fl.rmag_lt Ieee.double r
      have hz : tzN (Fl.rmag Ieee.double r) < 64 := by obtain ⟨_, _, h⟩ := tz_spec (m := Fl.rmag Ieee.double r) (Fl.rmag_pos h0) (by omega); exact h
      have hpb : -10000 ≤ p ∧ p ≤ 10000 := by
        rw [← hp]
        unfold Fl.rplace
        rw [Fl.d_binade, Fl.d_least]
        split <;> omega
      have h := odd_pos sb (Fl.om r) (tzN (Fl.rmag Ieee.double r)) p W a2 hz (by rw [← a1]; exact hM2) hpb
      rw [← a1, hM, show p + ((tzN M : Nat) : Int) = Fl.oe r by unfold Fl.oe; rw [hM, hp]] at h
      exact h
    by_cases h2 : E = 0
    · subst h2
      by_cases h3 : F = 0
      · subst h3
        rw [if_pos (by omega)] at hV
        obtain ⟨cc, hcc⟩ : ∃ cc : Nat, cc = 0 := ⟨_, rfl⟩
        obtain ⟨ee, hee⟩ : ∃ ee : Int, ee = 0 := ⟨_, rfl⟩
        have HV := Lib.hid (show V = .agg #[.int .i64 0, .bool sb, .int .u64 (cc : Int), .int .i64 ee] by rw [← hV, hcc, hee]; rfl)
        have OD : ∀ W, Calls Tryz.prog 45 #[.bool sb, .int .u64 0, .int .i64 (-1074)] W fun x w' => x = .returned (.agg #[.int .i64 0, .bool sb, .int .u64 (cc : Int), .int .i64 ee]) ∧ Below W.heap.size W w' := fun W => by
          rw [hcc, hee]
          exact odd_zero sb (-1074) W
        have HQ := Lib.hid hXc
        have OD := Lib.hid OD
        clear hXc hV hrE hFb hEb hcc hee h1 ODD
        go_enter Tryz.func13, Tryz.ntmps13
        go_wp2_with fail
        rw [HW2.out, HX.out]
        refine (FO.out _).mono ?_
        rintro x w1 ⟨rfl, rfl⟩
        go_wp2_with fail
        refine (OD.out _).mono ?_
        rintro x w3 ⟨rfl, hb3⟩
        have q3 := (hb3.block X (lt_of_block HQ.out)).trans HQ.out
        have hbz := hb2.trans (hb3.mono (by have := lt_of_block HQ.out; omega))
        have z0 := at_block q3 0 _ rfl
        have z1 := at_block q3 1 _ rfl
        have z2 := at_block q3 2 _ rfl
        have z3 := at_block q3 3 _ rfl
        have f0 := free_block q3 0
        have f1 := free_block q3 1
        have f2 := free_block q3 2
        have f3 := free_block q3 3
        clear q3
        go_wp2_with fail
        refine bodyPost_ret (v := .agg #[.int .i64 0, .bool sb, .int .u64 (cc : Int), .int .i64 ee]) (by simp [results, Tryz.results13, go_sem, z0, z1, z2, z3]) rfl ?_
        refine ⟨by rw [HV.out], ?_⟩
        rw [HX.out]
        exact (((hbz.setCell (p := ⟨X, 0, none⟩) (Nat.le_refl _) _).setCell (p := ⟨X, 1, none⟩) (Nat.le_refl _) _).setCell (p := ⟨X, 2, none⟩) (Nat.le_refl _) _).setCell (p := ⟨X, 3, none⟩) (Nat.le_refl _) _
      · rw [if_neg (by omega)] at hV
        have hr0 : 0 < r := by omega
        have eM : Fl.rmag Ieee.double r = F := by unfold Fl.rmag; rw [Fl.d_binade, if_pos (by omega)]; omega
        have eP : Fl.rplace Ieee.double r = -1074 := by unfold Fl.rplace; rw [Fl.d_binade, if_pos (by omega), Fl.d_least]
        have OD := ODD F (-1074) hr0 eM eP
        obtain ⟨cc, hcc⟩ : ∃ cc : Nat, Fl.om r = cc := ⟨_, rfl⟩
        obtain ⟨ee, hee⟩ : ∃ ee : Int, Fl.oe r = ee := ⟨_, rfl⟩
        rw [hcc, hee] at OD hV
        have HV := Lib.hid hV.symm
        have HQ := Lib.hid hXc
        have OD := Lib.hid OD
        clear hXc hV hrE hFb hEb hcc hee h1 h3 ODD hr0 eM eP
        go_enter Tryz.func13, Tryz.ntmps13
        go_wp2_with fail
        rw [HW2.out, HX.out]
        refine (FO.out _).mono ?_
        rintro x w1 ⟨rfl, rfl⟩
        go_wp2_with fail
        refine (OD.out _).mono ?_
        rintro x w3 ⟨rfl, hb3⟩
        have q3 := (hb3.block X (lt_of_block HQ.out)).trans HQ.out
        have hbz := hb2.trans (hb3.mono (by have := lt_of_block HQ.out; omega))
        have z0 := at_block q3 0 _ rfl
        have z1 := at_block q3 1 _ rfl
        have z2 := at_block q3 2 _ rfl
        have z3 := at_block q3 3 _ rfl
        have f0 := free_block q3 0
        have f1 := free_block q3 1
        have f2 := free_block q3 2
        have f3 := free_block q3 3
        clear q3
        go_wp2_with fail
        refine bodyPost_ret (v := .agg #[.int .i64 0, .bool sb, .int .u64 (cc : Int), .int .i64 ee]) (by simp [results, Tryz.results13, go_sem, z0, z1, z2, z3]) rfl ?_
        refine ⟨by rw [HV.out], ?_⟩
        rw [HX.out]
        exact (((hbz.setCell (p := ⟨X, 0, none⟩) (Nat.le_refl _) _).setCell (p := ⟨X, 1, none⟩) (Nat.le_refl _) _).setCell (p := ⟨X, 2, none⟩) (Nat.le_refl _) _).setCell (p := ⟨X, 3, none⟩) (Nat.le_refl _) _
    · rw [if_neg (by omega)] at hV
      have hr0 : 0 < r := by omega
      have k2 : ((E : Int) == 0) = false := by rw [beq_eq_false_iff_ne]; omega
      obtain ⟨M, hM⟩ : ∃ M, F + 4503599627370496 = M := ⟨_, rfl⟩
      obtain ⟨P, hP⟩ : ∃ P : Int, -1074 + (E : Int) - 1 = P := ⟨_, rfl⟩
      have eM : Fl.rmag Ieee.double r = M := by unfold Fl.rmag; rw [Fl.d_binade, if_neg (by omega)]; omega
      have eP : Fl.rplace Ieee.double r = P := by unfold Fl.rplace; rw [Fl.d_binade, if_neg (by omega), Fl.d_least]; omega
      have m1 : IntKind.u64.wrap ((F : Int) + 4503599627370496) = (M : Int) := by rw [IntKind.wrap_u64]; omega
      have m2 : IntKind.i64.wrap (E : Int) = (E : Int) := IntWalk.i64_in _ (by omega)
      have m3 : IntKind.i64.wrap (-1074 + (E : Int)) = -1074 + (E : Int) := IntWalk.i64_in _ (by omega)
      have m4 : IntKind.i64.wrap (-1074 + (E : Int) - 1) = P := by rw [← hP]; exact IntWalk.i64_in _ (by omega)
      have OD := ODD M P hr0 eM eP
      obtain ⟨cc, hcc⟩ : ∃ cc : Nat, Fl.om r = cc := ⟨_, rfl⟩
      obtain ⟨ee, hee⟩ : ∃ ee : Int, Fl.oe r = ee := ⟨_, rfl⟩
      rw [hcc, hee] at OD hV
      have HV := Lib.hid hV.symm
      have HQ := Lib.hid hXc
      have OD := Lib.hid OD
      clear hXc hV hrE hFb hEb hcc hee h1 h2 ODD hr0 eM eP hM hP
      go_enter Tryz.func13, Tryz.ntmps13
      go_wp2_with fail
      rw [HW2.out, HX.out]
      refine (FO.out _).mono ?_
      rintro x w1 ⟨rfl, rfl⟩
      go_wp2_with fail
      refine (OD.out _).mono ?_
      rintro x w3 ⟨rfl, hb3⟩
      have q3 := (hb3.block X (lt_of_block HQ.out)).trans HQ.out
      have hbz := hb2.trans (hb3.mono (by have := lt_of_block HQ.out; omega))
      have z0 := at_block q3 0 _ rfl
      have z1 := at_block q3 1 _ rfl
      have z2 := at_block q3 2 _ rfl
      have z3 := at_block q3 3 _ rfl
      have f0 := free_block q3 0
      have f1 := free_block q3 1
      have f2 := free_block q3 2
      have f3 := free_block q3 3
      clear q3
      go_wp2_with fail
      refine bodyPost_ret (v := .agg #[.int .i64 0, .bool sb, .int .u64 (cc : Int), .int .i64 ee]) (by simp [results, Tryz.results13, go_sem, z0, z1, z2, z3]) rfl ?_
      refine ⟨by rw [HV.out], ?_⟩
      rw [HX.out]
      exact (((hbz.setCell (p := ⟨X, 0, none⟩) (Nat.le_refl _) _).setCell (p := ⟨X, 1, none⟩) (Nat.le_refl _) _).setCell (p := ⟨X, 2, none⟩) (Nat.le_refl _) _).setCell (p := ⟨X, 3, none⟩) (Nat.le_refl _) _
end Go.Proofs.YtjapgpmoojfhnaaGreatDoor
