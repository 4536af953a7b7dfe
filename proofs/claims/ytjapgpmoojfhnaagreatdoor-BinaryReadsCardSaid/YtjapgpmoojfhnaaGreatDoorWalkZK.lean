/- The reference: FromBits at sixteen and thirty-two bits. -/
import Derived.Test.YtjapgpmoojfhnaaGreatDoorLaw6
namespace Go.Proofs.YtjapgpmoojfhnaaGreatDoor
open Go.RowKit Go.Lib

/-- Two odd numbers that are the same. -/
theorem Fl.odd_unique {a b : Nat} {i j : Int} (h : Fl.Same a i b j) (ha : a % 2 = 1) (hb : b % 2 = 1) : a = b ∧ i = j := by
  rcases h with ⟨d, h1, h2⟩ | ⟨d, h1, h2⟩
  · cases d with
    | zero => simp at h1; exact ⟨h1, by omega⟩
    | succ d => rw [Nat.pow_succ, ← Nat.mul_assoc] at h1; omega
  · cases d with
    | zero => simp at h1; exact ⟨h1.symm, by omega⟩
    | succ d => rw [Nat.pow_succ, ← Nat.mul_assoc] at h1; omega
theorem odd_part {M : Nat} (h0 : 0 < M) (h : M < 18446744073709551616) : ∃ c z : Nat, c % 2 = 1 ∧ z < 64 ∧ M = c * 2 ^ z := by
  obtain ⟨k, h1, h2⟩ := tz_spec h0 h
  exact ⟨2 * k + 1, tzN M, by omega, h2, by rw [Nat.mul_comm]; exact h1⟩
set_option maxHeartbeats 2000000 in
set_option maxRecDepth 100000 in
theorem reffrom16 (b : Nat) (hb : b < 65536) (w : World) :
    Calls Tryz.prog 13 #[.int .u64 (b : Int), .int .i64 16] w fun x w' => x = .returned (Fl.refF (Fl.wideW Fl.half b)) ∧ Below w.heap.size w w' := by
  have FO := Lib.hid (fun W => refformat16 W)
  obtain ⟨d1, d2, d3, d4, d5⟩ := Fl.half_is
  have hfm : Fl.Fmt Fl.half := by unfold Fl.Fmt; simp
  obtain ⟨v1, v2, v3⟩ := Fl.wideW_mod hfm b
  obtain ⟨F, hF⟩ : ∃ F, b % 1024 = F := ⟨_, rfl⟩
  obtain ⟨S, hS⟩ : ∃ S, b / 32768 = S := ⟨_, rfl⟩
  obtain ⟨Q, hQ⟩ : ∃ Q, b / 1024 = Q := ⟨_, rfl⟩
  obtain ⟨E, hE⟩ : ∃ E, Q % 32 = E := ⟨_, rfl⟩
  obtain ⟨r, hr⟩ : ∃ r, b % 32768 = r := ⟨_, rfl⟩
  obtain ⟨sb, hsb⟩ : ∃ sb, decide (32768 ≤ b) = sb := ⟨_, rfl⟩
  rw [d5, hr] at v1
  rw [d5] at v2
  have g1 : (b : Int) % 1024 = (F : Int) := by omega
  have g2 : (b : Int) / 32768 = (S : Int) := by omega
  have g3 : (b : Int) / 1024 = (Q : Int) := by omega
  have g4 : ((S : Int) % 2 == 1) = sb := by
    rw [← hsb]
    by_cases h : 32768 ≤ b
    · rw [decide_eq_true h, beq_iff_eq]; omega
    · rw [decide_eq_false h, beq_eq_false_iff_ne]; omega
  have g5 : bits .and .u64 (Q : Int) 31 = (E : Int) := by
    have h1 := u64_and_nat Q 31 (by omega) (by decide)
    have e : Q &&& 31 = Q % 32 := Nat.and_two_pow_sub_one_eq_mod Q 5
    rw [e, hE] at h1
    exact h1
  have hrE : r = E * 1024 + F := by omega
  have hFb : F < 1024 := by omega
  have hEb : E < 32 := by omega
  obtain ⟨V, hV⟩ : ∃ V, Fl.refF (Fl.wideW Fl.half b) = V := ⟨_, rfl⟩
  have hsw : decide (9223372036854775808 ≤ Fl.wideW Fl.half b) = sb := by rw [← hsb]; exact decide_eq_decide.2 v2
  rw [hV]
  unfold Fl.refF at hV
  rw [v1, hsw] at hV
  obtain ⟨w2, hw2⟩ : ∃ w2 : World, w.alloc (.cells #[.int .i64 0, .bool false, .int .u64 0, .int .i64 0] 24) = w2 := ⟨_, rfl⟩
  obtain ⟨X, hX⟩ : ∃ X, w.heap.size = X := ⟨_, rfl⟩
  have hXc := heap_alloc_new w (.cells #[.int .i64 0, .bool false, .int .u64 0, .int .i64 0] 24)
  have hb2 : Below X w w2 := by rw [← hw2, ← hX]; exact (Below.refl _ _).alloc (Nat.le_refl _) _
  rw [hw2, hX] at hXc
  have HW2 := Lib.hid hw2
  have HX := Lib.hid hX
  clear hw2 hX hF hS hQ hE hr hsb hb hsw v1 v2 v3
  by_cases h1 : E = 31
  · subst h1
    by_cases h2 : F = 0
    · subst h2
      rw [show r = Ieee.Format.infRung Fl.half by rw [d1]; omega, Fl.wide_inf, if_neg (by omega), if_pos rfl] at hV
      have HV := Lib.hid hV.symm
      have z0 := at_block hXc 0 _ rfl
      have z1 := at_block hXc 1 _ rfl
      have z2 := at_block hXc 2 _ rfl
      have z3 := at_block hXc 3 _ rfl
      have f0 := free_block hXc 0
      have f1 := free_block hXc 1
      have f2 := free_block hXc 2
      have f3 := free_block hXc 3
      clear hXc hV hrE hFb hEb d1 d2 d3 d4 d5 hfm
      go_enter Tryz.func13, Tryz.ntmps13
      go_wp2_with fail
      rw [HW2.out, HX.out]
      refine (FO.out _).mono ?_
      rintro x w1 ⟨rfl, rfl⟩
      go_wp2_with fail
      refine bodyPost_ret (v := .agg #[.int .i64 1, .bool sb, .int .u64 0, .int .i64 0]) (by simp [results, Tryz.results13, go_sem, z0, z1, z2, z3]) rfl ?_
      refine ⟨by rw [HV.out], ?_⟩
      rw [HX.out]
      exact (((hb2.setCell (p := ⟨X, 0, none⟩) (Nat.le_refl _) _).setCell (p := ⟨X, 1, none⟩) (Nat.le_refl _) _).setCell (p := ⟨X, 2, none⟩) (Nat.le_refl _) _).setCell (p := ⟨X, 3, none⟩) (Nat.le_refl _) _
    · rw [Fl.wide_nan (by rw [d1]; omega), if_pos (by decide)] at hV
      have HV := Lib.hid hV.symm
      have k1 : ((F : Int) != 0) = true := by rw [bne_iff_ne]; omega
      have k2 : ((F : Int) == 0) = false := by rw [beq_eq_false_iff_ne]; omega
      have z0 := at_block hXc 0 _ rfl
      have z1 := at_block hXc 1 _ rfl
      have z2 := at_block hXc 2 _ rfl
      have z3 := at_block hXc 3 _ rfl
      have f0 := free_block hXc 0
      have f1 := free_block hXc 1
      have f2 := free_block hXc 2
      have f3 := free_block hXc 3
      clear hXc hV hrE hFb hEb h2 d1 d2 d3 d4 d5 hfm
      go_enter Tryz.func13, Tryz.ntmps13
      go_wp2_with fail
      rw [HW2.out, HX.out]
      refine (FO.out _).mono ?_
      rintro x w1 ⟨rfl, rfl⟩
      go_wp2_with fail
      refine bodyPost_ret (v := .agg #[.int .i64 2, .bool false, .int .u64 0, .int .i64 0]) (by simp [results, Tryz.results13, go_sem, z0, z1, z2, z3]) rfl ?_
      refine ⟨by rw [HV.out], ?_⟩
      rw [HX.out]
      exact (((hb2.setCell (p := ⟨X, 0, none⟩) (Nat.le_refl _) _).setCell (p := ⟨X, 1, none⟩) (Nat.le_refl _) _).setCell (p := ⟨X, 2, none⟩) (Nat.le_refl _) _).setCell (p := ⟨X, 3, none⟩) (Nat.le_refl _) _
  · have k1 : ((E : Int) == 31) = false := by rw [beq_eq_false_iff_ne]; omega
    by_cases hr0 : r = 0
    · rw [hr0, Fl.wide_zero hfm, if_neg (by omega), if_neg (by omega), if_pos rfl] at hV
      have hE0 : E = 0 := by omega
      have hF0 : F = 0 := by omega
      subst hE0
      subst hF0
      obtain ⟨cc, hcc⟩ : ∃ cc : Nat, cc = 0 := ⟨_, rfl⟩
      obtain ⟨ee, hee⟩ : ∃ ee : Int, ee = 0 := ⟨_, rfl⟩
      have HV := Lib.hid (show V = .agg #[.int .i64 0, .bool sb, .int .u64 (cc : Int), .int .i64 ee] by rw [← hV, hcc, hee]; rfl)
      have OD : ∀ W, Calls Tryz.prog 45 #[.bool sb, .int .u64 0, .int .i64 (-24)] W fun x w' => x = .returned (.agg #[.int .i64 0, .bool sb, .int .u64 (cc : Int), .int .i64 ee]) ∧ Below W.heap.size W w' := fun W => by
        rw [hcc, hee]
        exact odd_zero sb (-24) W
      have HQ := Lib.hid hXc
      have OD := Lib.hid OD
      clear hXc hV hrE hFb hEb hcc hee h1 hr0 d1 d2 d3 d4 d5 hfm
      go_enter Tryz.func13, Tryz.ntmps13
      go_wp2_with fail
      rw [HW2.out, HX.out]
      refine (FO.out _).mono ?_
      rintro x w1 ⟨rfl, rfl⟩
      go_wp2_with fail
      refine (OD.out _).mono ?_
      rintro x w3 ⟨rfl, hb3⟩
      have q3 := (hb3.block X (lt_of_block HQ.out)).trans HQ.out
      have hbz := hb2.trans (hb3.mono (by have := lt_of_block HQ.out; omega))
      have z0 := at_block q3 0 _ rfl
      have z1 := at_block q3 1 _ rfl
      have z2 := at_block q3 2 _ rfl
      have z3 := at_block q3 3 _ rfl
      have f0 := free_block q3 0
      have f1 := free_block q3 1
      have f2 := free_block q3 2
      have f3 := free_block q3 3
      clear q3
      go_wp2_with fail
      refine bodyPost_ret (v := .agg #[.int .i64 0, .bool sb, .int .u64 (cc : Int), .int .i64 ee]) (by simp [results, Tryz.results13, go_sem, z0, z1, z2, z3]) rfl ?_
      refine ⟨by rw [HV.out], ?_⟩
      rw [HX.out]
      exact (((hbz.setCell (p := ⟨X, 0, none⟩) (Nat.le_refl _) _).setCell (p := ⟨X, 1, none⟩) (Nat.le_refl _) _).setCell (p := ⟨X, 2, none⟩) (Nat.le_refl _) _).setCell (p := ⟨X, 3, none⟩) (Nat.le_refl _) _
    · obtain ⟨s1, s2, s3⟩ := Fl.wide_is hfm (r := r) (by omega) (by rw [d1]; omega)
      rw [if_neg (by omega), if_neg (by omega), if_neg (by omega)] at hV
      have ODD : ∀ M p, Fl.rmag Fl.half r = M → Fl.rplace Fl.half r = p → ∀ W, Calls Tryz.prog 45 #[.bool sb, .int .u64 (M : Int), .int .i64 p] W fun x w' => x = .returned (.agg #[.int .i64 0, .bool sb, .int .u64 (Fl.om (Fl.wide Fl.half r) : Int), .int .i64 (Fl.oe (Fl.wide Fl.half r))]) ∧ Below W.heap.size W w' := by
        intro M p hM hp W
        rw [hM, hp] at s3
        have hM0 : 0 < M := by rw [← hM]; exact Fl.rmag_pos (by omega)
        have hM2 : M < 9007199254740992 := by rw [← hM]; exact Nat.lt_of_lt_of_le (Fl.rmag_lt Fl.half r) (by decide)
        have hpb : -10000 ≤ p ∧ p ≤ 10000 := by
          rw [← hp]
          unfold Fl.rplace
          rw [d2, d3]
          split <;> omega
        obtain ⟨c, z, hc, hz, hMc⟩ := odd_part hM0 (by omega)
        have h := odd_pos sb c z p W hc hz (by rw [← hMc]; exact hM2) hpb
        obtain ⟨_, o2, o3, _⟩ := Fl.om_spec s1
        obtain ⟨u1, u2⟩ := Fl.odd_unique (Fl.same_trans (Fl.same_trans (.inr ⟨z, hMc, rfl⟩) s3) (Fl.same_symm (Fl.om_same s1))) hc o2
        rw [← hMc, u1, u2] at h
        exact h
      by_cases h2 : E = 0
      · subst h2
        have eM : Fl.rmag Fl.half r = F := by unfold Fl.rmag; rw [d2, if_pos (by omega)]; omega
        have eP : Fl.rplace Fl.half r = -24 := by unfold Fl.rplace; rw [d2, if_pos (by omega), d3]
        have OD := ODD F (-24) eM eP
        obtain ⟨cc, hcc⟩ : ∃ cc : Nat, Fl.om (Fl.wide Fl.half r) = cc := ⟨_, rfl⟩
        obtain ⟨ee, hee⟩ : ∃ ee : Int, Fl.oe (Fl.wide Fl.half r) = ee := ⟨_, rfl⟩
        rw [hcc, hee] at OD hV
        have HV := Lib.hid hV.symm
        have HQ := Lib.hid hXc
        have OD := Lib.hid OD
        clear hXc hV hrE hFb hEb hcc hee h1 ODD hr0 eM eP s1 s2 s3 d1 d2 d3 d4 d5 hfm
        go_enter Tryz.func13, Tryz.ntmps13
        go_wp2_with fail
        rw [HW2.out, HX.out]
        refine (FO.out _).mono ?_
        rintro x w1 ⟨rfl, rfl⟩
        go_wp2_with fail
        refine (OD.out _).mono ?_
        rintro x w3 ⟨rfl, hb3⟩
        have q3 := (hb3.block X (lt_of_block HQ.out)).trans HQ.out
        have hbz := hb2.trans (hb3.mono (by have := lt_of_block HQ.out; omega))
        have z0 := at_block q3 0 _ rfl
        have z1 := at_block q3 1 _ rfl
        have z2 := at_block q3 2 _ rfl
        have z3 := at_block q3 3 _ rfl
        have f0 := free_block q3 0
        have f1 := free_block q3 1
        have f2 := free_block q3 2
        have f3 := free_block q3 3
        clear q3
        go_wp2_with fail
        refine bodyPost_ret (v := .agg #[.int .i64 0, .bool sb, .int .u64 (cc : Int), .int .i64 ee]) (by simp [results, Tryz.results13, go_sem, z0, z1, z2, z3]) rfl ?_
        refine ⟨by rw [HV.out], ?_⟩
        rw [HX.out]
        exact (((hbz.setCell (p := ⟨X, 0, none⟩) (Nat.le_refl _) _).setCell (p := ⟨X, 1, none⟩) (Nat.le_refl _) _).setCell (p := ⟨X, 2, none⟩) (Nat.le_refl _) _).setCell (p := ⟨X, 3, none⟩) (Nat.le_refl _) _
      · have k2 : ((E : Int) == 0) = false := by rw [beq_eq_false_iff_ne]; omega
        obtain ⟨M, hM⟩ : ∃ M, F + 1024 = M := ⟨_, rfl⟩
        obtain ⟨P, hP⟩ : ∃ P : Int, -24 + (E : Int) - 1 = P := ⟨_, rfl⟩
        have hdiv : r / 1024 = E := by omega
        have hmod : r % 1024 = F := by omega
        have eM : Fl.rmag Fl.half r = M := by unfold Fl.rmag; rw [d2, if_neg (by omega), hmod]; omega
        have eP : Fl.rplace Fl.half r = P := by unfold Fl.rplace; rw [d2, if_neg (by omega), d3, hdiv]; omega
        have m1 : IntKind.u64.wrap ((F : Int) + 1024) = (M : Int) := by rw [IntKind.wrap_u64]; omega
        have m2 : IntKind.i64.wrap (E : Int) = (E : Int) := IntWalk.i64_in _ (by omega)
        have m3 : IntKind.i64.wrap (-24 + (E : Int)) = -24 + (E : Int) := IntWalk.i64_in _ (by omega)
        have m4 : IntKind.i64.wrap (-24 + (E : Int) - 1) = P := by rw [← hP]; exact IntWalk.i64_in _ (by omega)
        have OD := ODD M P eM eP
        obtain ⟨cc, hcc⟩ : ∃ cc : Nat, Fl.om (Fl.wide Fl.half r) = cc := ⟨_, rfl⟩
        obtain ⟨ee, hee⟩ : ∃ ee : Int, Fl.oe (Fl.wide Fl.half r) = ee := ⟨_, rfl⟩
        rw [hcc, hee] at OD hV
        have HV := Lib.hid hV.symm
        have HQ := Lib.hid hXc
        have OD := Lib.hid OD
        clear hXc hV hrE hFb hEb hcc hee h1 h2 ODD hr0 eM eP hM hP hdiv hmod s1 s2 s3 d1 d2 d3 d4 d5 hfm
        go_enter Tryz.func13, Tryz.ntmps13
        go_wp2_with fail
        rw [HW2.out, HX.out]
        refine (FO.out _).mono ?_
        rintro x w1 ⟨rfl, rfl⟩
        go_wp2_with fail
        refine (OD.out _).mono ?_
        rintro x w3 ⟨rfl, hb3⟩
        have q3 := (hb3.block X (lt_of_block HQ.out)).trans HQ.out
        have hbz := hb2.trans (hb3.mono (by have := lt_of_block HQ.out; omega))
        have z0 := at_block q3 0 _ rfl
        have z1 := at_block q3 1 _ rfl
        have z2 := at_block q3 2 _ rfl
        have z3 := at_block q3 3 _ rfl
        have f0 := free_block q3 0
        have f1 := free_block q3 1
        have f2 := free_block q3 2
        have f3 := free_block q3 3
        clear q3
        go_wp2_with fail
        refine bodyPost_ret (v := .agg #[.int .i64 0, .bool sb, .int .u64 (cc : Int), .int .i64 ee]) (by simp [results, Tryz.results13, go_sem, z0, z1, z2, z3]) rfl ?_
        refine ⟨by rw [HV.out], ?_⟩
        rw [HX.out]
        exact (((hbz.setCell (p := ⟨X, 0, none⟩) (Nat.le_refl _) _).setCell (p := ⟨X, 1, none⟩) (Nat.le_refl _) _).setCell (p := ⟨X, 2, none⟩) (Nat.le_refl _) _).setCell (p := ⟨X, 3, none⟩) (Nat.le_refl _) _
set_option maxHeartbeats 2000000 in
set_option maxRecDepth 100000 in
theorem reffrom32 (b : Nat) (hb : b < 4294967296) (w : World) :
    Calls Tryz.prog 13 #[.int .u64 (b : Int), .int .i64 32] w fun x w' => x = .returned (Fl.refF (Fl.wideW Ieee.single b)) ∧ Below w.heap.size w w' := by
  have FO := Lib.hid (fun W => refformat32 W)
  obtain ⟨d1, d2, d3, d4, d5⟩ := Fl.single_is
  have hfm : Fl.Fmt Ieee.single := by unfold Fl.Fmt; simp
  obtain ⟨v1, v2, v3⟩ := Fl.wideW_mod hfm b
  obtain ⟨F, hF⟩ : ∃ F, b % 8388608 = F := ⟨_, rfl⟩
  obtain ⟨S, hS⟩ : ∃ S, b / 2147483648 = S := ⟨_, rfl⟩
  obtain ⟨Q, hQ⟩ : ∃ Q, b / 8388608 = Q := ⟨_, rfl⟩
  obtain ⟨E, hE⟩ : ∃ E, Q % 256 = E := ⟨_, rfl⟩
  obtain ⟨r, hr⟩ : ∃ r, b % 2147483648 = r := ⟨_, rfl⟩
  obtain ⟨sb, hsb⟩ : ∃ sb, decide (2147483648 ≤ b) = sb := ⟨_, rfl⟩
  rw [d5, hr] at v1
  rw [d5] at v2
  have g1 : (b : Int) % 8388608 = (F : Int) := by omega
  have g2 : (b : Int) / 2147483648 = (S : Int) := by omega
  have g3 : (b : Int) / 8388608 = (Q : Int) := by omega
  have g4 : ((S : Int) % 2 == 1) = sb := by
    rw [← hsb]
    by_cases h : 2147483648 ≤ b
    · rw [decide_eq_true h, beq_iff_eq]; omega
    · rw [decide_eq_false h, beq_eq_false_iff_ne]; omega
  have g5 : bits .and .u64 (Q : Int) 255 = (E : Int) := by
    have h1 := u64_and_nat Q 255 (by omega) (by decide)
    have e : Q &&& 255 = Q % 256 := Nat.and_two_pow_sub_one_eq_mod Q 8
    rw [e, hE] at h1
    exact h1
  have hrE : r = E * 8388608 + F := by omega
  have hFb : F < 8388608 := by omega
  have hEb : E < 256 := by omega
  obtain ⟨V, hV⟩ : ∃ V, Fl.refF (Fl.wideW Ieee.single b) = V := ⟨_, rfl⟩
  have hsw : decide (9223372036854775808 ≤ Fl.wideW Ieee.single b) = sb := by rw [← hsb]; exact decide_eq_decide.2 v2
  rw [hV]
  unfold Fl.refF at hV
  rw [v1, hsw] at hV
  obtain ⟨w2, hw2⟩ : ∃ w2 : World, w.alloc (.cells #[.int .i64 0, .bool false, .int .u64 0, .int .i64 0] 24) = w2 := ⟨_, rfl⟩
  obtain ⟨X, hX⟩ : ∃ X, w.heap.size = X := ⟨_, rfl⟩
  have hXc := heap_alloc_new w (.cells #[.int .i64 0, .bool false, .int .u64 0, .int .i64 0] 24)
  have hb2 : Below X w w2 := by rw [← hw2, ← hX]; exact (Below.refl _ _).alloc (Nat.le_refl _) _
  rw [hw2, hX] at hXc
  have HW2 := Lib.hid hw2
  have HX := Lib.hid hX
  clear hw2 hX hF hS hQ hE hr hsb hb hsw v1 v2 v3
  by_cases h1 : E = 255
  · subst h1
    by_cases h2 : F = 0
    · subst h2
      rw [show r = Ieee.Format.infRung Ieee.single by rw [d1]; omega, Fl.wide_inf, if_neg (by omega), if_pos rfl] at hV
      have HV := Lib.hid hV.symm
      have z0 := at_block hXc 0 _ rfl
      have z1 := at_block hXc 1 _ rfl
      have z2 := at_block hXc 2 _ rfl
      have z3 := at_block hXc 3 _ rfl
      have f0 := free_block hXc 0
      have f1 := free_block hXc 1
      have f2 := free_block hXc 2
      have f3 := free_block hXc 3
      clear hXc hV hrE hFb hEb d1 d2 d3 d4 d5 hfm
      go_enter Tryz.func13, Tryz.ntmps13
      go_wp2_with fail
      rw [HW2.out, HX.out]
      refine (FO.out _).mono ?_
      rintro x w1 ⟨rfl, rfl⟩
      go_wp2_with fail
      refine bodyPost_ret (v := .agg #[.int .i64 1, .bool sb, .int .u64 0, .int .i64 0]) (by simp [results, Tryz.results13, go_sem, z0, z1, z2, z3]) rfl ?_
      refine ⟨by rw [HV.out], ?_⟩
      rw [HX.out]
      exact (((hb2.setCell (p := ⟨X, 0, none⟩) (Nat.le_refl _) _).setCell (p := ⟨X, 1, none⟩) (Nat.le_refl _) _).setCell (p := ⟨X, 2, none⟩) (Nat.le_refl _) _).setCell (p := ⟨X, 3, none⟩) (Nat.le_refl _) _
    · rw [Fl.wide_nan (by rw [d1]; omega), if_pos (by decide)] at hV
      have HV := Lib.hid hV.symm
      have k1 : ((F : Int) != 0) = true := by rw [bne_iff_ne]; omega
      have k2 : ((F : Int) == 0) = false := by rw [beq_eq_false_iff_ne]; omega
      have z0 := at_block hXc 0 _ rfl
      have z1 := at_block hXc 1 _ rfl
      have z2 := at_block hXc 2 _ rfl
      have z3 := at_block hXc 3 _ rfl
      have f0 := free_block hXc 0
      have f1 := free_block hXc 1
      have f2 := free_block hXc 2
      have f3 := free_block hXc 3
      clear hXc hV hrE hFb hEb h2 d1 d2 d3 d4 d5 hfm
      go_enter Tryz.func13, Tryz.ntmps13
      go_wp2_with fail
      rw [HW2.out, HX.out]
      refine (FO.out _).mono ?_
      rintro x w1 ⟨rfl, rfl⟩
      go_wp2_with fail
      refine bodyPost_ret (v := .agg #[.int .i64 2, .bool false, .int .u64 0, .int .i64 0]) (by simp [results, Tryz.results13, go_sem, z0, z1, z2, z3]) rfl ?_
      refine ⟨by rw [HV.out], ?_⟩
      rw [HX.out]
      exact (((hb2.setCell (p := ⟨X, 0, none⟩) (Nat.le_refl _) _).setCell (p := ⟨X, 1, none⟩) (Nat.le_refl _) _).setCell (p := ⟨X, 2, none⟩) (Nat.le_refl _) _).setCell (p := ⟨X, 3, none⟩) (Nat.le_refl _) _
  · have k1 : ((E : Int) == 255) = false := by rw [beq_eq_false_iff_ne]; omega
    by_cases hr0 : r = 0
    · rw [hr0, Fl.wide_zero hfm, if_neg (by omega), if_neg (by omega), if_pos rfl] at hV
      have hE0 : E = 0 := by omega
      have hF0 : F = 0 := by omega
      subst hE0
      subst hF0
      obtain ⟨cc, hcc⟩ : ∃ cc : Nat, cc = 0 := ⟨_, rfl⟩
      obtain ⟨ee, hee⟩ : ∃ ee : Int, ee = 0 := ⟨_, rfl⟩
      have HV := Lib.hid (show V = .agg #[.int .i64 0, .bool sb, .int .u64 (cc : Int), .int .i64 ee] by rw [← hV, hcc, hee]; rfl)
      have OD : ∀ W, Calls Tryz.prog 45 #[.bool sb, .int .u64 0, .int .i64 (-149)] W fun x w' => x = .returned (.agg #[.int .i64 0, .bool sb, .int .u64 (cc : Int), .int .i64 ee]) ∧ Below W.heap.size W w' := fun W => by
        rw [hcc, hee]
        exact odd_zero sb (-149) W
      have HQ := Lib.hid hXc
      have OD := Lib.hid OD
      clear hXc hV hrE hFb hEb hcc hee h1 hr0 d1 d2 d3 d4 d5 hfm
      go_enter Tryz.func13, Tryz.ntmps13
      go_wp2_with fail
      rw [HW2.out, HX.out]
      refine (FO.out _).mono ?_
      rintro x w1 ⟨rfl, rfl⟩
      go_wp2_with fail
      refine (OD.out _).mono ?_
      rintro x w3 ⟨rfl, hb3⟩
      have q3 := (hb3.block X (lt_of_block HQ.out)).trans HQ.out
      have hbz := hb2.trans (hb3.mono (by have := lt_of_block HQ.out; omega))
      have z0 := at_block q3 0 _ rfl
      have z1 := at_block q3 1 _ rfl
      have z2 := at_block q3 2 _ rfl
      have z3 := at_block q3 3 _ rfl
      have f0 := free_block q3 0
      have f1 := free_block q3 1
      have f2 := free_block q3 2
      have f3 := free_block q3 3
      clear q3
      go_wp2_with fail
      refine bodyPost_ret (v := .agg #[.int .i64 0, .bool sb, .int .u64 (cc : Int), .int .i64 ee]) (by simp [results, Tryz.results13, go_sem, z0, z1, z2, z3]) rfl ?_
      refine ⟨by rw [HV.out], ?_⟩
      rw [HX.out]
      exact (((hbz.setCell (p := ⟨X, 0, none⟩) (Nat.le_refl _) _).setCell (p := ⟨X, 1, none⟩) (Nat.le_refl _) _).setCell (p := ⟨X, 2, none⟩) (Nat.le_refl _) _).setCell (p := ⟨X, 3, none⟩) (Nat.le_refl _) _
    · obtain ⟨s1, s2, s3⟩ := Fl.wide_is hfm (r := r) (by omega) (by rw [d1]; omega)
      rw [if_neg (by omega), if_neg (by omega), if_neg (by omega)] at hV
      have ODD : ∀ M p, Fl.rmag Ieee.single r = M → Fl.rplace Ieee.single r = p → ∀ W, Calls Tryz.prog 45 #[.bool sb, .int .u64 (M : Int), .int .i64 p] W fun x w' => x = .returned (.agg #[.int .i64 0, .bool sb, .int .u64 (Fl.om (Fl.wide Ieee.single r) : Int), .int .i64 (Fl.oe (Fl.wide Ieee.single r))]) ∧ Below W.heap.size W w' := by
        intro M p hM hp W
        rw [hM, hp] at s3
        have hM0 : 0 < M := by rw [← hM]; exact Fl.rmag_pos (by omega)
        have hM2 : M < 9007199254740992 := by rw [← hM]; exact Nat.lt_of_lt_of_le (Fl.rmag_lt Ieee.single r) (by decide)
        have hpb : -10000 ≤ p ∧ p ≤ 10000 := by
          rw [← hp]
          unfold Fl.rplace
          rw [d2, d3]
          split <;> omega
        obtain ⟨c, z, hc, hz, hMc⟩ := odd_part hM0 (by omega)
        have h := odd_pos sb c z p W hc hz (by rw [← hMc]; exact hM2) hpb
        obtain ⟨_, o2, o3, _⟩ := Fl.om_spec s1
        obtain ⟨u1, u2⟩ := Fl.odd_unique (Fl.same_trans (Fl.same_trans (.inr ⟨z, hMc, rfl⟩) s3) (Fl.same_symm (Fl.om_same s1))) hc o2
        rw [← hMc, u1, u2] at h
        exact h
      by_cases h2 : E = 0
      · subst h2
        have eM : Fl.rmag Ieee.single r = F := by unfold Fl.rmag; rw [d2, if_pos (by omega)]; omega
        have eP : Fl.rplace Ieee.single r = -149 := by unfold Fl.rplace; rw [d2, if_pos (by omega), d3]
        have OD := ODD F (-149) eM eP
        obtain ⟨cc, hcc⟩ : ∃ cc : Nat, Fl.om (Fl.wide Ieee.single r) = cc := ⟨_, rfl⟩
        obtain ⟨ee, hee⟩ : ∃ ee : Int, Fl.oe (Fl.wide Ieee.single r) = ee := ⟨_, rfl⟩
        rw [hcc, hee] at OD hV
        have HV := Lib.hid hV.symm
        have HQ := Lib.hid hXc
        have OD := Lib.hid OD
        clear hXc hV hrE hFb hEb hcc hee h1 ODD hr0 eM eP s1 s2 s3 d1 d2 d3 d4 d5 hfm
        go_enter Tryz.func13, Tryz.ntmps13
        go_wp2_with fail
        rw [HW2.out, HX.out]
        refine (FO.out _).mono ?_
        rintro x w1 ⟨rfl, rfl⟩
        go_wp2_with fail
        refine (OD.out _).mono ?_
        rintro x w3 ⟨rfl, hb3⟩
        have q3 := (hb3.block X (lt_of_block HQ.out)).trans HQ.out
        have hbz := hb2.trans (hb3.mono (by have := lt_of_block HQ.out; omega))
        have z0 := at_block q3 0 _ rfl
        have z1 := at_block q3 1 _ rfl
        have z2 := at_block q3 2 _ rfl
        have z3 := at_block q3 3 _ rfl
        have f0 := free_block q3 0
        have f1 := free_block q3 1
        have f2 := free_block q3 2
        have f3 := free_block q3 3
        clear q3
        go_wp2_with fail
        refine bodyPost_ret (v := .agg #[.int .i64 0, .bool sb, .int .u64 (cc : Int), .int .i64 ee]) (by simp [results, Tryz.results13, go_sem, z0, z1, z2, z3]) rfl ?_
        refine ⟨by rw [HV.out], ?_⟩
        rw [HX.out]
        exact (((hbz.setCell (p := ⟨X, 0, none⟩) (Nat.le_refl _) _).setCell (p := ⟨X, 1, none⟩) (Nat.le_refl _) _).setCell (p := ⟨X, 2, none⟩) (Nat.le_refl _) _).setCell (p := ⟨X, 3, none⟩) (Nat.le_refl _) _
      · have k2 : ((E : Int) == 0) = false := by rw [beq_eq_false_iff_ne]; omega
        obtain ⟨M, hM⟩ : ∃ M, F + 8388608 = M := ⟨_, rfl⟩
        obtain ⟨P, hP⟩ : ∃ P : Int, -149 + (E : Int) - 1 = P := ⟨_, rfl⟩
        have hdiv : r / 8388608 = E := by omega
        have hmod : r % 8388608 = F := by omega
        have eM : Fl.rmag Ieee.single r = M := by unfold Fl.rmag; rw [d2, if_neg (by omega), hmod]; omega
        have eP : Fl.rplace Ieee.single r = P := by unfold Fl.rplace; rw [d2, if_neg (by omega), d3, hdiv]; omega
        have m1 : IntKind.u64.wrap ((F : Int) + 8388608) = (M : Int) := by rw [IntKind.wrap_u64]; omega
        have m2 : IntKind.i64.wrap (E : Int) = (E : Int) := IntWalk.i64_in _ (by omega)
        have m3 : IntKind.i64.wrap (-149 + (E : Int)) = -149 + (E : Int) := IntWalk.i64_in _ (by omega)
        have m4 : IntKind.i64.wrap (-149 + (E : Int) - 1) = P := by rw [← hP]; exact IntWalk.i64_in _ (by omega)
        have OD := ODD M P eM eP
        obtain ⟨cc, hcc⟩ : ∃ cc : Nat, Fl.om (Fl.wide Ieee.single r) = cc := ⟨_, rfl⟩
        obtain ⟨ee, hee⟩ : ∃ ee : Int, Fl.oe (Fl.wide Ieee.single r) = ee := ⟨_, rfl⟩
        rw [hcc, hee] at OD hV
        have HV := Lib.hid hV.symm
        have HQ := Lib.hid hXc
        have OD := Lib.hid OD
        clear hXc hV hrE hFb hEb hcc hee h1 h2 ODD hr0 eM eP hM hP hdiv hmod s1 s2 s3 d1 d2 d3 d4 d5 hfm
        go_enter Tryz.func13, Tryz.ntmps13
        go_wp2_with fail
        rw [HW2.out, HX.out]
        refine (FO.out _).mono ?_
        rintro x w1 ⟨rfl, rfl⟩
        go_wp2_with fail
        refine (OD.out _).mono ?_
        rintro x w3 ⟨rfl, hb3⟩
        have q3 := (hb3.block X (lt_of_block HQ.out)).trans HQ.out
        have hbz := hb2.trans (hb3.mono (by have := lt_of_block HQ.out; omega))
        have z0 := at_block q3 0 _ rfl
        have z1 := at_block q3 1 _ rfl
        have z2 := at_block q3 2 _ rfl
        have z3 := at_block q3 3 _ rfl
        have f0 := free_block q3 0
        have f1 := free_block q3 1
        have f2 := free_block q3 2
        have f3 := free_block q3 3
        clear q3
        go_wp2_with fail
        refine bodyPost_ret (v := .agg #[.int .i64 0, .bool sb, .int .u64 (cc : Int), .int .i64 ee]) (by simp [results, Tryz.results13, go_sem, z0, z1, z2, z3]) rfl ?_
        refine ⟨by rw [HV.out], ?_⟩
        rw [HX.out]
        exact (((hbz.setCell (p := ⟨X, 0, none⟩) (Nat.le_refl _) _).setCell (p := ⟨X, 1, none⟩) (Nat.le_refl _) _).setCell (p := ⟨X, 2, none⟩) (Nat.le_refl _) _).setCell (p := ⟨X, 3, none⟩) (Nat.le_refl _) _
end Go.Proofs.YtjapgpmoojfhnaaGreatDoor
