/- The reference: Bits at the format single. -/
import Derived.Test.YtjapgpmoojfhnaaGreatDoorWalkZI
namespace Go.Proofs.YtjapgpmoojfhnaaGreatDoor
open Go.RowKit Go.Lib

set_option maxRecDepth 100000 in
theorem refformat32 (w : World) : Calls Tryz.prog 44 #[.int .i64 32] w fun x w' => x = .returned (.tuple #[.int .i64 24, .int .i64 (-149), .int .i64 128]) ∧ w' = w := by
  go_enter Tryz.func44, Tryz.ntmps44
  go_wp2_with fail
  refine bodyPost_ret (v := .tuple #[.int .i64 24, .int .i64 (-149), .int .i64 128]) (by simp [results, Tryz.results44, go_sem]) rfl ?_
  exact ⟨rfl, rfl⟩
set_option maxHeartbeats 1000000 in
set_option maxRecDepth 100000 in
theorem refbits_nan32 (n : Bool) (m e : Int) (w : World) : Calls Tryz.prog 28 #[.agg #[.int .i64 2, .bool n, .int .u64 m, .int .i64 e], .int .i64 32] w fun x w' => x = .returned (.tuple #[.int .u64 2143289344, .bool true]) ∧ Below w.heap.size w w' := by
  obtain ⟨w2, X, hw2, hX, hb2, hcells⟩ := box_float 2 n m e w
  have FO := Lib.hid (fun W => refformat32 W)
  have HW2 := Lib.hid hw2
  have HX := Lib.hid hX
  obtain ⟨x0, x1, x2, x3, _⟩ := hcells w2 (Below.refl _ _)
  clear hcells hw2 hX
  go_enter Tryz.func28, Tryz.ntmps28
  go_upto_region 1 with fail
  rw [HW2.out, HX.out]
  go_wp2_with fail
  refine (FO.out _).mono ?_
  rintro x w1 ⟨rfl, rfl⟩
  go_wp2_with fail
  go_ret2
  exact ⟨rfl, hb2⟩
set_option maxHeartbeats 1000000 in
set_option maxRecDepth 100000 in
theorem refbits_inf32 (n : Bool) (m e : Int) (w : World) : Calls Tryz.prog 28 #[.agg #[.int .i64 1, .bool n, .int .u64 m, .int .i64 e], .int .i64 32] w fun x w' => x = .returned (.tuple #[.int .u64 (((if n = true then 2147483648 else 0) + 2139095040 : Nat) : Int), .bool true]) ∧ Below w.heap.size w w' := by
  obtain ⟨w2, X, hw2, hX, hb2, hcells⟩ := box_float 1 n m e w
  have FO := Lib.hid (fun W => refformat32 W)
  have HW2 := Lib.hid hw2
  have HX := Lib.hid hX
  obtain ⟨x0, x1, x2, x3, _⟩ := hcells w2 (Below.refl _ _)
  clear hcells hw2 hX
  cases n
  all_goals
    go_enter Tryz.func28, Tryz.ntmps28
    go_upto_region 1 with fail
    rw [HW2.out, HX.out]
    go_wp2_with fail
    refine (FO.out _).mono ?_
    rintro x w1 ⟨rfl, rfl⟩
    go_wp2_with fail
    go_ret2
    exact ⟨rfl, hb2⟩
set_option maxHeartbeats 1000000 in
set_option maxRecDepth 100000 in
theorem refbits_zero32 (n : Bool) (w : World) : Calls Tryz.prog 28 #[.agg #[.int .i64 0, .bool n, .int .u64 0, .int .i64 0], .int .i64 32] w fun x w' => x = .returned (.tuple #[.int .u64 ((if n = true then 2147483648 else 0 : Nat) : Int), .bool true]) ∧ Below w.heap.size w w' := by
  obtain ⟨w2, X, hw2, hX, hb2, hcells⟩ := box_float 0 n 0 0 w
  have FO := Lib.hid (fun W => refformat32 W)
  have HW2 := Lib.hid hw2
  have HX := Lib.hid hX
  obtain ⟨x0, x1, x2, x3, _⟩ := hcells w2 (Below.refl _ _)
  clear hcells hw2 hX
  cases n
  all_goals
    go_enter Tryz.func28, Tryz.ntmps28
    go_upto_region 1 with fail
    rw [HW2.out, HX.out]
    go_wp2_with fail
    refine (FO.out _).mono ?_
    rintro x w1 ⟨rfl, rfl⟩
    go_wp2_with fail
    go_ret2
    exact ⟨rfl, hb2⟩
set_option maxHeartbeats 4000000 in
set_option maxRecDepth 100000 in
theorem refbits_num32 (sb : Bool) (m : Nat) (e : Int) (w : World) (s3 : 0 < m) (s4 : m < 9007199254740992) (b1 : m.log2 ≤ 52) (b2 : -1074 ≤ e) (b3 : e ≤ 1023) (b4 : e + (m.log2 + 1 : Nat) ≤ 1024) :
    Calls Tryz.prog 28 #[.agg #[.int .i64 0, .bool sb, .int .u64 (m : Int), .int .i64 e], .int .i64 32] w fun x w' => x = .returned (.tuple #[.int .u64 (((if sb = true then 2147483648 else 0) + Ieee.Format.nearest Ieee.single false m e : Nat) : Int), .bool (Fl.exP Ieee.single m e)]) ∧ Below w.heap.size w w' := by
  obtain ⟨w2, Y, hw2, hY, hb2, hcells⟩ := box_float 0 sb (m : Int) e w
  have FO := Lib.hid (fun W => refformat32 W)
  have BL := fun W => bitlen_any m W (by omega)
  rw [Fl.bitLen_log2 m (by omega) (by omega)] at BL
  obtain ⟨L, hLL⟩ : ∃ L, m.log2 + 1 = L := ⟨_, rfl⟩
  rw [hLL] at BL
  obtain ⟨U, hU⟩ : ∃ U, Fl.lastP Ieee.single m e = U := ⟨_, rfl⟩
  obtain ⟨K, hK⟩ : ∃ K, Fl.keptP Ieee.single m e = K := ⟨_, rfl⟩
  obtain ⟨X, hX⟩ : ∃ X, Fl.wholeP Ieee.single m e = X := ⟨_, rfl⟩
  obtain ⟨N, hN⟩ : ∃ N, Ieee.Format.nearest Ieee.single false m e = N := ⟨_, rfl⟩
  obtain ⟨Z, hZ⟩ : ∃ Z, Fl.exP Ieee.single m e = Z := ⟨_, rfl⟩
  obtain ⟨d1, d2, d3, d4, d5⟩ := Fl.single_is
  have hUm : U = max (e + (L : Int) - 24) (-149) := by rw [← hU, ← hLL]; unfold Fl.lastP; rw [d3, d4]; omega
  obtain ⟨p1, p2, p3⟩ := Fl.kept_le Ieee.single m e (by omega)
  have ns := Fl.near_small (f := Ieee.single) (m := m) (e := e) (by omega) (by rw [d1, d2]; decide)
  have nb := fun B => Fl.near_big (f := Ieee.single) (m := m) (e := e) (B := B) (by omega)
  rw [d4, hK] at p1
  rw [d4, hK, hU] at p2
  rw [d4, d3, hK, hU] at p3
  rw [hK, d2, hN, hZ, hX] at ns
  simp only [hK, d1, d2, d3, hU, hN, hZ, hX] at nb
  rw [hN, hZ]
  have hKd : K = if U ≤ e then m * 2 ^ (e - U).toNat else Fl.rnd m (U - e).toNat := by rw [← hK, ← hU]; rfl
  have hXd : X = (decide (U ≤ e) || (m % 2 ^ (U - e).toNat == 0)) := by rw [← hX, ← hU]; rfl
  have k2 : IntKind.i64.wrap (e + (L : Int)) = e + (L : Int) := IntWalk.i64_in _ (by omega)
  have k3 : IntKind.i64.wrap (e + (L : Int) - 24) = e + (L : Int) - 24 := IntWalk.i64_in _ (by omega)
  have km : ((m : Int) == 0) = false := by rw [beq_eq_false_iff_ne]; omega
  obtain ⟨sg, hsg⟩ : ∃ sg : Nat, (if sb = true then 2147483648 else 0) = sg := ⟨_, rfl⟩
  rw [hsg]
  have hsgc : sg = 0 ∨ sg = 2147483648 := by rw [← hsg]; split <;> omega
  have HF := Lib.hid (And.intro hUm (And.intro p1 (And.intro p2 (And.intro p3 (And.intro ns nb)))))
  have HK := Lib.hid (And.intro hKd hXd)
  have HB := Lib.hid (And.intro s3 (And.intro s4 (And.intro b1 (And.intro b2 (And.intro b3 (And.intro b4 (And.intro hLL hsgc)))))))
  have HSG := Lib.hid (show (sb = true → sg = 2147483648) ∧ (sb = false → sg = 0) by
    rw [← hsg]
    cases sb
    · exact ⟨fun h => (nomatch h), fun _ => rfl⟩
    · exact ⟨fun _ => rfl, fun h => (nomatch h)⟩)
  have BL := Lib.hid BL
  obtain ⟨x0, x1, x2, x3, hd2⟩ := hcells w2 (Below.refl _ _)
  have HW2 := Lib.hid hw2
  have HY := Lib.hid hY
  have HC := Lib.hid hcells
  have HB2 := Lib.hid hb2
  clear hcells hw2 hY hb2 s3 s4 b1 b2 b3 b4 hLL hU hK hX hN hZ d1 d2 d3 d4 d5 hUm p1 p2 p3 ns nb hKd hXd hsg hsgc
  go_enter Tryz.func28, Tryz.ntmps28
  go_upto_region 1 with fail
  rw [HW2.out, HY.out]
  go_wp2_with fail
  refine (FO.out _).mono ?_
  rintro x w1 ⟨rfl, rfl⟩
  go_upto_if 43 with fail
  go_cut [10] (fun s wx => s = .int .u64 (sg : Int) ∧ wx = w1)
  case first =>
    cases sb with
    | true =>
      have E := Lib.hid (HSG.out.1 rfl)
      go_wp2_with fail
      go_meet
      exact ⟨by rw [E.out]; rfl, rfl⟩
    | false =>
      have E := Lib.hid (HSG.out.2 rfl)
      go_wp2_with fail
      go_meet
      exact ⟨by rw [E.out]; rfl, rfl⟩
  case rest =>
    obtain ⟨rfl, hw⟩ := hcut
    subst hw
    obtain ⟨w5, hw5⟩ : ∃ W, W = wc := ⟨_, rfl⟩
    subst hw5
    go_upto_region 12 with fail
    go_region_held3 (fun W => W.cell? ⟨Y, 0, none⟩ = some (.int .i64 0) ∧ W.cell? ⟨Y, 1, none⟩ = some (.bool sb) ∧ W.cell? ⟨Y, 2, none⟩ = some (.int .u64 (m : Int)) ∧ W.cell? ⟨Y, 3, none⟩ = some (.int .i64 e) ∧ Below w5.heap.size w5 W)
      ((refine HC.out _ ?_; first | assumption | exact b_drew hd2 | exact b_drew (by assumption)))
      (first | (go_at_call 69; refine (BL.out _).mono ?_; rintro x w3 ⟨rfl, rfl⟩))
    rw [← HF.out.1]
    have hbE : Below w.heap.size w w5.drew := HB2.out.drew
    have HBE := Lib.hid hbE
    clear hbE
    by_cases hfar : 60 < U - e
    · obtain ⟨r1, r2, r3, r4, r5, r6, r7, r8⟩ := HB.out
      obtain ⟨f1, f2, f3, f4, f5, f6⟩ := HF.out
      obtain ⟨c, hc⟩ : ∃ c : Nat, (U - e).toNat = c := ⟨_, rfl⟩
      have hp : m < 2 ^ (c - 1) := Nat.lt_of_lt_of_le r2 (Nat.le_trans (by decide : 9007199254740992 ≤ 2 ^ 60) (Nat.pow_le_pow_right (by decide) (by omega)))
      have hK0 : K = 0 := by rw [HK.out.1, if_neg (by omega), hc]; exact Fl.rnd_far hp (by omega)
      have hX0 : X = false := by
        rw [HK.out.2, decide_eq_false (by omega), hc, Nat.mod_eq_of_lt (Nat.lt_of_lt_of_le hp (Nat.pow_le_pow_right (by decide) (by omega)))]
        rw [Bool.false_or, beq_eq_false_iff_ne]; omega
      obtain ⟨n1, n2⟩ := f5 (by omega)
      have q0 : decide (U ≤ e) = false := decide_eq_false (by omega)
      have q1 : IntKind.i64.wrap (U - e) = U - e := IntWalk.i64_in _ (by omega)
      have q2 : decide (60 < U - e) = true := decide_eq_true hfar
      have E1 := Lib.hid (show sg + N = sg by omega)
      have E2 := Lib.hid (n2.trans hX0)
      clear r1 r2 r3 r4 r5 r6 r7 r8 f1 f2 f3 f4 f5 f6 hc hp hK0 hX0 n1 n2 hfar
      go_wp2_with fail
      go_ret2
      exact ⟨by rw [E1.out, E2.out]; rfl, HBE.out⟩
    · obtain ⟨ub, hub⟩ : ∃ ub, decide (U ≤ e) = ub := ⟨_, rfl⟩
      have HFAR := Lib.hid hfar
      clear hfar
      go_upto_if 73 with fail
      go_cut [12, 13, 14, 15, 16] (fun s12 s13 _ _ _ wx => s12 = .int .u64 (K : Int) ∧ s13 = .bool X ∧ wx = w5.drew)
      case first =>
        obtain ⟨r1, r2, r3, r4, r5, r6, r7, r8⟩ := HB.out
        obtain ⟨f1, f2, f3, f4, _, _⟩ := HF.out
        have hKX := HK.out
        cases ub with
        | true =>
          have hUe : U ≤ e := of_decide_eq_true hub
          obtain ⟨d, hd⟩ : ∃ d : Nat, (e - U).toNat = d := ⟨_, rfl⟩
          have hK' : K = m * 2 ^ d := by rw [hKX.1, if_pos hUe, hd]
          have hK2 := f3 hUe
          have q1 : IntKind.i64.wrap (e - U) = (d : Int) := by rw [show e - U = (d : Int) by omega]; exact IntWalk.i64_in _ (by omega)
          have q2 : IntKind.u64.wrap ((m : Int) * 2 ^ d) = (K : Int) := by
            have h : (m : Int) * 2 ^ d = (K : Int) := by rw [hK']; simp
            rw [h, IntKind.wrap_u64]; omega
          have q3 : min d 64 = d := by omega
          have q4 : IntKind.u64.wrap (d : Int) = (d : Int) := by rw [IntKind.wrap_u64]; omega
          have E := Lib.hid (show X = true by rw [hKX.2, decide_eq_true hUe]; rfl)
          clear hUe hd hK' hK2 r1 r2 r3 r4 r5 r6 r7 r8 f1 f2 f3 f4 hKX
          go_wp2_with fail
          go_meet
          exact ⟨rfl, by rw [E.out], rfl⟩
        | false =>
          have hUe : ¬ U ≤ e := of_decide_eq_false hub
          have hfar := HFAR.out
          obtain ⟨c, hc⟩ : ∃ c : Nat, (U - e).toNat = c := ⟨_, rfl⟩
          have hc60 : c ≤ 60 := by omega
          have hc1 : 1 ≤ c := by omega
          obtain ⟨R, hR⟩ : ∃ R, m % 2 ^ c = R := ⟨_, rfl⟩
          obtain ⟨Q, hQ⟩ : ∃ Q, m / 2 ^ c = Q := ⟨_, rfl⟩
          obtain ⟨H, hH⟩ : ∃ H, 2 ^ (c - 1) = H := ⟨_, rfl⟩
          obtain ⟨PP, hPP⟩ : ∃ PP, 2 ^ c = PP := ⟨_, rfl⟩
          have hKQ : K = Q + (if H < R ∨ (R = H ∧ Q % 2 = 1) then 1 else 0) := by rw [hKX.1, if_neg hUe, hc, ← hR, ← hQ, ← hH]; rfl
          have hX' : X = (R == 0) := by rw [hKX.2, decide_eq_false hUe, hc, hR]; rfl
          have hPP0 : 0 < PP := by rw [← hPP]; exact Nat.two_pow_pos _
          have hPPle : PP ≤ 1152921504606846976 := by rw [← hPP]; exact Nat.le_trans (Nat.pow_le_pow_right (by decide) hc60) (by decide)
          have hHP : PP = 2 * H := by rw [← hPP, ← hH, ← Nat.pow_succ']; congr 1; omega
          have hRm : R < PP := by rw [← hR, ← hPP]; exact Nat.mod_lt _ (Nat.two_pow_pos _)
          have hQm : Q ≤ m := by rw [← hQ]; exact Nat.div_le_self _ _
          have g0 : ((2 : Int) ^ c) = (PP : Int) := by rw [← hPP]; simp
          have g1 : (m : Int) / 2 ^ c = (Q : Int) := by rw [g0, ← hQ, hPP]; rfl
          have g2 : IntKind.u64.wrap (2 ^ c) = (PP : Int) := by rw [g0, IntKind.wrap_u64]; omega
          have g3 : (m : Int) % (PP : Int) = (R : Int) := by rw [← hR, hPP]; rfl
          have g3b : Int.tmod (m : Int) (PP : Int) = (R : Int) := by rw [Int.tmod_eq_emod_of_nonneg (by omega)]; exact g3
          have g5 : IntKind.u64.wrap (2 ^ (c - 1)) = (H : Int) := by
            have : ((2 : Int) ^ (c - 1)) = (H : Int) := by rw [← hH]; simp
            rw [this, IntKind.wrap_u64]; omega
          have z0 : ((PP : Int) == 0) = false := by rw [beq_eq_false_iff_ne]; omega
          have z1 : ¬ PP = 0 := by omega
          have g6 : (Q : Int) % 2 = ((Q % 2 : Nat) : Int) := by omega
          have g6b : Int.tmod (Q : Int) 2 = ((Q % 2 : Nat) : Int) := by rw [Int.tmod_eq_emod_of_nonneg (by omega)]; exact g6
          have g7 : ((R : Int) == 0) = (R == 0) := by
            by_cases h : R = 0
            · rw [h]; rfl
            · rw [show (R == 0) = false by rw [beq_eq_false_iff_ne]; exact h, beq_eq_false_iff_ne]; omega
          have g8 : IntKind.u64.wrap ((Q : Int) + 1) = ((Q + 1 : Nat) : Int) := by rw [IntKind.wrap_u64]; omega
          have q1 : IntKind.i64.wrap (U - e) = (c : Int) := by rw [show U - e = (c : Int) by omega]; exact IntWalk.i64_in _ (by omega)
          have q2 : decide (60 < c) = false := decide_eq_false (by omega)
          have q2b : decide ((60 : Int) < (c : Int)) = false := decide_eq_false (by omega)
          have q3 : IntKind.u64.wrap (c : Int) = (c : Int) := by rw [IntKind.wrap_u64]; omega
          have q4 : IntKind.i64.wrap ((c : Int) - 1) = ((c - 1 : Nat) : Int) := by rw [show (c : Int) - 1 = ((c - 1 : Nat) : Int) by omega]; exact IntWalk.i64_in _ (by omega)
          have q5 : IntKind.u64.wrap ((c - 1 : Nat) : Int) = ((c - 1 : Nat) : Int) := by rw [IntKind.wrap_u64]; omega
          have q6 : min c 64 = c := by omega
          have q7 : min (c - 1) 64 = c - 1 := by omega
          obtain ⟨V, hV⟩ : ∃ V, (R == 0) = V := ⟨_, rfl⟩
          rw [hV] at g7 hX'
          obtain ⟨q, hq2⟩ : ∃ q, Q % 2 = q := ⟨_, rfl⟩
          obtain ⟨Q1, hQ1⟩ : ∃ Q1, Q + 1 = Q1 := ⟨_, rfl⟩
          rw [hq2] at g6 g6b hKQ
          rw [hQ1] at g8
          obtain ⟨c1, hc1e⟩ : ∃ c1, c - 1 = c1 := ⟨_, rfl⟩
          rw [hc1e] at q4 q5 q7 g5
          have EX := Lib.hid hX'
          clear hUe hfar hc hR hQ hH hPP hPP0 hPPle hRm hQm g0 hV hX' r1 r2 r3 r4 r5 r6 r7 r8 f1 f2 f3 f4 hKX hc1e
          by_cases a1 : H < R
          · have c2 : decide (H < R) = true := decide_eq_true (by omega)
            have HV := Lib.hid (show K = Q1 by rw [hKQ, if_pos (.inl a1)]; omega)
            clear hKQ a1 hq2 hQ1 hHP
            go_wp2_with fail
            go_meet
            exact ⟨by rw [HV.out], by rw [EX.out], rfl⟩
          · have c2 : decide (H < R) = false := decide_eq_false (by omega)
            by_cases a2 : R = H
            · by_cases a3 : q = 1
              · have HV := Lib.hid (show K = Q1 by rw [hKQ, if_pos (.inr ⟨a2, a3⟩)]; omega)
                subst a2
                subst a3
                clear hKQ a1 hQ1 hHP hq2
                go_wp2_with fail
                go_meet
                exact ⟨by rw [HV.out], by rw [EX.out], rfl⟩
              · have c4 : ((q : Int) == 1) = false := by rw [beq_eq_false_iff_ne]; omega
                have HV := Lib.hid (show K = Q by rw [hKQ, if_neg (by omega)]; omega)
                subst a2
                clear hKQ a1 a3 hq2 hQ1 hHP
                go_wp2_with fail
                go_meet
                exact ⟨by rw [HV.out], by rw [EX.out], rfl⟩
            · have c3 : ((R : Int) == (H : Int)) = false := by rw [beq_eq_false_iff_ne]; omega
              have HV := Lib.hid (show K = Q by rw [hKQ, if_neg (by omega)]; omega)
              clear hKQ a1 a2 hq2 hQ1 hHP
              go_wp2_with fail
              go_meet
              exact ⟨by rw [HV.out], by rw [EX.out], rfl⟩
      case rest =>
        obtain ⟨rfl, rfl, hwE⟩ := hcut
        subst hwE
        obtain ⟨r1, r2, r3, r4, r5, r6, r7, hsgc⟩ := HB.out
        obtain ⟨f1, f2, f3, f4, f5, f6⟩ := HF.out
        by_cases hK0 : K = 0
        · obtain ⟨n1, n2⟩ := f5 (by omega)
          have E2 := Lib.hid n2
          have hN0 : N = 0 := by omega
          subst hN0
          subst hK0
          clear r1 r2 r3 r4 r5 r6 r7 hsgc f1 f2 f3 f4 f5 f6 n1 n2
          go_wp2_with fail
          go_ret2
          exact ⟨by rw [E2.out]; exact congrArg (fun z => Ending.returned (Value.tuple #[Value.int IntKind.u64 z, Value.bool X])) (show (sg : Int) = (sg : Int) + ((0 : Nat) : Int) by simp), HBE.out⟩
        · have kz : ((K : Int) == 0) = false := by rw [beq_eq_false_iff_ne]; omega
          have BK := fun W => bitlen_any K W (by omega)
          rw [Fl.bitLen_log2 K (by omega) (by omega)] at BK
          obtain ⟨LK, hLK⟩ : ∃ LK, K.log2 + 1 = LK := ⟨_, rfl⟩
          rw [hLK] at BK
          have BK := Lib.hid BK
          obtain ⟨kb, hkb⟩ : ∃ kb, decide (K = 16777216) = kb := ⟨_, rfl⟩
          have ckb : decide ((24 : Int) < (LK : Int)) = kb := by
            rw [← hkb]
            by_cases h : K = 16777216
            · rw [decide_eq_true h, decide_eq_true]
              rw [← hLK, h]
              decide
            · rw [decide_eq_false h, decide_eq_false]
              have : K.log2 < 24 := (Nat.log2_lt (by omega)).2 (by show K < 16777216; omega)
              omega
          have ckb2 : decide (24 < LK) = kb := by rw [← ckb]; exact decide_eq_decide.2 (by omega)
          obtain ⟨K1, hK1⟩ : ∃ K1, (if K = 16777216 then 8388608 else K) = K1 := ⟨_, rfl⟩
          obtain ⟨U1, hU1⟩ : ∃ U1, (if K = 16777216 then U + 1 else U) = U1 := ⟨_, rfl⟩
          have HQ := Lib.hid (And.intro hkb (And.intro hK1 (And.intro hU1 hK0)))
          clear r1 r2 r3 r4 r5 r6 r7 hsgc f1 f2 f3 f4 f5 f6 hkb hK1 hU1 hK0 hLK
          go_wp2_with fail
          refine (BK.out _).mono ?_
          rintro x w7 ⟨rfl, rfl⟩
          go_upto_if 125 with fail
          go_cut [11, 12] (fun s11 s12 wx => s11 = .int .i64 U1 ∧ s12 = .int .u64 (K1 : Int) ∧ wx = w5.drew)
          case first =>
            obtain ⟨r1, r2, r3, r4, r5, r6, r7, hsgc⟩ := HB.out
            obtain ⟨f1, f2, f3, f4, f5, f6⟩ := HF.out
            obtain ⟨hkb, hK1, hU1, hK0⟩ := HQ.out
            cases kb with
            | true =>
              have hKe : K = 16777216 := of_decide_eq_true hkb
              have E1 := Lib.hid (show K1 = 8388608 by rw [← hK1, if_pos hKe])
              have E2 := Lib.hid (show U1 = U + 1 by rw [← hU1, if_pos hKe])
              have q1 : IntKind.i64.wrap (U + 1) = U + 1 := IntWalk.i64_in _ (by omega)
              have q2 : Int.tdiv (K : Int) 2 = 8388608 := by rw [hKe]; decide
              have q3 : (K : Int) / 2 = 8388608 := by rw [hKe]; decide
              clear hK1 hU1 hK0 hKe r1 r2 r3 r4 r5 r6 r7 hsgc f1 f2 f3 f4 f5 f6 hkb
              go_wp2_with fail
              go_meet
              exact ⟨by rw [E2.out], by rw [E1.out]; rfl, rfl⟩
            | false =>
              have hKe : K ≠ 16777216 := of_decide_eq_false hkb
              have E1 := Lib.hid (show K1 = K by rw [← hK1, if_neg hKe])
              have E2 := Lib.hid (show U1 = U by rw [← hU1, if_neg hKe])
              clear hK1 hU1 hK0 hKe r1 r2 r3 r4 r5 r6 r7 hsgc f1 f2 f3 f4 f5 f6 hkb
              go_wp2_with fail
              go_meet
              exact ⟨by rw [E2.out], by rw [E1.out], rfl⟩
          case rest =>
            obtain ⟨rfl, rfl, hwE⟩ := hcut
            subst hwE
            obtain ⟨r1, r2, r3, r4, r5, r6, r7, hsgc⟩ := HB.out
            obtain ⟨f1, f2, f3, f4, f5, f6⟩ := HF.out
            obtain ⟨hkb, hK1, hU1, hK0⟩ := HQ.out
            have hK10 : K1 ≠ 0 ∧ K1 < 16777216 := by rw [← hK1]; split <;> omega
            have B1 := fun W => bitlen_any K1 W (by omega)
            rw [Fl.bitLen_log2 K1 (by omega) (by omega)] at B1
            obtain ⟨L1, hL1⟩ : ∃ L1, K1.log2 + 1 = L1 := ⟨_, rfl⟩
            rw [hL1] at B1
            have B1 := Lib.hid B1
            by_cases hsm : K < 8388608
            · have g1 : K1 = K := by rw [← hK1, if_neg (by omega)]
              have hUl : U1 = -149 := by rw [← hU1, if_neg (by omega)]; omega
              have hL1b : L1 ≤ 23 := by
                have : K1.log2 < 23 := (Nat.log2_lt hK10.1).2 (by show K1 < 8388608; omega)
                omega
              have m1 : IntKind.i64.wrap (U1 + (L1 : Int)) = U1 + (L1 : Int) := IntWalk.i64_in _ (by omega)
              have c1 : decide ((128 : Int) < U1 + (L1 : Int)) = false := decide_eq_false (by omega)
              have c2 : decide ((L1 : Int) < 24) = true := decide_eq_true (by omega)
              have c3 : decide (L1 < 24) = true := decide_eq_true (by omega)
              obtain ⟨n1, n2⟩ := f5 hsm
              obtain ⟨Y1, hY1⟩ : ∃ Y1, sg + K1 = Y1 := ⟨_, rfl⟩
              have m2 : IntKind.u64.wrap ((sg : Int) + (K1 : Int)) = (Y1 : Int) := by rw [IntKind.wrap_u64]; omega
              have E1 := Lib.hid (show sg + N = Y1 by omega)
              have E2 := Lib.hid n2
              clear hK1 hU1 hkb hK0 hK10 hL1 r1 r2 r3 r4 r5 r6 r7 hsgc f1 f2 f3 f4 f5 f6 hsm g1 hUl hL1b n1 n2 hY1
              go_wp2_with fail
              refine (B1.out _).mono ?_
              rintro x w8 ⟨rfl, rfl⟩
              go_wp2_with fail
              refine (B1.out _).mono ?_
              rintro x w9 ⟨rfl, rfl⟩
              go_wp2_with fail
              go_ret2
              exact ⟨by rw [E1.out, E2.out]; rfl, HBE.out⟩
            · have hK1b : 8388608 ≤ K1 := by rw [← hK1]; split <;> omega
              have hL1b : L1 = 24 := by
                have h1 : K1.log2 < 24 := (Nat.log2_lt hK10.1).2 (by show K1 < 16777216; omega)
                have h2 : 23 ≤ K1.log2 := (Nat.le_log2 hK10.1).2 (by show 8388608 ≤ K1; omega)
                omega
              obtain ⟨u1, hu1⟩ : ∃ u1 : Nat, U1 + 149 + 1 = (u1 : Int) := ⟨(U1 + 149 + 1).toNat, by rw [← hU1]; split <;> omega⟩
              have hu1b : u1 ≤ 2200 := by rw [← hU1] at hu1; split at hu1 <;> omega
              obtain ⟨Y0, hY0⟩ : ∃ Y0, u1 * 8388608 = Y0 := ⟨_, rfl⟩
              obtain ⟨Y1, hY1⟩ : ∃ Y1, Y0 + K1 = Y1 := ⟨_, rfl⟩
              obtain ⟨B, hB⟩ : ∃ B, Y1 - 8388608 = B := ⟨_, rfl⟩
              have hBf : (U - -149).toNat * 8388608 + K = B := by
                obtain ⟨v, hv⟩ : ∃ v, (U - -149).toNat = v := ⟨_, rfl⟩
                rw [hv]
                refine rung_sum ?_ hY0 hY1 hB
                by_cases hKe : K = 16777216
                · rw [if_pos hKe] at hK1 hU1
                  exact .inl ⟨hKe, hK1.symm, by clear hY0 hY1 hB f5 f6; omega⟩
                · rw [if_neg hKe] at hK1 hU1
                  exact .inr ⟨hK1.symm, by clear hY0 hY1 hB f5 f6; omega⟩
              have hfit : u1 ≤ 2047 ∨ 32 < 64 := by
                first
                | exact .inr (by decide)
                | (left; rw [← hU1] at hu1; split at hu1 <;> omega)
              have m1 : IntKind.i64.wrap (U1 + (L1 : Int)) = U1 + 24 := by rw [hL1b]; exact IntWalk.i64_in _ (by omega)
              have c2 : decide ((L1 : Int) < 24) = false := decide_eq_false (by omega)
              have c3 : decide (L1 < 24) = false := decide_eq_false (by omega)
              have n0 := f6 B hBf
              by_cases hov : 128 < U1 + 24
              · have hbig : 2139095040 ≤ B := by clear f5 f6 n0 hBf; omega
                obtain ⟨n1, n2⟩ := n0.1 hbig
                have c1 : decide ((128 : Int) < U1 + 24) = true := decide_eq_true hov
                obtain ⟨Y2, hY2⟩ : ∃ Y2, sg + 2139095040 = Y2 := ⟨_, rfl⟩
                have m2 : IntKind.u64.wrap ((sg : Int) + 2139095040) = (Y2 : Int) := by rw [IntKind.wrap_u64]; omega
                have E1 := Lib.hid (show sg + N = Y2 by omega)
                have E2 := Lib.hid n2
                clear hK1 hU1 hkb hK0 hK10 hL1 r1 r2 r3 r4 r5 r6 r7 hsgc f1 f2 f3 f4 f5 f6 hsm hK1b hL1b hu1 hu1b hY0 hY1 hB hBf hfit n0 n1 n2 hov hbig hY2
                go_wp2_with fail
                refine (B1.out _).mono ?_
                rintro x w8 ⟨rfl, rfl⟩
                go_wp2_with fail
                go_ret2
                exact ⟨by rw [E1.out, E2.out]; rfl, HBE.out⟩
              · have hbig : B < 2139095040 := by clear f5 f6 n0 hBf; omega
                obtain ⟨n1, n2⟩ := n0.2 hbig
                have c1 : decide ((128 : Int) < U1 + 24) = false := decide_eq_false hov
                have t1 : IntKind.i64.wrap (U1 + 149) = U1 + 149 := IntWalk.i64_in _ (by omega)
                have t2 : IntKind.i64.wrap (U1 + 149 + 1) = (u1 : Int) := by rw [hu1]; exact IntWalk.i64_in _ (by omega)
                have t3 : IntKind.u64.wrap (u1 : Int) = (u1 : Int) := by rw [IntKind.wrap_u64]; omega
                have t4 : IntKind.u64.wrap ((u1 : Int) * 8388608) = (Y0 : Int) := by rw [IntKind.wrap_u64]; omega
                have t5 : IntKind.u64.wrap (Y0 : Int) = (Y0 : Int) := by rw [IntKind.wrap_u64]; omega
                obtain ⟨Y3, hY3⟩ : ∃ Y3, sg + Y0 = Y3 := ⟨_, rfl⟩
                obtain ⟨Y4, hY4⟩ : ∃ Y4, Y3 + K1 = Y4 := ⟨_, rfl⟩
                obtain ⟨Y5, hY5⟩ : ∃ Y5, sg + B = Y5 := ⟨_, rfl⟩
                have t6 : IntKind.u64.wrap ((sg : Int) + (Y0 : Int)) = (Y3 : Int) := by clear f5 f6 n0 hBf; rw [IntKind.wrap_u64]; omega
                have t7 : IntKind.u64.wrap ((Y3 : Int) + (K1 : Int)) = (Y4 : Int) := by clear f5 f6 n0 hBf; rw [IntKind.wrap_u64]; omega
                have t8 : IntKind.u64.wrap ((Y4 : Int) - 8388608) = (Y5 : Int) := by clear f5 f6 n0 hBf; rw [IntKind.wrap_u64]; omega
                have E1 := Lib.hid (show sg + N = Y5 by omega)
                have E2 := Lib.hid n2
                clear hK1 hU1 hkb hK0 hK10 hL1 r1 r2 r3 r4 r5 r6 r7 hsgc f1 f2 f3 f4 f5 f6 hsm hK1b hL1b hu1 hu1b hY0 hY1 hB hBf hfit n0 n1 n2 hov hbig hY3 hY4 hY5
                go_wp2_with fail
                refine (B1.out _).mono ?_
                rintro x w8 ⟨rfl, rfl⟩
                go_wp2_with fail
                refine (B1.out _).mono ?_
                rintro x w9 ⟨rfl, rfl⟩
                go_wp2_with fail
                go_ret2
                exact ⟨by rw [E1.out, E2.out]; rfl, HBE.out⟩
end Go.Proofs.YtjapgpmoojfhnaaGreatDoor
