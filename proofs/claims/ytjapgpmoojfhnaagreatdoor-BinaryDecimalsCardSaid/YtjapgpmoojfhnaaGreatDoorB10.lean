/- Bits of a number that is neither zero nor infinite, at the format single. Bits of a number that is neither zero nor infinite, at the format double. -/
import Derived.Test.YtjapgpmoojfhnaaGreatDoorB09
namespace Go.Proofs.YtjapgpmoojfhnaaGreatDoor
open Go.RowKit Go.Lib

set_option maxHeartbeats 4000000 in
set_option maxRecDepth 100000 in
theorem binbits32 (b : Nat) (hb : b < 18446744073709551616) (w : World) (h0 : 0 < b % 9223372036854775808) (hr : b % 9223372036854775808 < 9218868437227405312) (hL : Laid w) :
    Calls Tryz.prog 27 #[.string ⟨(Fl.txt b).toArray⟩, .int .i64 32] w fun x w' => x = .returned (.tuple #[.int .u64 (((if 9223372036854775808 ≤ b then 2147483648 else 0) + Ieee.Format.nearest Ieee.single false (Fl.om (b % 9223372036854775808)) (Fl.oe (b % 9223372036854775808)) : Nat) : Int), .bool (Fl.exP Ieee.single (Fl.om (b % 9223372036854775808)) (Fl.oe (b % 9223372036854775808))), .int .i64 0]) ∧ Below w.heap.size w w' := by
  have PA := Lib.hid (fun W hW => parse_num b hb W h0 hr hW)
  have OF := Lib.hid (fun W hW => of_32 W hW)
  have SB := Lib.hid (fun W => signbit_any b W hb)
  have II := Lib.hid (fun W => isinf_any b W hb)
  have o1 := ord_self hb
  have o2 := ord_zero hb hr
  obtain ⟨s1, s2, s3, s4⟩ := Fl.om_spec h0
  obtain ⟨b1, b2, b3, b4⟩ := Fl.om_bounds h0 hr
  have SP : ∀ W, Laid W → Calls Tryz.prog 66 #[.float .f64 b] W fun x w' => x = .returned (.tuple #[.int .u64 (Fl.om (b % 9223372036854775808) : Int), .int .i64 (Fl.oe (b % 9223372036854775808))]) ∧ w' = W := fun W hW => split_any b W hb h0 hr hW
  rw [decide_eq_false (by omega)] at o1
  rw [decide_eq_false (by omega)] at o2
  have i0 : (b % 9223372036854775808 == 9218868437227405312) = false := by rw [beq_eq_false_iff_ne]; omega
  rw [i0] at II
  obtain ⟨m, hm⟩ : ∃ m, Fl.om (b % 9223372036854775808) = m := ⟨_, rfl⟩
  obtain ⟨e, he⟩ : ∃ e, Fl.oe (b % 9223372036854775808) = e := ⟨_, rfl⟩
  rw [hm] at s2 s3 s4 b1 b4 SP
  rw [he] at b2 b3 b4 SP
  rw [hm, he]
  have LN : ∀ W, Calls Tryz.prog 67 #[.int .u64 (m : Int)] W fun x w' => x = .returned (.int .i64 ((m.log2 + 1 : Nat) : Int)) ∧ w' = W := fun W => by
    have h := Tryz.bits_Len64 (m : Int) W (by omega) (by omega)
    rw [Int.toNat_natCast, Fl.bitLen_log2 m (by omega) (by omega)] at h
    exact h
  obtain ⟨L, hLL⟩ : ∃ L, m.log2 + 1 = L := ⟨_, rfl⟩
  rw [hLL] at LN
  obtain ⟨U, hU⟩ : ∃ U, Fl.lastP Ieee.single m e = U := ⟨_, rfl⟩
  obtain ⟨K, hK⟩ : ∃ K, Fl.keptP Ieee.single m e = K := ⟨_, rfl⟩
  obtain ⟨X, hX⟩ : ∃ X, Fl.wholeP Ieee.single m e = X := ⟨_, rfl⟩
  obtain ⟨N, hN⟩ : ∃ N, Ieee.Format.nearest Ieee.single false m e = N := ⟨_, rfl⟩
  obtain ⟨Z, hZ⟩ : ∃ Z, Fl.exP Ieee.single m e = Z := ⟨_, rfl⟩
  obtain ⟨d1, d2, d3, d4, d5⟩ := Fl.single_is
  have hUm : U = max (e + (L : Int) - 24) (-149) := by rw [← hU, ← hLL]; unfold Fl.lastP; rw [d3, d4]; omega
  obtain ⟨p1, p2, p3⟩ := Fl.kept_le Ieee.single m e (by omega)
  have ns := Fl.near_small (f := Ieee.single) (m := m) (e := e) (by omega) (by rw [d1, d2]; decide)
  have nb := fun B => Fl.near_big (f := Ieee.single) (m := m) (e := e) (B := B) (by omega)
  rw [d4, hK] at p1
  rw [d4, hK, hU] at p2
  rw [d4, d3, hK, hU] at p3
  rw [hK, d2, hN, hZ, hX] at ns
  simp only [hK, d1, d2, d3, hU, hN, hZ, hX] at nb
  rw [hN, hZ]
  have hKd : K = if U ≤ e then m * 2 ^ (e - U).toNat else Fl.rnd m (U - e).toNat := by rw [← hK, ← hU]; rfl
  have hXd : X = (decide (U ≤ e) || (m % 2 ^ (U - e).toNat == 0)) := by rw [← hX, ← hU]; rfl
  have HF := Lib.hid (And.intro hUm (And.intro p1 (And.intro p2 (And.intro p3 (And.intro ns nb)))))
  have HK := Lib.hid (And.intro hKd hXd)
  have HB := Lib.hid (And.intro s2 (And.intro s3 (And.intro s4 (And.intro b1 (And.intro b2 (And.intro b3 (And.intro b4 hLL)))))))
  have k2 : IntKind.i64.wrap (e + (L : Int)) = e + (L : Int) := IntWalk.i64_in _ (by omega)
  have k3 : IntKind.i64.wrap (e + (L : Int) - 24) = e + (L : Int) - 24 := IntWalk.i64_in _ (by omega)
  obtain ⟨sb, hsb⟩ : ∃ sb, decide (9223372036854775808 ≤ b) = sb := ⟨_, rfl⟩
  obtain ⟨sg, hsg⟩ : ∃ sg : Nat, (if 9223372036854775808 ≤ b then 2147483648 else 0) = sg := ⟨_, rfl⟩
  rw [hsb] at SB
  rw [hsg]
  have HSG := Lib.hid (show (sb = true → sg = 2147483648) ∧ (sb = false → sg = 0) by
    rw [← hsb, ← hsg]
    by_cases h : 9223372036854775808 ≤ b
    · rw [if_pos h, decide_eq_true h]; exact ⟨fun _ => rfl, fun h => (nomatch h)⟩
    · rw [if_neg h, decide_eq_false h]; exact ⟨fun h => (nomatch h), fun _ => rfl⟩)
  have SP := Lib.hid SP
  have LN := Lib.hid LN
  have HL := Lib.hid hL
  clear hm he hL i0 h0 hr s1 s2 s3 s4 b1 b2 b3 b4 hLL hU hK hX hN hZ d1 d2 d3 d4 d5 hUm p1 p2 p3 ns nb hKd hXd hsb hsg hb
  go_enter Tryz.func27, Tryz.ntmps27
  go_wp2_with fail
  refine (PA.out _ HL.out).mono ?_
  rintro x w1 ⟨rfl, hb1⟩
  go_wp2_with fail
  have hL1 := HL.out.on hb1
  refine (OF.out _ hL1).mono ?_
  rintro x w2 ⟨rfl, hb2⟩
  go_upto_region 5 with fail
  obtain ⟨w3, Y, hw3, hY, hb3, hcells⟩ := box_three 32 24 (-149) w2
  rw [hw3, hY]
  have hc12 := hb1.trans (hb2.mono hb1.size)
  have hc13 := hc12.trans (hb3.mono hc12.size)
  have hL3 := (hL1.on hb2).on hb3
  obtain ⟨x0, x1, x2, hd3⟩ := hcells w3 (Below.refl _ _)
  have HC := Lib.hid hcells
  have HL3 := Lib.hid hL3
  have HB3 := Lib.hid hc13
  clear hcells hw3 hY hb1 hb2 hb3 hc12 hc13 hL1 hL3
  go_wp2_with fail
  refine (SB.out _).mono ?_
  rintro x w4 ⟨rfl, rfl⟩
  go_upto_if 52 with fail
  go_cut [12] (fun s wx => s = .int .u64 (sg : Int) ∧ wx = w4)
  case first =>
    cases sb with
    | true =>
      have E := Lib.hid (HSG.out.1 rfl)
      go_wp2_with fail
      go_meet
      exact ⟨by rw [E.out]; rfl, rfl⟩
    | false =>
      have E := Lib.hid (HSG.out.2 rfl)
      go_wp2_with fail
      go_meet
      exact ⟨by rw [E.out]; rfl, rfl⟩
  case rest =>
    obtain ⟨rfl, hw⟩ := hcut
    subst hw
    obtain ⟨w3, hw3⟩ : ∃ W, W = wc := ⟨_, rfl⟩
    subst hw3
    go_wp2_with fail
    refine (II.out _).mono ?_
    rintro x w4 ⟨rfl, rfl⟩
    go_wp2_with fail
    refine (SP.out _ HL3.out).mono ?_
    rintro x w5 ⟨rfl, rfl⟩
    go_upto_region 19 with fail
    go_region_held3 (fun W => W.cell? ⟨Y, 0, none⟩ = some (.int .i64 32) ∧ W.cell? ⟨Y, 1, none⟩ = some (.int .i64 24) ∧ W.cell? ⟨Y, 2, none⟩ = some (.int .i64 (-149)) ∧ Below w5.heap.size w5 W)
      ((refine HC.out _ ?_; first | assumption | exact b_drew hd3 | exact b_drew (by assumption)))
      (first | (go_at_call 67; refine (LN.out _).mono ?_; rintro x w6 ⟨rfl, rfl⟩))
    rw [← HF.out.1]
    obtain ⟨ub, hub⟩ : ∃ ub, decide (U ≤ e) = ub := ⟨_, rfl⟩
    go_upto_if 82 with fail
    go_cut [13, 16] (fun s13 s16 wx => s13 = .int .u64 (K : Int) ∧ s16 = .bool X ∧ Below w5.heap.size w5 wx)
    case first =>
      obtain ⟨r1, r2, r3, r4, r5, r6, r7, r8⟩ := HB.out
      obtain ⟨f1, f2, f3, f4, _, _⟩ := HF.out
      have hKX := HK.out
      cases ub with
      | true =>
        have hUe : U ≤ e := of_decide_eq_true hub
        obtain ⟨d, hd⟩ : ∃ d : Nat, (e - U).toNat = d := ⟨_, rfl⟩
        have hK' : K = m * 2 ^ d := by rw [hKX.1, if_pos hUe, hd]
        have hK2 := f3 hUe
        have q1 : IntKind.i64.wrap (e - U) = (d : Int) := by rw [show e - U = (d : Int) by omega]; exact IntWalk.i64_in _ (by omega)
        have q2 : IntKind.u64.wrap ((m : Int) * 2 ^ d) = (K : Int) := by
          have h : (m : Int) * 2 ^ d = (K : Int) := by rw [hK']; simp
          rw [h, IntKind.wrap_u64]; omega
        have q3 : min d 64 = d := by omega
        have E := Lib.hid (show X = true by rw [hKX.2, decide_eq_true hUe]; rfl)
        clear hUe hd hK' hK2 r1 r2 r3 r4 r5 r6 r7 r8 f1 f2 f3 f4 hKX
        go_wp2_with fail
        go_meet
        exact ⟨rfl, by rw [E.out], b_drew hd3⟩
      | false =>
        have hUe : ¬ U ≤ e := of_decide_eq_false hub
        obtain ⟨c, hc⟩ : ∃ c : Nat, (U - e).toNat = c := ⟨_, rfl⟩
        have RN := Lib.hid (fun W => round_any m c W (by omega) (by omega) (by omega) (by omega))
        have hX' : X = (m % 2 ^ c == 0) := by rw [hKX.2, decide_eq_false hUe, hc]; rfl
        have hK' : Fl.rnd m c = K := by rw [hKX.1, if_neg hUe, hc]
        rw [hK', ← hX'] at RN
        have q1 : IntKind.i64.wrap (U - e) = (c : Int) := by rw [show U - e = (c : Int) by omega]; exact IntWalk.i64_in _ (by omega)
        clear hUe hc hX' hK' r1 r2 r3 r4 r5 r6 r7 r8 f1 f2 f3 f4 hKX
        go_wp2_with fail
        refine (RN.out _).mono ?_
        rintro x w7 ⟨rfl, hb7⟩
        go_wp2_with fail
        go_meet
        exact ⟨rfl, rfl, (b_drew hd3).trans hb7⟩
    case rest =>
      obtain ⟨rfl, rfl, hbx⟩ := hcut
      obtain ⟨y0, y1, y2, _⟩ := HC.out _ hbx
      have hbE := HB3.out.trans (hbx.mono HB3.out.size)
      have HBE := Lib.hid hbE
      clear hbx hbE x0 x1 x2
      obtain ⟨kb, hkb⟩ : ∃ kb, ((K : Int) == 16777216) = kb := ⟨_, rfl⟩
      obtain ⟨K1, hK1⟩ : ∃ K1, (if K = 16777216 then 8388608 else K) = K1 := ⟨_, rfl⟩
      obtain ⟨U1, hU1⟩ : ∃ U1, (if K = 16777216 then U + 1 else U) = U1 := ⟨_, rfl⟩
      go_upto_if 100 with fail
      go_cut [13, 15] (fun s13 s15 wx => s13 = .int .u64 (K1 : Int) ∧ s15 = .int .i64 U1 ∧ wx = wc)
      case first =>
        obtain ⟨r1, r2, r3, r4, r5, r6, r7, r8⟩ := HB.out
        obtain ⟨f1, f2, f3, f4, _, _⟩ := HF.out
        cases kb with
        | true =>
          have hKe : K = 16777216 := by have := eq_of_beq hkb; omega
          subst hKe
          have E1 := Lib.hid (show K1 = 8388608 by rw [← hK1, if_pos rfl])
          have E2 := Lib.hid (show U1 = U + 1 by rw [← hU1, if_pos rfl])
          have q1 : IntKind.i64.wrap (U + 1) = U + 1 := IntWalk.i64_in _ (by omega)
          clear hK1 hU1 r1 r2 r3 r4 r5 r6 r7 r8 f1 f2 f3 f4 hkb
          go_wp2_with fail
          go_meet
          exact ⟨by rw [E1.out]; rfl, by rw [E2.out], rfl⟩
        | false =>
          have hKe : K ≠ 16777216 := by intro h; rw [h] at hkb; exact absurd hkb (by decide)
          have E1 := Lib.hid (show K1 = K by rw [← hK1, if_neg hKe])
          have E2 := Lib.hid (show U1 = U by rw [← hU1, if_neg hKe])
          clear hK1 hU1 r1 r2 r3 r4 r5 r6 r7 r8 f1 f2 f3 f4 hKe
          go_wp2_with fail
          go_meet
          exact ⟨by rw [E1.out], by rw [E2.out], rfl⟩
      case rest =>
        obtain ⟨rfl, rfl, hwE⟩ := hcut
        subst hwE
        obtain ⟨wE, hwE⟩ : ∃ W, W = wc := ⟨_, rfl⟩
        subst hwE
        obtain ⟨r1, r2, r3, r4, r5, r6, r7, r8⟩ := HB.out
        obtain ⟨f1, f2, f3, f4, f5, f6⟩ := HF.out
        have hsgc : sg = 0 ∨ sg = 2147483648 := by
          cases sb
          · exact .inl (HSG.out.2 rfl)
          · exact .inr (HSG.out.1 rfl)
        have orS : ∀ x : Nat, x < 2147483648 → bits .or .u64 (sg : Int) (x : Int) = ((sg + x : Nat) : Int) := fun x hx => or_sign sg x 31 (by decide) hx hsgc
        by_cases hsm : K < 8388608
        · have g1 : K1 = K := by rw [← hK1, if_neg (by omega)]
          have c5 : decide (K1 < 8388608) = true := decide_eq_true (by omega)
          have c6 : decide ((K1 : Int) < 8388608) = true := decide_eq_true (by omega)
          have o5 := orS K1 (by omega)
          obtain ⟨n1, n2⟩ := f5 hsm
          obtain ⟨Y1, hY1⟩ : ∃ Y1, sg + K1 = Y1 := ⟨_, rfl⟩
          rw [hY1] at o5
          have E1 := Lib.hid (show sg + N = Y1 by omega)
          have E2 := Lib.hid n2
          clear hK1 hU1 hkb r1 r2 r3 r4 r5 r6 r7 r8 f1 f2 f3 f4 f5 f6 hsgc orS hsm g1 n1 n2 hY1
          go_wp2_with fail
          refine bodyPost_ret (v := .tuple #[.int .u64 (Y1 : Int), .bool X, .int .i64 0]) (by simp [results, Tryz.results27, go_sem]) rfl ?_
          exact ⟨by rw [E1.out, E2.out], HBE.out⟩
        · have hK1b : 8388608 ≤ K1 ∧ K1 < 16777216 := by rw [← hK1]; split <;> omega
          obtain ⟨u1, hu1⟩ : ∃ u1 : Nat, U1 + 149 + 1 = (u1 : Int) := ⟨(U1 + 149 + 1).toNat, by rw [← hU1]; split <;> omega⟩
          have hu1b : u1 ≤ 2200 := by rw [← hU1] at hu1; split at hu1 <;> omega
          obtain ⟨Y0, hY0⟩ : ∃ Y0, u1 * 8388608 = Y0 := ⟨_, rfl⟩
          obtain ⟨Y1, hY1⟩ : ∃ Y1, Y0 + K1 = Y1 := ⟨_, rfl⟩
          obtain ⟨B, hB⟩ : ∃ B, Y1 - 8388608 = B := ⟨_, rfl⟩
          have hBf : (U - -149).toNat * 8388608 + K = B := by
            obtain ⟨v, hv⟩ : ∃ v, (U - -149).toNat = v := ⟨_, rfl⟩
            rw [hv]
            refine rung_sum ?_ hY0 hY1 hB
            by_cases hKe : K = 16777216
            · rw [if_pos hKe] at hK1 hU1
              exact .inl ⟨hKe, hK1.symm, by clear hY0 hY1 hB f5 f6; omega⟩
            · rw [if_neg hKe] at hK1 hU1
              exact .inr ⟨hK1.symm, by clear hY0 hY1 hB f5 f6; omega⟩
          have hfit : u1 ≤ 2047 ∨ 32 < 64 := by
            first
            | exact .inr (by decide)
            | (left; rw [← hU1] at hu1; split at hu1 <;> omega)
          have c5 : decide (K1 < 8388608) = false := decide_eq_false (by omega)
          have c6 : decide ((K1 : Int) < 8388608) = false := decide_eq_false (by omega)
          have m1 : IntKind.i64.wrap (U1 + 149) = U1 + 149 := IntWalk.i64_in _ (by omega)
          have m2 : IntKind.i64.wrap (U1 + 149 + 1) = (u1 : Int) := by rw [hu1]; exact IntWalk.i64_in _ (by omega)
          have m3 : IntKind.u64.wrap (u1 : Int) = (u1 : Int) := by rw [IntKind.wrap_u64]; omega
          have m4 : IntKind.u64.wrap ((u1 : Int) * 8388608) = (Y0 : Int) := by rw [IntKind.wrap_u64]; omega
          have m5 : IntKind.u64.wrap (Y0 : Int) = (Y0 : Int) := by rw [IntKind.wrap_u64]; omega
          have m6 : IntKind.u64.wrap ((Y0 : Int) + (K1 : Int)) = (Y1 : Int) := by rw [IntKind.wrap_u64]; omega
          have m7 : IntKind.u64.wrap ((Y1 : Int) - 8388608) = (B : Int) := by rw [IntKind.wrap_u64]; omega
          have n0 := f6 B hBf
          by_cases hbig : 2139095040 ≤ B
          · obtain ⟨n1, n2⟩ := n0.1 hbig
            have c7 : decide (2139095040 ≤ B) = true := decide_eq_true (by omega)
            have c8 : decide ((2139095040 : Int) ≤ (B : Int)) = true := decide_eq_true (by omega)
            have o5 := orS 2139095040 (by decide)
            obtain ⟨Y2, hY2⟩ : ∃ Y2, sg + 2139095040 = Y2 := ⟨_, rfl⟩
            rw [hY2] at o5
            have o6 : bits .or .u64 (sg : Int) 2139095040 = (Y2 : Int) := o5
            have E1 := Lib.hid (show sg + N = Y2 by omega)
            have E2 := Lib.hid n2
            clear hK1 hU1 hkb r1 r2 r3 r4 r5 r6 r7 r8 f1 f2 f3 f4 f5 f6 hsgc orS hsm hK1b hu1 hu1b hY0 hY1 hB hBf hfit n0 n1 n2 hbig hY2 o5
            go_wp2_with fail
            go_quiet (fail)
            go_wp2_with fail
            refine bodyPost_ret (v := .tuple #[.int .u64 (Y2 : Int), .bool false, .int .i64 0]) (by simp [results, Tryz.results27, go_sem]) rfl ?_
            exact ⟨by rw [E1.out, E2.out], below_drewN HBE.out _⟩
          · obtain ⟨n1, n2⟩ := n0.2 (by omega)
            have c7 : decide (2139095040 ≤ B) = false := decide_eq_false (by omega)
            have c8 : decide ((2139095040 : Int) ≤ (B : Int)) = false := decide_eq_false (by omega)
            have o5 := orS B (by omega)
            obtain ⟨Y2, hY2⟩ : ∃ Y2, sg + B = Y2 := ⟨_, rfl⟩
            rw [hY2] at o5
            have E1 := Lib.hid (show sg + N = Y2 by omega)
            have E2 := Lib.hid n2
            clear hK1 hU1 hkb r1 r2 r3 r4 r5 r6 r7 r8 f1 f2 f3 f4 f5 f6 hsgc orS hsm hK1b hu1 hu1b hY0 hY1 hB hBf hfit n0 n1 n2 hbig hY2
            go_wp2_with fail
            go_quiet (fail)
            go_wp2_with fail
            refine bodyPost_ret (v := .tuple #[.int .u64 (Y2 : Int), .bool X, .int .i64 0]) (by simp [results, Tryz.results27, go_sem]) rfl ?_
            exact ⟨by rw [E1.out, E2.out], below_drewN HBE.out _⟩
end Go.Proofs.YtjapgpmoojfhnaaGreatDoor

namespace Go.Proofs.YtjapgpmoojfhnaaGreatDoor
open Go.RowKit Go.Lib

set_option maxHeartbeats 4000000 in
set_option maxRecDepth 100000 in
theorem binbits64 (b : Nat) (hb : b < 18446744073709551616) (w : World) (h0 : 0 < b % 9223372036854775808) (hr : b % 9223372036854775808 < 9218868437227405312) (hL : Laid w) :
    Calls Tryz.prog 27 #[.string ⟨(Fl.txt b).toArray⟩, .int .i64 64] w fun x w' => x = .returned (.tuple #[.int .u64 (((if 9223372036854775808 ≤ b then 9223372036854775808 else 0) + Ieee.Format.nearest Ieee.double false (Fl.om (b % 9223372036854775808)) (Fl.oe (b % 9223372036854775808)) : Nat) : Int), .bool (Fl.exP Ieee.double (Fl.om (b % 9223372036854775808)) (Fl.oe (b % 9223372036854775808))), .int .i64 0]) ∧ Below w.heap.size w w' := by
  have PA := Lib.hid (fun W hW => parse_num b hb W h0 hr hW)
  have OF := Lib.hid (fun W hW => of_64 W hW)
  have SB := Lib.hid (fun W => signbit_any b W hb)
  have II := Lib.hid (fun W => isinf_any b W hb)
  have o1 := ord_self hb
  have o2 := ord_zero hb hr
  obtain ⟨s1, s2, s3, s4⟩ := Fl.om_spec h0
  obtain ⟨b1, b2, b3, b4⟩ := Fl.om_bounds h0 hr
  have SP : ∀ W, Laid W → Calls Tryz.prog 66 #[.float .f64 b] W fun x w' => x = .returned (.tuple #[.int .u64 (Fl.om (b % 9223372036854775808) : Int), .int .i64 (Fl.oe (b % 9223372036854775808))]) ∧ w' = W := fun W hW => split_any b W hb h0 hr hW
  rw [decide_eq_false (by omega)] at o1
  rw [decide_eq_false (by omega)] at o2
  have i0 : (b % 9223372036854775808 == 9218868437227405312) = false := by rw [beq_eq_false_iff_ne]; omega
  rw [i0] at II
  obtain ⟨m, hm⟩ : ∃ m, Fl.om (b % 9223372036854775808) = m := ⟨_, rfl⟩
  obtain ⟨e, he⟩ : ∃ e, Fl.oe (b % 9223372036854775808) = e := ⟨_, rfl⟩
  rw [hm] at s2 s3 s4 b1 b4 SP
  rw [he] at b2 b3 b4 SP
  rw [hm, he]
  have LN : ∀ W, Calls Tryz.prog 67 #[.int .u64 (m : Int)] W fun x w' => x = .returned (.int .i64 ((m.log2 + 1 : Nat) : Int)) ∧ w' = W := fun W => by
    have h := Tryz.bits_Len64 (m : Int) W (by omega) (by omega)
    rw [Int.toNat_natCast, Fl.bitLen_log2 m (by omega) (by omega)] at h
    exact h
  obtain ⟨L, hLL⟩ : ∃ L, m.log2 + 1 = L := ⟨_, rfl⟩
  rw [hLL] at LN
  obtain ⟨U, hU⟩ : ∃ U, Fl.lastP Ieee.double m e = U := ⟨_, rfl⟩
  obtain ⟨K, hK⟩ : ∃ K, Fl.keptP Ieee.double m e = K := ⟨_, rfl⟩
  obtain ⟨X, hX⟩ : ∃ X, Fl.wholeP Ieee.double m e = X := ⟨_, rfl⟩
  obtain ⟨N, hN⟩ : ∃ N, Ieee.Format.nearest Ieee.double false m e = N := ⟨_, rfl⟩
  obtain ⟨Z, hZ⟩ : ∃ Z, Fl.exP Ieee.double m e = Z := ⟨_, rfl⟩
  obtain ⟨d1, d2, d3, d4, d5⟩ := Fl.double_is
  have hUm : U = max (e + (L : Int) - 53) (-1074) := by rw [← hU, ← hLL]; unfold Fl.lastP; rw [d3, d4]; omega
  obtain ⟨p1, p2, p3⟩ := Fl.kept_le Ieee.double m e (by omega)
  have ns := Fl.near_small (f := Ieee.double) (m := m) (e := e) (by omega) (by rw [d1, d2]; decide)
  have nb := fun B => Fl.near_big (f := Ieee.double) (m := m) (e := e) (B := B) (by omega)
  rw [d4, hK] at p1
  rw [d4, hK, hU] at p2
  rw [d4, d3, hK, hU] at p3
  rw [hK, d2, hN, hZ, hX] at ns
  simp only [hK, d1, d2, d3, hU, hN, hZ, hX] at nb
  rw [hN, hZ]
  have hKd : K = if U ≤ e then m * 2 ^ (e - U).toNat else Fl.rnd m (U - e).toNat := by rw [← hK, ← hU]; rfl
  have hXd : X = (decide (U ≤ e) || (m % 2 ^ (U - e).toNat == 0)) := by rw [← hX, ← hU]; rfl
  have HF := Lib.hid (And.intro hUm (And.intro p1 (And.intro p2 (And.intro p3 (And.intro ns nb)))))
  have HK := Lib.hid (And.intro hKd hXd)
  have HB := Lib.hid (And.intro s2 (And.intro s3 (And.intro s4 (And.intro b1 (And.intro b2 (And.intro b3 (And.intro b4 hLL)))))))
  have k2 : IntKind.i64.wrap (e + (L : Int)) = e + (L : Int) := IntWalk.i64_in _ (by omega)
  have k3 : IntKind.i64.wrap (e + (L : Int) - 53) = e + (L : Int) - 53 := IntWalk.i64_in _ (by omega)
  obtain ⟨sb, hsb⟩ : ∃ sb, decide (9223372036854775808 ≤ b) = sb := ⟨_, rfl⟩
  obtain ⟨sg, hsg⟩ : ∃ sg : Nat, (if 9223372036854775808 ≤ b then 9223372036854775808 else 0) = sg := ⟨_, rfl⟩
  rw [hsb] at SB
  rw [hsg]
  have HSG := Lib.hid (show (sb = true → sg = 9223372036854775808) ∧ (sb = false → sg = 0) by
    rw [← hsb, ← hsg]
    by_cases h : 9223372036854775808 ≤ b
    · rw [if_pos h, decide_eq_true h]; exact ⟨fun _ => rfl, fun h => (nomatch h)⟩
    · rw [if_neg h, decide_eq_false h]; exact ⟨fun h => (nomatch h), fun _ => rfl⟩)
  have SP := Lib.hid SP
  have LN := Lib.hid LN
  have HL := Lib.hid hL
  clear hm he hL i0 h0 hr s1 s2 s3 s4 b1 b2 b3 b4 hLL hU hK hX hN hZ d1 d2 d3 d4 d5 hUm p1 p2 p3 ns nb hKd hXd hsb hsg hb
  go_enter Tryz.func27, Tryz.ntmps27
  go_wp2_with fail
  refine (PA.out _ HL.out).mono ?_
  rintro x w1 ⟨rfl, hb1⟩
  go_wp2_with fail
  have hL1 := HL.out.on hb1
  refine (OF.out _ hL1).mono ?_
  rintro x w2 ⟨rfl, hb2⟩
  go_upto_region 5 with fail
  obtain ⟨w3, Y, hw3, hY, hb3, hcells⟩ := box_three 64 53 (-1074) w2
  rw [hw3, hY]
  have hc12 := hb1.trans (hb2.mono hb1.size)
  have hc13 := hc12.trans (hb3.mono hc12.size)
  have hL3 := (hL1.on hb2).on hb3
  obtain ⟨x0, x1, x2, hd3⟩ := hcells w3 (Below.refl _ _)
  have HC := Lib.hid hcells
  have HL3 := Lib.hid hL3
  have HB3 := Lib.hid hc13
  clear hcells hw3 hY hb1 hb2 hb3 hc12 hc13 hL1 hL3
  go_wp2_with fail
  refine (SB.out _).mono ?_
  rintro x w4 ⟨rfl, rfl⟩
  go_upto_if 52 with fail
  go_cut [12] (fun s wx => s = .int .u64 (sg : Int) ∧ wx = w4)
  case first =>
    cases sb with
    | true =>
      have E := Lib.hid (HSG.out.1 rfl)
      go_wp2_with fail
      go_meet
      exact ⟨by rw [E.out]; rfl, rfl⟩
    | false =>
      have E := Lib.hid (HSG.out.2 rfl)
      go_wp2_with fail
      go_meet
      exact ⟨by rw [E.out]; rfl, rfl⟩
  case rest =>
    obtain ⟨rfl, hw⟩ := hcut
    subst hw
    obtain ⟨w3, hw3⟩ : ∃ W, W = wc := ⟨_, rfl⟩
    subst hw3
    go_wp2_with fail
    refine (II.out _).mono ?_
    rintro x w4 ⟨rfl, rfl⟩
    go_wp2_with fail
    refine (SP.out _ HL3.out).mono ?_
    rintro x w5 ⟨rfl, rfl⟩
    go_upto_region 19 with fail
    go_region_held3 (fun W => W.cell? ⟨Y, 0, none⟩ = some (.int .i64 64) ∧ W.cell? ⟨Y, 1, none⟩ = some (.int .i64 53) ∧ W.cell? ⟨Y, 2, none⟩ = some (.int .i64 (-1074)) ∧ Below w5.heap.size w5 W)
      ((refine HC.out _ ?_; first | assumption | exact b_drew hd3 | exact b_drew (by assumption)))
      (first | (go_at_call 67; refine (LN.out _).mono ?_; rintro x w6 ⟨rfl, rfl⟩))
    rw [← HF.out.1]
    obtain ⟨ub, hub⟩ : ∃ ub, decide (U ≤ e) = ub := ⟨_, rfl⟩
    go_upto_if 82 with fail
    go_cut [13, 16] (fun s13 s16 wx => s13 = .int .u64 (K : Int) ∧ s16 = .bool X ∧ Below w5.heap.size w5 wx)
    case first =>
      obtain ⟨r1, r2, r3, r4, r5, r6, r7, r8⟩ := HB.out
      obtain ⟨f1, f2, f3, f4, _, _⟩ := HF.out
      have hKX := HK.out
      cases ub with
      | true =>
        have hUe : U ≤ e := of_decide_eq_true hub
        obtain ⟨d, hd⟩ : ∃ d : Nat, (e - U).toNat = d := ⟨_, rfl⟩
        have hK' : K = m * 2 ^ d := by rw [hKX.1, if_pos hUe, hd]
        have hK2 := f3 hUe
        have q1 : IntKind.i64.wrap (e - U) = (d : Int) := by rw [show e - U = (d : Int) by omega]; exact IntWalk.i64_in _ (by omega)
        have q2 : IntKind.u64.wrap ((m : Int) * 2 ^ d) = (K : Int) := by
          have h : (m : Int) * 2 ^ d = (K : Int) := by rw [hK']; simp
          rw [h, IntKind.wrap_u64]; omega
        have q3 : min d 64 = d := by omega
        have E := Lib.hid (show X = true by rw [hKX.2, decide_eq_true hUe]; rfl)
        clear hUe hd hK' hK2 r1 r2 r3 r4 r5 r6 r7 r8 f1 f2 f3 f4 hKX
        go_wp2_with fail
        go_meet
        exact ⟨rfl, by rw [E.out], b_drew hd3⟩
      | false =>
        have hUe : ¬ U ≤ e := of_decide_eq_false hub
        obtain ⟨c, hc⟩ : ∃ c : Nat, (U - e).toNat = c := ⟨_, rfl⟩
        have RN := Lib.hid (fun W => round_any m c W (by omega) (by omega) (by omega) (by omega))
        have hX' : X = (m % 2 ^ c == 0) := by rw [hKX.2, decide_eq_false hUe, hc]; rfl
        have hK' : Fl.rnd m c = K := by rw [hKX.1, if_neg hUe, hc]
        rw [hK', ← hX'] at RN
        have q1 : IntKind.i64.wrap (U - e) = (c : Int) := by rw [show U - e = (c : Int) by omega]; exact IntWalk.i64_in _ (by omega)
        clear hUe hc hX' hK' r1 r2 r3 r4 r5 r6 r7 r8 f1 f2 f3 f4 hKX
        go_wp2_with fail
        refine (RN.out _).mono ?_
        rintro x w7 ⟨rfl, hb7⟩
        go_wp2_with fail
        go_meet
        exact ⟨rfl, rfl, (b_drew hd3).trans hb7⟩
    case rest =>
      obtain ⟨rfl, rfl, hbx⟩ := hcut
      obtain ⟨y0, y1, y2, _⟩ := HC.out _ hbx
      have hbE := HB3.out.trans (hbx.mono HB3.out.size)
      have HBE := Lib.hid hbE
      clear hbx hbE x0 x1 x2
      obtain ⟨kb, hkb⟩ : ∃ kb, ((K : Int) == 9007199254740992) = kb := ⟨_, rfl⟩
      obtain ⟨K1, hK1⟩ : ∃ K1, (if K = 9007199254740992 then 4503599627370496 else K) = K1 := ⟨_, rfl⟩
      obtain ⟨U1, hU1⟩ : ∃ U1, (if K = 9007199254740992 then U + 1 else U) = U1 := ⟨_, rfl⟩
      go_upto_if 100 with fail
      go_cut [13, 15] (fun s13 s15 wx => s13 = .int .u64 (K1 : Int) ∧ s15 = .int .i64 U1 ∧ wx = wc)
      case first =>
        obtain ⟨r1, r2, r3, r4, r5, r6, r7, r8⟩ := HB.out
        obtain ⟨f1, f2, f3, f4, _, _⟩ := HF.out
        cases kb with
        | true =>
          have hKe : K = 9007199254740992 := by have := eq_of_beq hkb; omega
          subst hKe
          have E1 := Lib.hid (show K1 = 4503599627370496 by rw [← hK1, if_pos rfl])
          have E2 := Lib.hid (show U1 = U + 1 by rw [← hU1, if_pos rfl])
          have q1 : IntKind.i64.wrap (U + 1) = U + 1 := IntWalk.i64_in _ (by omega)
          clear hK1 hU1 r1 r2 r3 r4 r5 r6 r7 r8 f1 f2 f3 f4 hkb
          go_wp2_with fail
          go_meet
          exact ⟨by rw [E1.out]; rfl, by rw [E2.out], rfl⟩
        | false =>
          have hKe : K ≠ 9007199254740992 := by intro h; rw [h] at hkb; exact absurd hkb (by decide)
          have E1 := Lib.hid (show K1 = K by rw [← hK1, if_neg hKe])
          have E2 := Lib.hid (show U1 = U by rw [← hU1, if_neg hKe])
          clear hK1 hU1 r1 r2 r3 r4 r5 r6 r7 r8 f1 f2 f3 f4 hKe
          go_wp2_with fail
          go_meet
          exact ⟨by rw [E1.out], by rw [E2.out], rfl⟩
      case rest =>
        obtain ⟨rfl, rfl, hwE⟩ := hcut
        subst hwE
        obtain ⟨wE, hwE⟩ : ∃ W, W = wc := ⟨_, rfl⟩
        subst hwE
        obtain ⟨r1, r2, r3, r4, r5, r6, r7, r8⟩ := HB.out
        obtain ⟨f1, f2, f3, f4, f5, f6⟩ := HF.out
        have hsgc : sg = 0 ∨ sg = 9223372036854775808 := by
          cases sb
          · exact .inl (HSG.out.2 rfl)
          · exact .inr (HSG.out.1 rfl)
        have orS : ∀ x : Nat, x < 9223372036854775808 → bits .or .u64 (sg : Int) (x : Int) = ((sg + x : Nat) : Int) := fun x hx => or_sign sg x 63 (by decide) hx hsgc
        by_cases hsm : K < 4503599627370496
        · have g1 : K1 = K := by rw [← hK1, if_neg (by omega)]
          have c5 : decide (K1 < 4503599627370496) = true := decide_eq_true (by omega)
          have c6 : decide ((K1 : Int) < 4503599627370496) = true := decide_eq_true (by omega)
          have o5 := orS K1 (by omega)
          obtain ⟨n1, n2⟩ := f5 hsm
          obtain ⟨Y1, hY1⟩ : ∃ Y1, sg + K1 = Y1 := ⟨_, rfl⟩
          rw [hY1] at o5
          have E1 := Lib.hid (show sg + N = Y1 by omega)
          have E2 := Lib.hid n2
          clear hK1 hU1 hkb r1 r2 r3 r4 r5 r6 r7 r8 f1 f2 f3 f4 f5 f6 hsgc orS hsm g1 n1 n2 hY1
          go_wp2_with fail
          refine bodyPost_ret (v := .tuple #[.int .u64 (Y1 : Int), .bool X, .int .i64 0]) (by simp [results, Tryz.results27, go_sem]) rfl ?_
          exact ⟨by rw [E1.out, E2.out], HBE.out⟩
        · have hK1b : 4503599627370496 ≤ K1 ∧ K1 < 9007199254740992 := by rw [← hK1]; split <;> omega
          obtain ⟨u1, hu1⟩ : ∃ u1 : Nat, U1 + 1074 + 1 = (u1 : Int) := ⟨(U1 + 1074 + 1).toNat, by rw [← hU1]; split <;> omega⟩
          have hu1b : u1 ≤ 2200 := by rw [← hU1] at hu1; split at hu1 <;> omega
          obtain ⟨Y0, hY0⟩ : ∃ Y0, u1 * 4503599627370496 = Y0 := ⟨_, rfl⟩
          obtain ⟨Y1, hY1⟩ : ∃ Y1, Y0 + K1 = Y1 := ⟨_, rfl⟩
          obtain ⟨B, hB⟩ : ∃ B, Y1 - 4503599627370496 = B := ⟨_, rfl⟩
          have hBf : (U - -1074).toNat * 4503599627370496 + K = B := by
            obtain ⟨v, hv⟩ : ∃ v, (U - -1074).toNat = v := ⟨_, rfl⟩
            rw [hv]
            refine rung_sum ?_ hY0 hY1 hB
            by_cases hKe : K = 9007199254740992
            · rw [if_pos hKe] at hK1 hU1
              exact .inl ⟨hKe, hK1.symm, by clear hY0 hY1 hB f5 f6; omega⟩
            · rw [if_neg hKe] at hK1 hU1
              exact .inr ⟨hK1.symm, by clear hY0 hY1 hB f5 f6; omega⟩
          have hfit : u1 ≤ 2047 ∨ 64 < 64 := by
            first
            | exact .inr (by decide)
            | (left; rw [← hU1] at hu1; split at hu1 <;> omega)
          have c5 : decide (K1 < 4503599627370496) = false := decide_eq_false (by omega)
          have c6 : decide ((K1 : Int) < 4503599627370496) = false := decide_eq_false (by omega)
          have m1 : IntKind.i64.wrap (U1 + 1074) = U1 + 1074 := IntWalk.i64_in _ (by omega)
          have m2 : IntKind.i64.wrap (U1 + 1074 + 1) = (u1 : Int) := by rw [hu1]; exact IntWalk.i64_in _ (by omega)
          have m3 : IntKind.u64.wrap (u1 : Int) = (u1 : Int) := by rw [IntKind.wrap_u64]; omega
          have m4 : IntKind.u64.wrap ((u1 : Int) * 4503599627370496) = (Y0 : Int) := by rw [IntKind.wrap_u64]; omega
          have m5 : IntKind.u64.wrap (Y0 : Int) = (Y0 : Int) := by rw [IntKind.wrap_u64]; omega
          have m6 : IntKind.u64.wrap ((Y0 : Int) + (K1 : Int)) = (Y1 : Int) := by rw [IntKind.wrap_u64]; omega
          have m7 : IntKind.u64.wrap ((Y1 : Int) - 4503599627370496) = (B : Int) := by rw [IntKind.wrap_u64]; omega
          have n0 := f6 B hBf
          by_cases hbig : 9218868437227405312 ≤ B
          · obtain ⟨n1, n2⟩ := n0.1 hbig
            have c7 : decide (9218868437227405312 ≤ B) = true := decide_eq_true (by omega)
            have c8 : decide ((9218868437227405312 : Int) ≤ (B : Int)) = true := decide_eq_true (by omega)
            have o5 := orS 9218868437227405312 (by decide)
            obtain ⟨Y2, hY2⟩ : ∃ Y2, sg + 9218868437227405312 = Y2 := ⟨_, rfl⟩
            rw [hY2] at o5
            have o6 : bits .or .u64 (sg : Int) 9218868437227405312 = (Y2 : Int) := o5
            have E1 := Lib.hid (show sg + N = Y2 by omega)
            have E2 := Lib.hid n2
            clear hK1 hU1 hkb r1 r2 r3 r4 r5 r6 r7 r8 f1 f2 f3 f4 f5 f6 hsgc orS hsm hK1b hu1 hu1b hY0 hY1 hB hBf hfit n0 n1 n2 hbig hY2 o5
            go_wp2_with fail
            go_quiet (fail)
            go_wp2_with fail
            refine bodyPost_ret (v := .tuple #[.int .u64 (Y2 : Int), .bool false, .int .i64 0]) (by simp [results, Tryz.results27, go_sem]) rfl ?_
            exact ⟨by rw [E1.out, E2.out], below_drewN HBE.out _⟩
          · obtain ⟨n1, n2⟩ := n0.2 (by omega)
            have c7 : decide (9218868437227405312 ≤ B) = false := decide_eq_false (by omega)
            have c8 : decide ((9218868437227405312 : Int) ≤ (B : Int)) = false := decide_eq_false (by omega)
            have o5 := orS B (by omega)
            obtain ⟨Y2, hY2⟩ : ∃ Y2, sg + B = Y2 := ⟨_, rfl⟩
            rw [hY2] at o5
            have E1 := Lib.hid (show sg + N = Y2 by omega)
            have E2 := Lib.hid n2
            clear hK1 hU1 hkb r1 r2 r3 r4 r5 r6 r7 r8 f1 f2 f3 f4 f5 f6 hsgc orS hsm hK1b hu1 hu1b hY0 hY1 hB hBf hfit n0 n1 n2 hbig hY2
            go_wp2_with fail
            go_quiet (fail)
            go_wp2_with fail
            refine bodyPost_ret (v := .tuple #[.int .u64 (Y2 : Int), .bool X, .int .i64 0]) (by simp [results, Tryz.results27, go_sem]) rfl ?_
            exact ⟨by rw [E1.out, E2.out], below_drewN HBE.out _⟩
end Go.Proofs.YtjapgpmoojfhnaaGreatDoor
