/- The reference's Shortest. -/
import Derived.Test.YtjapgpmoojfhnaaGreatDoorB22
namespace Go.Proofs.YtjapgpmoojfhnaaGreatDoor
open Go.RowKit Go.Lib

theorem not_both {a b : Bool} (h : ¬ (a = false ∧ b = false)) : (!a && !b) = false := by
  cases a
  · cases b
    · exact absurd ⟨rfl, rfl⟩ h
    · rfl
  · rfl
theorem nbox_set {w : World} {G n c u : Nat} {A : Option Addr} (hB : w.heap[G]? = some (.cells #[.bool false, .slice none 0 0] 33 (0, 0))) (hr : Reads w w.heap.size A n (u8s (Fl.digL u))) (hc : n ≤ c) (ha : ∀ b off, A = some ⟨b, off, none⟩ → b ≠ G) :
    NBox ((w.setCell ⟨G, 0, none⟩ (.bool false)).setCell ⟨G, 1, none⟩ (.slice A n c)) G A n c u := by
  refine ⟨block_set (block_set hB 0 _) 1 _, hr.kept (by simp [World.setCell]) (fun b off he _ => ?_), hc⟩
  have := ha b off he
  rw [Below.heap_setCell _ _ _ _ this, Below.heap_setCell _ _ _ _ this]
theorem goDn_cmp (V LO HI j : Nat) (ev : Bool) : Fl.goDn V LO HI ev (j + 1) = (Fl.insideN (Fl.dnN V (j + 1)) LO HI ev && (!Fl.insideN (Fl.upN V (j + 1)) LO HI ev || decide (cmpN (V + V) (Fl.dnN V (j + 1) + Fl.upN V (j + 1)) < 0) || (cmpN (V + V) (Fl.dnN V (j + 1) + Fl.upN V (j + 1)) == 0 && V / 10 ^ (j + 1) % 2 == 0))) := by
  have h1 : decide (2 * V < Fl.dnN V (j + 1) + Fl.upN V (j + 1)) = decide (cmpN (V + V) (Fl.dnN V (j + 1) + Fl.upN V (j + 1)) < 0) := by
    refine decide_eq_decide.2 ?_
    unfold cmpN
    split
    · omega
    · split <;> omega
  have h2 : decide (2 * V = Fl.dnN V (j + 1) + Fl.upN V (j + 1)) = (cmpN (V + V) (Fl.dnN V (j + 1) + Fl.upN V (j + 1)) == 0) := by
    by_cases h : 2 * V = Fl.dnN V (j + 1) + Fl.upN V (j + 1)
    · rw [decide_eq_true h]
      symm
      rw [beq_iff_eq]
      unfold cmpN
      rw [if_neg (by omega), if_pos (by omega)]
    · rw [decide_eq_false h]
      symm
      rw [beq_eq_false_iff_ne]
      unfold cmpN
      split
      · decide
      · split
        · omega
        · decide
  unfold Fl.goDn
  rw [h1, h2]
set_option maxHeartbeats 4000000 in
set_option maxRecDepth 100000 in
theorem refshort43 (r : Nat) (g : Bool) (h0 : 0 < r) (hr : r < 9218868437227405312) {c z : Nat} (hS : Fl.Short r c z) (w : World) :
    Calls Tryz.prog 43 #[.agg #[.int .i64 0, .bool g, .int .u64 (Fl.om r : Int), .int .i64 (Fl.oe r)]] w fun x w' => x = .returned (.agg #[.bool g, .string ⟨(decDigits c).toArray⟩, .int .i64 (Fl.sX r + (z : Int))]) ∧ Below w.heap.size w w' := by
  have hSC := fun y hy W => scaled90_any r y h0 hr hy W
  have DR := fun i hi => dbl_round (r := r) (i := i) h0 hi
  obtain ⟨de1, de2⟩ := dbl_end (r := r) h0
  obtain ⟨pb1, pb2⟩ := place_bounds h0 hr
  obtain ⟨_, _, pb3, _⟩ := Fl.om_bounds h0 hr
  obtain ⟨M, hM⟩ : ∃ M, Fl.rmag Ieee.double r = M := ⟨_, rfl⟩
  obtain ⟨P, hP⟩ : ∃ P, Fl.rplace Ieee.double r = P := ⟨_, rfl⟩
  obtain ⟨tz, htz⟩ : ∃ t, tzN (Fl.rmag Ieee.double r) = t := ⟨_, rfl⟩
  obtain ⟨m0, hm0⟩ : ∃ m, Fl.om r = m := ⟨_, rfl⟩
  obtain ⟨x0, hx0⟩ : ∃ x, Fl.oe r = x := ⟨_, rfl⟩
  have hM0 := Fl.rmag_pos (f := Ieee.double) h0
  obtain ⟨kk, hf, hp, hk, hlt⟩ := Fl.rung_form r
  rw [htz, hm0, hx0] at DR
  rw [htz, hm0, hM] at de1
  rw [htz, hx0, hP] at de2
  rw [hx0] at pb3
  rw [hP] at hSC pb1 pb2 hp
  rw [hM] at hM0 hk hlt hf
  rw [hm0, hx0]
  have hMP : M < 4503599627370496 → P = -1074 := by omega
  have LN := Lib.hid (fun (m : Nat) hm W => bitlen_any m W hm)
  have HSC := Lib.hid hSC
  have HDR := Lib.hid DR
  have HDE := Lib.hid (And.intro de1 de2)
  have HMP := Lib.hid (And.intro hMP (And.intro hM0 hlt))
  have HPB := Lib.hid (And.intro pb1 (And.intro pb2 pb3))
  have HS := Lib.hid hS
  have HR := Lib.hid (And.intro h0 (And.intro hr (And.intro hM hP)))
  obtain ⟨RES, hRES⟩ : ∃ B : ByteArray, (⟨(decDigits c).toArray⟩ : ByteArray) = B := ⟨_, rfl⟩
  rw [hRES]
  have HRES := Lib.hid hRES
  obtain ⟨w1, hw1⟩ : ∃ w1, (w.alloc (.cells #[.int .i64 0, .bool g, .int .u64 (m0 : Int), .int .i64 x0] 24)).alloc (.cells #[.bool false, .string ⟨#[]⟩, .int .i64 0] 37) = w1 := ⟨_, rfl⟩
  obtain ⟨X, hX⟩ : ∃ X, w.heap.size = X := ⟨_, rfl⟩
  obtain ⟨q1, q2, q3, q4⟩ := two_blocks w (.cells #[.int .i64 0, .bool g, .int .u64 (m0 : Int), .int .i64 x0] 24) (.cells #[.bool false, .string ⟨#[]⟩, .int .i64 0] 37)
  rw [hw1] at q1 q2 q3 q4
  rw [hX] at q1 q2
  have f1 := at_block q1 1 _ rfl
  have f2 := at_block q1 2 _ rfl
  have f3 := at_block q1 3 _ rfl
  have HQ := Lib.hid (fun W (hW : Below w1.heap.size w1 W) => And.intro ((hW.block X (lt_of_block q1)).trans q1) ((hW.block (X + 1) (lt_of_block q2)).trans q2))
  have HW := Lib.hid (And.intro hw1 (And.intro hX q3))
  clear h0 hr hS hSC DR de1 de2 hM hP htz hm0 hx0 hM0 hf hp hk hlt hMP pb1 pb2 pb3 hRES q1 q2 q3 q4 hw1 hX
  go_enter Tryz.func43, Tryz.ntmps43
  go_upto_region 1 with fail
  rw [HW.out.1, HW.out.2.1]
  go_region
  go_upto_block 0 with fail
  clear f1 f2 f3
  obtain ⟨wb, hwb⟩ : ∃ W, W = w1.drew := ⟨_, rfl⟩
  have hbw : Below w1.heap.size w1 wb := by rw [hwb]; exact (Below.refl _ _).drew
  rw [← hwb]
  clear hwb
  go_cut [3, 4] (fun t3 t4 wx => t3 = .int .u64 (M : Int) ∧ t4 = .int .i64 P ∧ wx = wb)
  case first =>
    go_wp2_with fail
    go_loopg [3, 4] tz (fun f t6 t7 wx => ∃ i : Nat, i + f = tz ∧ t6 = .int .u64 ((m0 * 2 ^ i : Nat) : Int) ∧ t7 = .int .i64 (x0 - (i : Int)) ∧ wx = wb)
    case atStart => exact ⟨0, by omega, by simp, by simp, rfl⟩
    case round =>
      obtain ⟨i, hif, e6, e7, hww⟩ := hrel
      subst hww
      cases gk with
      | zero =>
        obtain rfl : i = tz := by omega
        rw [HDE.out.1] at e6
        rw [HDE.out.2] at e7
        subst e6 e7
        have LM := Lib.hid (fun W => LN.out M (by have := HMP.out.2.2; omega) W)
        by_cases hfull : M < 4503599627370496
        · obtain rfl : P = -1074 := HMP.out.1 hfull
          have b1 := bitLen_small HMP.out.2.1 hfull
          obtain ⟨bl, hbl⟩ : ∃ bl, Lib.bitLen M = bl := ⟨_, rfl⟩
          rw [hbl] at LM b1
          have d1 : decide ((bl : Int) < 53) = true := decide_eq_true (by omega)
          have d1n : decide (bl < 53) = true := decide_eq_true b1
          clear hbl hfull
          go_wp2_with fail
          refine (LM.out _).mono ?_
          rintro y w4 ⟨rfl, rfl⟩
          go_wp2_with fail
          go_meet
          exact ⟨rfl, rfl, rfl⟩
        · have b1 := bitLen_full (by omega) HMP.out.2.2
          rw [b1] at LM
          clear b1 hfull
          go_wp2_with fail
          refine (LM.out _).mono ?_
          rintro y w4 ⟨rfl, rfl⟩
          go_wp2_with fail
          go_meet
          exact ⟨rfl, rfl, rfl⟩
      | succ f =>
        obtain ⟨d1, d2, d3⟩ := HDR.out i (by omega)
        obtain ⟨m, hm⟩ : ∃ m, m0 * 2 ^ i = m := ⟨_, rfl⟩
        obtain ⟨x, hx⟩ : ∃ x, x0 - (i : Int) = x := ⟨_, rfl⟩
        rw [hm] at d1 d2 e6
        rw [hx] at d3 e7
        subst e6 e7
        have b1 := bitLen_small d2 d1
        have LM := Lib.hid (fun W => LN.out m (by omega) W)
        obtain ⟨bl, hbl⟩ : ∃ bl, Lib.bitLen m = bl := ⟨_, rfl⟩
        rw [hbl] at LM b1
        have c1 : decide ((bl : Int) < 53) = true := decide_eq_true (by omega)
        have c1n : decide (bl < 53) = true := decide_eq_true b1
        have c2 : decide ((-1074 : Int) < x) = true := decide_eq_true d3
        have hxb := HPB.out.2.2
        have hx1 : x ≤ 1023 := by omega
        have hw1 : wrap64 (x - 1) = x - 1 := by unfold wrap64; omega
        have hw2 : IntKind.i64.wrap (x - 1) = x - 1 := IntWalk.i64_in _ (by omega)
        have hw3 : IntKind.u64.wrap ((m : Int) * 2) = ((m * 2 : Nat) : Int) := by rw [IntKind.wrap_u64]; omega
        have HM := Lib.hid (And.intro hm (And.intro hx d1))
        clear hbl hm hx d1 d2 hxb
        go_wp2_with fail
        refine (LM.out _).mono ?_
        rintro y w4 ⟨rfl, rfl⟩
        go_wp2_with fail
        go_roundg f
        case measure => omega
        case rel =>
          obtain ⟨e1, e2, e3⟩ := HM.out
          refine ⟨i + 1, by omega, ?_, ?_, rfl⟩
          · rw [Nat.pow_succ, ← Nat.mul_assoc, e1]
            first | rfl | simp
          · rw [← e2]
            congr 1
            omega
  case rest =>
    obtain ⟨rfl, rfl, rfl⟩ := hcut
    obtain ⟨wb, hw4⟩ : ∃ W, W = wc := ⟨_, rfl⟩
    subst hw4
    obtain ⟨hMP, hM0, hM2⟩ := HMP.out
    obtain ⟨ev, hev⟩ : ∃ ev, (M % 2 == 0) = ev := ⟨_, rfl⟩
    have g3 : IntKind.u64.wrap (4 * (M : Int)) = ((4 * M : Nat) : Int) := by rw [IntKind.wrap_u64]; omega
    obtain ⟨q, hq⟩ : ∃ q, 4 * M = q := ⟨_, rfl⟩
    rw [hq] at g3
    have g4 : IntKind.u64.wrap ((q : Int) - 2) = ((q - 2 : Nat) : Int) := by rw [IntKind.wrap_u64]; omega
    have g5 : IntKind.u64.wrap ((q : Int) - 1) = ((q - 1 : Nat) : Int) := by rw [IntKind.wrap_u64]; omega
    have g6 : IntKind.u64.wrap ((q : Int) + 2) = ((q + 2 : Nat) : Int) := by rw [IntKind.wrap_u64]; omega
    obtain ⟨h0, hr, hM, hP⟩ := HR.out
    obtain ⟨lw, hlw⟩ : ∃ l, Fl.sLow r = l := ⟨_, rfl⟩
    have hlw2 : lw = if M = 4503599627370496 ∧ -1074 < P then q - 1 else q - 2 := by
      rw [← hlw, Fl.sLow, hM, hP, hq]
    have hxw : IntKind.i64.wrap (P - 2) = P - 2 := IntWalk.i64_in _ (by have := HPB.out; omega)
    have S1 := Lib.hid (fun W => HSC.out q (by omega) W)
    have S2 := Lib.hid (fun W => HSC.out lw (by rw [hlw2]; split <;> omega) W)
    have S3 := Lib.hid (fun W => HSC.out (q + 2) (by omega) W)
    have HLW := Lib.hid hlw2
    have HQQ := Lib.hid (And.intro hq (And.intro hlw hev))
    clear hMP hM0 hM2 hev hq hlw hlw2 h0 hr hM hP
    go_upto_region 6 with fail
    go_cut [41] (fun t41 wx => t41 = .bool (decide (M = 4503599627370496 ∧ -1074 < P)) ∧ wx = wb)
    case first =>
      by_cases hm : M = 4503599627370496
      · have c1 : ((M : Int) == 4503599627370496) = true := by rw [beq_iff_eq]; omega
        have c2 : decide (M = 4503599627370496 ∧ -1074 < P) = decide (-1074 < P) := decide_eq_decide.2 (by omega)
        obtain ⟨d, hd⟩ : ∃ d, decide (-1074 < P) = d := ⟨_, rfl⟩
        rw [hd] at c2
        have C2 := Lib.hid c2
        have HM := Lib.hid hm
        clear hm c2
        cases d
        · go_wp2_with fail
          go_meet
          exact ⟨by rw [C2.out], rfl⟩
        · go_wp2_with fail
          go_meet
          exact ⟨by rw [C2.out], rfl⟩
      · have c1 : ((M : Int) == 4503599627370496) = false := by rw [beq_eq_false_iff_ne]; omega
        have c2 : decide (M = 4503599627370496 ∧ -1074 < P) = false := decide_eq_false (by omega)
        have C2 := Lib.hid c2
        clear hm c2
        go_wp2_with fail
        go_meet
        exact ⟨by rw [C2.out], rfl⟩
    case rest =>
      obtain ⟨rfl, rfl⟩ := hcut
      obtain ⟨wb, hw5⟩ : ∃ W, W = wc := ⟨_, rfl⟩
      subst hw5
      go_upto_if 41 with fail
      go_cut [5] (fun t9 wx => t9 = .int .u64 (lw : Int) ∧ wx = wb)
      case first =>
        have hl := HLW.out
        by_cases hm : M = 4503599627370496 ∧ -1074 < P
        · rw [if_pos hm] at hl
          rw [decide_eq_true hm]
          have HLL := Lib.hid hl
          clear hm hl
          go_wp2_with fail
          go_meet
          exact ⟨by rw [HLL.out], rfl⟩
        · rw [if_neg hm] at hl
          rw [decide_eq_false hm]
          have HLL := Lib.hid hl
          clear hm hl
          go_wp2_with fail
          go_meet
          exact ⟨by rw [HLL.out], rfl⟩
      case rest =>
        obtain ⟨rfl, rfl⟩ := hcut
        obtain ⟨wb, hw5⟩ : ∃ W, W = wc := ⟨_, rfl⟩
        subst hw5
        obtain ⟨V, hV⟩ : ∃ V, q * Fl.sS r = V := ⟨_, rfl⟩
        obtain ⟨LO, hLO⟩ : ∃ V, lw * Fl.sS r = V := ⟨_, rfl⟩
        obtain ⟨HI, hHI⟩ : ∃ V, (q + 2) * Fl.sS r = V := ⟨_, rfl⟩
        rw [hV] at S1
        rw [hLO] at S2
        rw [hHI] at S3
        have HT := Lib.hid (And.intro hV (And.intro hLO hHI))
        clear hV hLO hHI
        go_wp2_with fail
        refine (S1.out _).mono ?_
        rintro y w4 ⟨⟨A6, n6, c6, hc6, _, hr6, rfl⟩, hb4⟩
        go_wp2_with fail
        refine (S2.out _).mono ?_
        rintro y w5 ⟨⟨A7, n7, c7, hc7, _, hr7, rfl⟩, hb5⟩
        go_wp2_with fail
        refine (S3.out _).mono ?_
        rintro y w6 ⟨⟨A8, n8, c8, hc8, _, hr8, rfl⟩, hb6⟩
        go_upto_region 9 with fail
        have b46 := b_trans hb4 (b_trans hb5 hb6 |> fun h => h)
        obtain ⟨N6, b1⟩ := NBox.new (w := w6) (c := c6) ((hr6.on hb5).on hb6) hc6
        obtain ⟨N7, b2⟩ := NBox.new (c := c7) ((hr7.on hb6).on b1) hc7
        obtain ⟨N8, b3⟩ := NBox.new (c := c8) ((hr8.on b1).on b2) hc8
        have N6 := (N6.on b2).on b3
        have N7 := N7.on b3
        have e7 : (w6.alloc (.cells #[.bool false, .slice A6 n6 c6] 33)).heap.size = w6.heap.size + 1 := by simp
        have e8 : ((w6.alloc (.cells #[.bool false, .slice A6 n6 c6] 33)).alloc (.cells #[.bool false, .slice A7 n7 c7] 33)).heap.size = w6.heap.size + 1 + 1 := by simp
        rw [e7] at N7
        rw [e8] at N8
        have bB := b_trans b46 (b_trans b1 (b_trans b2 b3))
        obtain ⟨wB, hwB⟩ : ∃ W, ((w6.alloc (.cells #[.bool false, .slice A6 n6 c6] 33)).alloc (.cells #[.bool false, .slice A7 n7 c7] 33)).alloc (.cells #[.bool false, .slice A8 n8 c8] 33) = W := ⟨_, rfl⟩
        obtain ⟨P6, hP6⟩ : ∃ p, w6.heap.size = p := ⟨_, rfl⟩
        rw [hwB, hP6] at N6 N7 N8
        rw [hwB] at bB
        rw [hwB, hP6]
        have bw : Below w1.heap.size w1 wB := b_trans hbw bB
        have HN := Lib.hid (And.intro N6 (And.intro N7 (And.intro N8 bw)))
        clear hb4 hb5 hb6 b46 b1 b2 b3 N6 N7 N8 e7 e8 bB hwB hP6 bw hr6 hr7 hr8 hc6 hc7 hc8 hbw g3 g4 g5 g6
        obtain ⟨h0, hr, hM, hP⟩ := HR.out
        obtain ⟨hq, hlw, hev⟩ := HQQ.out
        obtain ⟨hV, hLO, hHI⟩ := HT.out
        have hmin : min (P - 2) 0 = Fl.sX r := by unfold Fl.sX; rw [hP]
        obtain ⟨sx, hsx⟩ : ∃ s, Fl.sX r = s := ⟨_, rfl⟩
        rw [hsx] at hmin
        have hlen := Fl.sV_len h0 hr
        obtain ⟨l1, l2, l3⟩ := Fl.low_lt h0
        have hpk := HS.out.fac
        obtain ⟨hr1, hr2⟩ := HS.out.range h0 hr
        have hodd := HS.out.odd
        rw [hsx] at hr1 hr2
        have hsxb : -100000 ≤ sx ∧ sx ≤ 100000 := by rw [← hsx]; unfold Fl.sX; rw [hP]; have := HPB.out; omega
        unfold Fl.sPick at hpk
        unfold Fl.sV at hpk hlen l1 l2
        rw [hM, hev, hlw, hq, hV, hLO, hHI] at hpk
        rw [hM, hq, hV] at hlen
        rw [hM, hlw, hq, hV, hLO] at l1
        rw [hlw, hLO] at l3
        rw [hM, hq, hV, hHI] at l2
        have l4 : HI ≤ 2 * V := by
          rw [← hHI, ← hV, ← Nat.mul_assoc]
          refine Nat.mul_le_mul_right _ ?_
          have := HMP.out.2.1
          omega
        have hV0 : V ≠ 0 := by omega
        obtain ⟨L, hL⟩ : ∃ L, (decDigits V).length = L := ⟨_, rfl⟩
        rw [hL] at hpk hlen
        have hLp : 0 < L := by rw [← hL]; exact List.length_pos_iff.2 (Dc.dec_ne V)
        obtain ⟨n0, dd1, dd2, dd3⟩ := Fl.dec_bounds hV0
        have hi17 : ∀ j, L = 17 + (j + 1) → Fl.insideN (Fl.dnN V (j + 1)) LO HI ev = true ∨ Fl.insideN (Fl.upN V (j + 1)) LO HI ev = true := fun j hj => by
          refine Fl.inside17 (A := M * Fl.sS r) (M := M) (S := Fl.sS r) (t := 10 ^ (j + 1)) (Fl.sS_pos r) rfl HMP.out.2.2 ?_ ?_ ?_ (j + 1) rfl ?_
          · rw [← hV, ← hq, Nat.mul_assoc]
          · rw [← hHI, ← hq, Nat.add_mul, Nat.mul_assoc]
          · have hl := HLW.out
            rw [← hLO, hl]
            by_cases hm : M = 4503599627370496 ∧ -1074 < P
            · right
              refine ⟨?_, hm.1⟩
              rw [if_pos hm, ← Nat.mul_assoc, hq]
              have e : (q - 1) * Fl.sS r + 1 * Fl.sS r = q * Fl.sS r := by rw [← Nat.add_mul]; congr 1; have := HMP.out.2.1; omega
              omega
            · left
              rw [if_neg hm, ← Nat.mul_assoc, hq, ← Nat.add_mul]
              congr 1
              have := HMP.out.2.1
              omega
          · have e : (10 : Nat) ^ (j + 1) * 10000000000000000 = 10 ^ n0 := by
              rw [show (10000000000000000 : Nat) = 10 ^ 16 by decide, ← Nat.pow_add]
              congr 1
              omega
            rw [e]
            exact dd2
        obtain ⟨N6, N7, N8, bw⟩ := HN.out
        have hl6 : n6 ≤ 1093 := by rw [N6.len, ← Fl.dec_length hV0, hL]; exact hlen
        have DG := Lib.hid (fun c' => digits91 A6 n6 c' V hV0 (by omega) wB N6.rd)
        have x0 := N6.c0
        have x1 := N6.c1
        obtain ⟨VB, hVB⟩ : ∃ B : ByteArray, (⟨(decDigits V).toArray⟩ : ByteArray) = B := ⟨_, rfl⟩
        rw [hVB] at DG
        have hVs : VB.size = L := by rw [← hVB, str_size, hL]
        have HV := Lib.hid (And.intro hVB (And.intro l1 (And.intro l2 (And.intro l3 (And.intro hL (And.intro l4 (And.intro dd3 (And.intro hi17 dd1))))))))
        have HP := Lib.hid hpk
        have HLL := Lib.hid (And.intro hlen hLp)
        have HZ := Lib.hid (And.intro hodd (And.intro hsxb (And.intro hsx hl6)))
        clear h0 hr hM hP hq hlw hev hlen l1 l2 l3 l4 hpk hr1 hr2 hodd dd1 dd2 dd3 hsxb hV hLO hHI hL hsx hLp hi17 N6 N7 N8 bw hl6 hVB hV0
        go_wp2_with fail
        refine (DG.out _).mono ?_
        rintro y wD ⟨rfl, hbD⟩
        have HD := Lib.hid hbD
        clear x0 x1 hbD
        go_wp2_with fail
        go_loopg [11, 12, 13, 14, 15, 16, 17] (L - 1) (fun f t11 _ _ _ _ _ _ wx => ∃ n : Nat, t11 = .int .i64 (n : Int) ∧ n + f = L ∧ 0 < n ∧ n ≤ 17 ∧ Fl.pickN V LO HI ev f = c * 10 ^ z ∧ Below wD.heap.size wD wx)
        case atStart => exact ⟨1, rfl, by have := HLL.out.2; omega, by omega, by omega, HP.out, Below.refl _ _⟩
        case round =>
          obtain ⟨n, rfl, hnf, hn0, hn17, hpk, hbx⟩ := hrel
          have hlen := HLL.out.1
          have HALL := Lib.hid (fun W (hW : Below wD.heap.size wD W) => And.intro (HN.out.1.on (b_trans HD.out hW)) (And.intro (HN.out.2.1.on (b_trans HD.out hW)) (And.intro (HN.out.2.2.1.on (b_trans HD.out hW)) (HQ.out W (b_trans HN.out.2.2.2 (b_trans HD.out hW))))))
          cases gk with
          | zero =>
            obtain rfl : n = L := by omega
            have hin : decide ((n : Int) < (n : Int)) = false := decide_eq_false (by omega)
            obtain ⟨N6, N7, N8, Q1, Q2⟩ := HALL.out wr hbx
            have x0 := N6.c0
            have x1 := N6.c1
            have x2 := at_block Q1 1 _ rfl
            have PL := plain93 g A6 n6 c6 c z sx wr (by rw [← hpk, Fl.pickN]; exact N6.rd) N6.cap (by have := HZ.out.2.2.2; omega) HZ.out.1 HZ.out.2.1
            rw [HRES.out] at PL
            have PL := Lib.hid PL
            have HBX := Lib.hid hbx
            clear hpk hbx hnf N6 N7 N8 Q1 Q2
            go_wp2_with fail
            refine (PL.out).mono ?_
            rintro y w29 ⟨rfl, hb29⟩
            have hbz := b_trans HBX.out hb29
            obtain ⟨_, _, _, Q1, Q2⟩ := HALL.out w29 hbz
            have r0 := at_block Q2 0 _ rfl
            have r1 := at_block Q2 1 _ rfl
            have r2 := at_block Q2 2 _ rfl
            have s0 := free_block Q2 0
            have s1 := free_block Q2 1
            have s2 := free_block Q2 2
            have HBZ := Lib.hid (b_trans HW.out.2.2 (b_trans HN.out.2.2.2 (b_trans HD.out hbz)))
            clear Q1 Q2 hbz hb29
            go_wp2_with fail
            refine bodyPost_ret (v := .agg #[.bool g, .string RES, .int .i64 (sx + (z : Int))]) (by simp [results, Tryz.results43, go_sem, r0, r1, r2]) rfl ?_
            refine ⟨by rw [HZ.out.2.2.1], ?_⟩
            have hw1 : w.heap.size ≤ X + 1 := by have := HW.out.2.1; omega
            exact ((HBZ.out.setCell (p := ⟨X + 1, 0, none⟩) hw1 _).setCell (p := ⟨X + 1, 1, none⟩) hw1 _).setCell (p := ⟨X + 1, 2, none⟩) hw1 _
          | succ j =>
            have hnL : n < L := by omega
            have hin : decide ((n : Int) < (L : Int)) = true := decide_eq_true (by omega)
            have hinn : decide (n < L) = true := decide_eq_true hnL
            have hnLi : (n : Int) ≤ (L : Int) := by omega
            have hn0i : (0 : Int) ≤ (n : Int) := by omega
            obtain ⟨hVB, l1, l2, l3, hL, l4, dd3, hi17, dd1⟩ := HV.out
            have hV0 : V ≠ 0 := by omega
            obtain ⟨k1, k2, k3⟩ := Fl.dec_cut (v := V) (n := n) (j := j + 1) hV0 (by rw [hL]; omega) hn0
            have w1' : IntKind.i64.wrap ((L : Int) - (n : Int)) = ((j + 1 : Nat) : Int) := by have := IntWalk.i64_in ((L : Int) - (n : Int)) (by omega); rw [this]; omega
            have hbig : (10 : Nat) ^ (j + 1) < 10 ^ 2000 := by
              obtain ⟨K, hK⟩ : ∃ K, K = 2000 := ⟨_, rfl⟩
              rw [← hK]
              exact Nat.pow_lt_pow_right (by decide) (by omega)
            have PW := Lib.hid (fun W => power_any 10 (j + 1) W (by decide) (by decide) (by omega) hbig)
            obtain ⟨t, ht⟩ : ∃ t, V / 10 ^ (j + 1) = t := ⟨_, rfl⟩
            rw [ht] at k1 k2 k3
            have OF := fun W => of40_ri t k3 (by omega) W
            obtain ⟨HDs, hHD⟩ : ∃ B : ByteArray, (⟨(decDigits t).toArray⟩ : ByteArray) = B := ⟨_, rfl⟩
            rw [hHD] at OF
            have OF := Lib.hid OF
            have e1 : VB.extract 0 n = HDs := by
              apply ByteArray.ext
              apply Array.toList_inj.1
              rw [data_to, ← hVB, ← hHD]
              show (decDigits V).take n = decDigits t
              rw [k1, List.take_append_of_le_length (by omega), List.take_of_length_le (by omega)]
            have HK := Lib.hid (And.intro k1 (And.intro k2 (And.intro k3 (And.intro ht (And.intro hpk (And.intro hVB hbx))))))
            clear hVB l1 l2 l3 hL l4 dd3 hi17 dd1 hV0 k1 k2 k3 hbig ht hHD hpk
            go_wp2_with fail
            refine (PW.out _).mono ?_
            rintro y w12 ⟨⟨A2, n2, c2, hc2, ha2, hr2, rfl⟩, hb12⟩
            go_upto_region 15 with fail
            obtain ⟨N12, b12⟩ := NBox.new (c := c2) hr2 hc2
            obtain ⟨w14, hw14⟩ : ∃ W, w12.alloc (.cells #[.bool false, .slice A2 n2 c2] 33) = W := ⟨_, rfl⟩
            obtain ⟨P12, hP12⟩ : ∃ p, w12.heap.size = p := ⟨_, rfl⟩
            rw [hw14, hP12] at N12
            rw [hw14] at b12
            rw [hw14, hP12]
            have HB14 := Lib.hid (b_trans (b_trans hbx hb12) b12)
            have HN12 := Lib.hid N12
            have hcells12 := Lib.hid (fun W (hW : Below w14.heap.size w14 W) => And.intro (N12.on hW).c0 (And.intro (N12.on hW).c1 hW))
            clear hw14 hP12 hb12 b12 hr2 hc2 ha2 hbx
            have hh := hcells12.out w14 (Below.refl _ _)
            obtain ⟨x0, x1, _⟩ := hh
            have hn2 : n2 ≤ 2000 := by rw [N12.len]; exact digL_few (by obtain ⟨K, hK⟩ : ∃ K, K = 2000 := ⟨_, rfl⟩; rw [← hK]; exact Nat.pow_lt_pow_right (by decide) (by omega))
            clear N12
            go_cut [13] (fun t13 wx => ∃ P13 A n' c', t13 = .pointer (some ⟨P13, 0, none⟩) ∧ NBox wx P13 A n' c' (Fl.dnN V (j + 1)) ∧ Below w14.heap.size w14 wx)
            case first =>
              go_region_held3 (fun W => W.cell? ⟨P12, 0, none⟩ = some (.bool false) ∧ W.cell? ⟨P12, 1, none⟩ = some (.slice A2 n2 c2) ∧ Below w14.heap.size w14 W)
                ((refine hcells12.out _ ?_; with_reducible (repeat' (first | assumption | exact Below.refl _ _ | exact (by assumption : _ ∧ _ ∧ Below w14.heap.size w14 _).2.2 | refine b_drew ?_ | refine b_alloc ?_ _ | refine b_set ?_ ?_ _ | exact hS15.size | exact Nat.le_refl _)); done))
                (first
                  | (go_at_call 40; refine (OF.out _).mono ?_; rintro x w15 ⟨⟨A3, m3, c3, hc3, hm3, hr3, rfl⟩, hb15⟩; have hS15 := b_trans (by assumption : _ ∧ _ ∧ Below w14.heap.size w14 _).2.2 hb15; first | (have B1 := alloc_kept hb15; have hlt1 := lt_of_block B1) | (have B1 := alloc_kept' hb15; have hlt1 := lt_of_block B1) | skip)
                  | (go_at_call 52; refine (mul_ri A3 A2 m3 n2 c3 c2 t (10 ^ (j + 1)) _ (hr3.on (by first | exact Below.refl _ _ | exact (Below.refl _ _).alloc (Nat.le_refl _) _)) (HN12.out.rd.on (by assumption : _ ∧ _ ∧ Below w14.heap.size w14 _).2.2) (Nat.le_trans hm3 (by decide)) hn2).mono ?_; rintro x w16 ⟨⟨A4, m4, c4, hc4, ha4, hr4, rfl⟩, hb16⟩; have hS16 := b_trans (by assumption : _ ∧ _ ∧ Below w14.heap.size w14 _).2.2 hb16; first | (have B2 := (hb16.block _ (lt_of_block B1)).trans B1; have t0 := at_block B2 0 _ rfl; have t1 := at_block B2 1 _ rfl; have u0 := free_block B2 0; have u1 := free_block B2 1) | (have B2 := alloc_kept' hb16; have t0 := at_block B2 0 _ rfl; have t1 := at_block B2 1 _ rfl; have u0 := free_block B2 0; have u1 := free_block B2 1) | skip))
              all_goals go_wp2_with fail
              all_goals go_meet
              all_goals have hdn : t * 10 ^ (j + 1) = Fl.dnN V (j + 1) := by rw [← HK.out.2.2.2.1]; rfl
              all_goals rw [hdn] at hr4
              all_goals have z15 := hS15.size
              all_goals first
                | exact ⟨_, _, _, _, rfl, (NBox.new hr4 hc4).1, b_alloc hS16 _⟩
                | exact ⟨_, _, _, _, rfl, nbox_set B2 hr4 hc4 (fun b off he => by have h4 := ha4 b off he; first | omega | (simp at h4; omega)), b_set (b_set hS16 (by first | omega | exact Nat.le_refl _) _) (by first | omega | exact Nat.le_refl _) _⟩
            case rest =>
              obtain ⟨P13, A13, n13, c13, rfl, N13, hb20⟩ := hcut
              obtain ⟨w20, hw20⟩ : ∃ W, W = wc := ⟨_, rfl⟩
              subst hw20
              clear x0 x1
              obtain ⟨hVB, l1, l2, l3, hL, l4, dd3, hi17, dd1⟩ := HV.out
              have hdnV : Fl.dnN V (j + 1) ≤ V := Nat.div_mul_le_self _ _
              have hVL : V < 10 ^ L := by rw [← hL, dd1]; exact dd3
              have hup : Fl.upN V (j + 1) < 10 ^ (L + 1) := by
                have h1 : Fl.upN V (j + 1) = Fl.dnN V (j + 1) + 10 ^ (j + 1) := rfl
                have h2 : (10 : Nat) ^ (j + 1) ≤ 10 ^ L := Nat.pow_le_pow_right (by decide) (by omega)
                rw [Nat.pow_succ]
                omega
              have hn13 : n13 ≤ 2000 := by rw [N13.len]; exact Nat.le_trans (digL_few (Nat.lt_of_le_of_lt hdnV hVL)) (by omega)
              have N12' := HN12.out.on hb20
              have AD := Lib.hid (add_ri A13 A2 n13 n2 c13 c2 (Fl.dnN V (j + 1)) (10 ^ (j + 1)) w20 N13.rd N12'.rd hn13 hn2)
              have x0 := N13.c0
              have x1 := N13.c1
              have y0 := N12'.c0
              have y1 := N12'.c1
              have HN13 := Lib.hid N13
              have HB20 := Lib.hid (b_trans HB14.out hb20)
              have HUP := Lib.hid (And.intro hup hdnV)
              clear hVB l1 l2 l3 hL l4 dd3 hi17 dd1 N12' N13 hb20 hdnV hVL hup
              go_wp2_with fail
              refine (AD.out).mono ?_
              rintro y w21 ⟨⟨A14, n14, c14, hc14, ha14, hr14, rfl⟩, hb21⟩
              go_upto_region 17 with fail
              obtain ⟨N14, b14⟩ := NBox.new (c := c14) (show Reads w21 w21.heap.size A14 n14 (u8s (Fl.digL (Fl.upN V (j + 1)))) from hr14) hc14
              have N13 := (HN13.out.on hb21).on b14
              have hb22 := b_trans (b_trans HB20.out hb21) b14
              obtain ⟨w22, hw22⟩ : ∃ W, w21.alloc (.cells #[.bool false, .slice A14 n14 c14] 33) = W := ⟨_, rfl⟩
              obtain ⟨P14, hP14⟩ : ∃ p, w21.heap.size = p := ⟨_, rfl⟩
              rw [hw22, hP14] at N14
              rw [hw22] at N13 hb22
              rw [hw22, hP14]
              have hn14 : n14 ≤ 2000 := by rw [N14.len]; exact Nat.le_trans (digL_few HUP.out.1) (by omega)
              have HB22 := Lib.hid hb22
              have HN3 := Lib.hid (And.intro N13 N14)
              obtain ⟨M6, M7, M8, _, _⟩ := HALL.out w22 hb22
              have hLO : n7 ≤ 2000 ∧ n8 ≤ 2000 := by
                obtain ⟨hVB, l1, l2, l3, hL, l4, dd3, hi17, dd1⟩ := HV.out
                have hVL : V < 10 ^ L := by rw [← hL, dd1]; exact dd3
                have h2 : 2 * V < 10 ^ (L + 1) := by rw [Nat.pow_succ]; omega
                refine ⟨?_, ?_⟩
                · rw [M7.len]; exact Nat.le_trans (digL_few (show LO < 10 ^ L by omega)) (by omega)
                · rw [M8.len]; exact Nat.le_trans (digL_few (show HI < 10 ^ (L + 1) by omega)) (by omega)
              have hlohi : LO < HI := by have h := HV.out; omega
              have hcells22 := Lib.hid (fun W (hW : Below w22.heap.size w22 W) => And.intro (N13.on hW).c0 (And.intro (N13.on hW).c1 (And.intro (M7.on hW).c0 (And.intro (M7.on hW).c1 (And.intro (M8.on hW).c0 (And.intro (M8.on hW).c1 (And.intro (N14.on hW).c0 (And.intro (N14.on hW).c1 hW))))))))
              have I1 := fun W (hW : Below w22.heap.size w22 W) => inside92 A13 A7 A8 n13 n7 n8 c13 c7 c8 (Fl.dnN V (j + 1)) LO HI ev W (N13.on hW).rd (M7.on hW).rd (M8.on hW).rd hn13 hLO.1 hLO.2 hlohi
              have I2 := fun W (hW : Below w22.heap.size w22 W) => inside92 A14 A7 A8 n14 n7 n8 c14 c7 c8 (Fl.upN V (j + 1)) LO HI ev W (N14.on hW).rd (M7.on hW).rd (M8.on hW).rd hn14 hLO.1 hLO.2 hlohi
              obtain ⟨ia, hia⟩ : ∃ x, Fl.insideN (Fl.dnN V (j + 1)) LO HI ev = x := ⟨_, rfl⟩
              obtain ⟨ib, hib⟩ : ∃ x, Fl.insideN (Fl.upN V (j + 1)) LO HI ev = x := ⟨_, rfl⟩
              rw [hia] at I1
              rw [hib] at I2
              have I1 := Lib.hid I1
              have I2 := Lib.hid I2
              have HIAB := Lib.hid (And.intro hia hib)
              obtain ⟨pm, hpm⟩ : ∃ p, M % 2 = p := ⟨_, rfl⟩
              have gm : (M : Int) % 2 = (pm : Int) := by omega
              have gm' : Int.tmod (M : Int) 2 = (pm : Int) := by rw [Int.tmod_eq_emod_of_nonneg (by omega)]; exact gm
              have gw : IntKind.u64.wrap (pm : Int) = (pm : Int) := by rw [IntKind.wrap_u64]; omega
              have ge : ((pm : Int) == 0) = ev := by
                rw [← HQQ.out.2.2, hpm]
                by_cases h : pm = 0
                · subst h; rfl
                · have h1 : ((pm : Int) == 0) = false := by rw [beq_eq_false_iff_ne]; omega
                  have h2 : (pm == 0) = false := by rw [beq_eq_false_iff_ne]; omega
                  rw [h1, h2]
              clear hia hib hpm hw22 hP14 hb22 hb21 b14 hr14 hc14 ha14 M6 M7 M8 hLO hlohi N13 N14 x0 x1 y0 y1
              have hh := hcells22.out w22 (Below.refl _ _)
              have hh0 := hh
              obtain ⟨x0, x1, y0, y1, z0, z1, v0, v1, _⟩ := hh0
              go_region_held3 (fun W => W.cell? ⟨P13, 0, none⟩ = some (.bool false) ∧ W.cell? ⟨P13, 1, none⟩ = some (.slice A13 n13 c13) ∧ W.cell? ⟨P6 + 1, 0, none⟩ = some (.bool false) ∧ W.cell? ⟨P6 + 1, 1, none⟩ = some (.slice A7 n7 c7) ∧ W.cell? ⟨P6 + 1 + 1, 0, none⟩ = some (.bool false) ∧ W.cell? ⟨P6 + 1 + 1, 1, none⟩ = some (.slice A8 n8 c8) ∧ W.cell? ⟨P14, 0, none⟩ = some (.bool false) ∧ W.cell? ⟨P14, 1, none⟩ = some (.slice A14 n14 c14) ∧ Below w22.heap.size w22 W)
                ((refine hcells22.out _ ?_; first | assumption | exact f8 hh | exact b_drew (f8 hh) | exact b_drew (by assumption)))
                (first | (go_at_call 92; with_reducible refine (I1.out _ (f8 (by assumption))).mono ?_; rintro x w5 ⟨rfl, hb5⟩; have hb5' := f8_trans (by assumption) hb5) | (go_at_call 92; with_reducible refine (I2.out _ (f8 (by assumption))).mono ?_; rintro x w23 ⟨rfl, hb6⟩; have hb6' := f8_trans (by assumption) hb6))
              have hb23 := hb6'
              clear hb5 hb5' hb6 hb6' hh x0 x1 y0 y1 z0 z1 v0 v1 gm gm' gw ge
              have HXW := Lib.hid (show w.heap.size ≤ X + 1 by have := HW.out.2.1; omega)
              go_upto_region 18 with fail
              go_cut [104] (fun t104 wx => t104 = .bool (!ia && !ib) ∧ wx = w23)
              case first =>
                cases ia <;> cases ib
                all_goals go_wp2_with fail
                all_goals go_meet
                all_goals exact ⟨rfl, rfl⟩
              case rest =>
                obtain ⟨rfl, rfl⟩ := hcut
                obtain ⟨w23, hw23⟩ : ∃ W, W = wc := ⟨_, rfl⟩
                subst hw23
                have hpk := HK.out.2.2.2.2.1
                rw [Fl.pickN] at hpk
                by_cases hnn : ia = false ∧ ib = false
                · obtain ⟨rfl, rfl⟩ := hnn
                  obtain ⟨hia, hib⟩ := HIAB.out
                  have hg0 : Fl.goDn V LO HI ev (j + 1) = false := by unfold Fl.goDn; rw [hia]; rfl
                  rw [hg0, hib, if_neg (by simp), if_neg (by simp)] at hpk
                  have hn16 : n ≤ 16 := by
                    rcases Nat.lt_or_ge n 17 with h | h
                    · omega
                    · have := HV.out.2.2.2.2.2.2.2.1 j (by omega)
                      rw [hia, hib] at this
                      simp at this
                  have HNX := Lib.hid (And.intro (show n + 1 + j = L by omega) (And.intro (Nat.succ_pos n) (And.intro (show n + 1 ≤ 17 by omega) (And.intro hpk (b_trans HB22.out hb23)))))
                  have g9 : IntKind.i64.wrap ((n : Int) + 1) = ((n + 1 : Nat) : Int) := by have := IntWalk.i64_in ((n : Int) + 1) (by omega); rw [this]; omega
                  have g9' : wrap64 ((n : Int) + 1) = ((n + 1 : Nat) : Int) := by unfold wrap64; omega
                  clear hia hib hg0 hpk hn16 hb23
                  go_wp2_with fail
                  go_roundg j
                  case measure => exact Nat.lt_succ_self _
                  case rel => exact ⟨n + 1, rfl, HNX.out.1, HNX.out.2.1, HNX.out.2.2.1, HNX.out.2.2.2.1, HNX.out.2.2.2.2⟩
                · have hnn' : (!ia && !ib) = false := not_both hnn
                  rw [hnn']
                  obtain ⟨hVB, l1, l2, l3, hL, l4, dd3, hi17, dd1⟩ := HV.out
                  have hVL : V < 10 ^ L := by rw [← hL, dd1]; exact dd3
                  have hp1 : (10 : Nat) ^ (L + 1) = 10 * 10 ^ L := by rw [Nat.pow_succ, Nat.mul_comm]
                  have hp2 : (10 : Nat) ^ (L + 2) = 10 * 10 ^ (L + 1) := by rw [Nat.pow_succ, Nat.mul_comm]
                  have hs1 : V + V < 10 ^ (L + 1) := by omega
                  have hs2 : Fl.dnN V (j + 1) + Fl.upN V (j + 1) < 10 ^ (L + 2) := by have := HUP.out; omega
                  have hbD23 := b_trans HB22.out hb23
                  obtain ⟨N6, N7, N8, _, _⟩ := HALL.out w23 hbD23
                  have N13 := HN3.out.1.on hb23
                  have N14 := HN3.out.2.on hb23
                  have AV := Lib.hid (fun W (hW : Below w23.heap.size w23 W) => add_ri A6 A6 n6 n6 c6 c6 V V W (N6.on hW).rd (N6.on hW).rd (by have := HZ.out.2.2.2; omega) (by have := HZ.out.2.2.2; omega))
                  have AB := Lib.hid (fun W (hW : Below w23.heap.size w23 W) => add_ri A13 A14 n13 n14 c13 c14 (Fl.dnN V (j + 1)) (Fl.upN V (j + 1)) W (N13.on hW).rd (N14.on hW).rd hn13 hn14)
                  have hcells23 := Lib.hid (fun W (hW : Below w23.heap.size w23 W) => And.intro (N6.on hW).c0 (And.intro (N6.on hW).c1 (And.intro (N13.on hW).c0 (And.intro (N13.on hW).c1 (And.intro (N14.on hW).c0 (And.intro (N14.on hW).c1 hW))))))
                  have hlv : ∀ m, (Fl.digL (V + V)).length = m → m ≤ 2000 := fun m h => by have := digL_few hs1; omega
                  have hlb : ∀ m, (Fl.digL (Fl.dnN V (j + 1) + Fl.upN V (j + 1))).length = m → m ≤ 2000 := fun m h => by have := digL_few hs2; omega
                  have HLV := Lib.hid hlv
                  have HLB := Lib.hid hlb
                  have HD23 := Lib.hid hbD23
                  have HB23 := Lib.hid hb23
                  obtain ⟨cm, hcm⟩ : ∃ c, cmpN (V + V) (Fl.dnN V (j + 1) + Fl.upN V (j + 1)) = c := ⟨_, rfl⟩
                  have HCM := Lib.hid hcm
                  have HPK := Lib.hid hpk
                  clear hVB l1 l2 l3 hL l4 dd3 hi17 dd1 hVL hp1 hp2 hs1 hs2 hbD23 hlv hlb N6 N7 N8 N13 N14 hb23 hcm hpk hnn
                  have hh := hcells23.out w23 (Below.refl _ _)
                  have hh0 := hh
                  obtain ⟨x0, x1, y0, y1, z0, z1, _⟩ := hh0
                  go_upto_region 19 with fail
                  go_cut [17] (fun t17 wx => t17 = .int .i64 cm ∧ Below w23.heap.size w23 wx)
                  case first =>
                    go_region_held3 (fun W => W.cell? ⟨P6, 0, none⟩ = some (.bool false) ∧ W.cell? ⟨P6, 1, none⟩ = some (.slice A6 n6 c6) ∧ W.cell? ⟨P13, 0, none⟩ = some (.bool false) ∧ W.cell? ⟨P13, 1, none⟩ = some (.slice A13 n13 c13) ∧ W.cell? ⟨P14, 0, none⟩ = some (.bool false) ∧ W.cell? ⟨P14, 1, none⟩ = some (.slice A14 n14 c14) ∧ Below w23.heap.size w23 W)
                      ((refine hcells23.out _ ?_; first | assumption | exact f6 hh | exact b_drew (f6 hh) | exact b_drew (by assumption)))
                      (first
                        | (go_at_call 89; with_reducible refine (AV.out _ (f6 (by assumption))).mono ?_; rintro x w5 ⟨⟨A5, m5, c5, hc5, ha5, hr5, rfl⟩, hb5⟩; have hb5' := f6_trans (by assumption) hb5)
                        | (go_at_call 89; with_reducible refine (AB.out _ (f6 (by assumption))).mono ?_; rintro x w9 ⟨⟨A9, m9, c9, hc9, ha9, hr9, rfl⟩, hb9⟩; have hb9' := f6_trans (by assumption) hb9)
                        | (go_at_call 88; refine (cmp88_ri A5 A9 m5 m9 c5 c9 (V + V) (Fl.dnN V (j + 1) + Fl.upN V (j + 1)) _ (hr5.on (by first | exact Below.refl _ _ | exact hb9)) (hr9.on (by first | exact Below.refl _ _ | exact hb5)) (HLV.out _ (by have := hr5.1; rwa [u8s_len] at this)) (HLB.out _ (by have := hr9.1; rwa [u8s_len] at this))).mono ?_; rintro x w10 ⟨rfl, hb10⟩; have hb10' := f6_trans (by assumption) hb10))
                    all_goals go_wp2_with fail
                    all_goals go_meet
                    all_goals exact ⟨by rw [HCM.out], hb10'⟩
                  case rest =>
                    obtain ⟨rfl, hb24⟩ := hcut
                    obtain ⟨w24, hw24⟩ : ∃ W, W = wc := ⟨_, rfl⟩
                    subst hw24
                    clear x0 x1 y0 y1 z0 z1 hh
                    have HB24 := Lib.hid (b_trans HD23.out hb24)
                    obtain ⟨G, hG⟩ : ∃ G, Fl.goDn V LO HI ev (j + 1) = G := ⟨_, rfl⟩
                    have hG2 := goDn_cmp V LO HI j ev
                    obtain ⟨k1, k2, k3, ht, _, hVB, _⟩ := HK.out
                    rw [hG, HIAB.out.1, HIAB.out.2, HCM.out, ht] at hG2
                    obtain ⟨par, hpar⟩ : ∃ p, (t % 2 == 0) = p := ⟨_, rfl⟩
                    rw [hpar] at hG2
                    obtain ⟨p, rfl⟩ : ∃ p, n = p + 1 := ⟨n - 1, by omega⟩
                    obtain ⟨ll, hll⟩ := Fl.dec_last t
                    have hlll : ll.length = p := by have := congrArg List.length hll; rw [k2] at this; simp at this; omega
                    have hplt : p < VB.size := by omega
                    have hby : (VB[p]'hplt).toNat = 48 + t % 10 := by
                      have e : VB[p]'hplt = UInt8.ofNat (48 + t % 10) := by
                        subst hVB
                        show (decDigits V).toArray[p] = _
                        simp only [List.getElem_toArray, k1, hll]
                        rw [List.getElem_append_left (by simp; omega), List.getElem_append_right (by omega)]
                        simp [hlll]
                      rw [e, Dc.dig_toNat (by omega)]
                    obtain ⟨xx, hxx⟩ : ∃ x, 48 + t % 10 = x := ⟨_, rfl⟩
                    rw [hxx] at hby
                    obtain ⟨d, hd⟩ : ∃ d, t % 10 = d := ⟨_, rfl⟩
                    obtain ⟨pr, hpr⟩ : ∃ d, t % 2 = d := ⟨_, rfl⟩
                    have w3 : IntKind.i64.wrap (((p + 1 : Nat) : Int) - 1) = (p : Int) := by have := IntWalk.i64_in (((p + 1 : Nat) : Int) - 1) (by omega); rw [this]; omega
                    have w3' : IntKind.i64.wrap ((p : Int) + 1 - 1) = (p : Int) := by have := IntWalk.i64_in ((p : Int) + 1 - 1) (by omega); rw [this]; omega
                    have w3n : IntKind.i64.wrap (p : Int) = (p : Int) := IntWalk.i64_in _ (by omega)
                    have w4 : IntKind.u8.wrap ((xx : Int) - 48) = (d : Int) := by rw [IntKind.wrap_u8]; omega
                    have w5 : (d : Int) % 2 = (pr : Int) := by omega
                    have w5' : Int.tmod (d : Int) 2 = (pr : Int) := by rw [Int.tmod_eq_emod_of_nonneg (by omega)]; exact w5
                    have w6' : IntKind.u8.wrap (pr : Int) = (pr : Int) := by rw [IntKind.wrap_u8]; omega
                    have w7 : ((pr : Int) == 0) = par := by
                      rw [← hpar, hpr]
                      by_cases h : pr = 0
                      · subst h; rfl
                      · have h1 : ((pr : Int) == 0) = false := by rw [beq_eq_false_iff_ne]; omega
                        have h2 : (pr == 0) = false := by rw [beq_eq_false_iff_ne]; omega
                        rw [h1, h2]
                    have hp0 : (0 : Int) ≤ (p : Int) := by omega
                    have hpL : (p : Int) < (L : Int) := by omega
                    have hs3 : cm = -1 ∨ cm = 0 ∨ cm = 1 := by rw [← HCM.out]; exact cmpN_cases _ _
                    have HG := Lib.hid hG
                    have HG2 := Lib.hid hG2
                    have HB24' := Lib.hid hb24
                    clear k1 k2 k3 ht hVB hG hG2 hpar hll hlll hxx hd hpr hb24
                    go_upto_region 20 with fail
                    go_cut [133] (fun t133 wx => t133 = .bool G ∧ wx = w24)
                    case first =>
                      cases ia with
                      | false =>
                        go_wp2_with fail
                        go_meet
                        exact ⟨by rw [HG2.out]; rfl, rfl⟩
                      | true =>
                        cases ib with
                        | false =>
                          go_wp2_with fail
                          go_meet
                          exact ⟨by rw [HG2.out]; rfl, rfl⟩
                        | true =>
                          rcases hs3 with rfl | rfl | rfl
                          · go_wp2_with fail
                            go_meet
                            exact ⟨by rw [HG2.out]; rfl, rfl⟩
                          · cases par with
                            | true =>
                              go_wp2_with fail
                              go_meet
                              exact ⟨by rw [HG2.out]; rfl, rfl⟩
                            | false =>
                              go_wp2_with fail
                              go_meet
                              exact ⟨by rw [HG2.out]; rfl, rfl⟩
                          · go_wp2_with fail
                            go_meet
                            exact ⟨by rw [HG2.out]; rfl, rfl⟩
                    case rest =>
                      obtain ⟨rfl, rfl⟩ := hcut
                      obtain ⟨w24, hw24⟩ : ∃ W, W = wc := ⟨_, rfl⟩
                      subst hw24
                      have hpk := HPK.out
                      rw [HG.out, HIAB.out.2] at hpk
                      obtain ⟨_, _, _, Q1, _⟩ := HALL.out w24 HB24.out
                      have x2 := at_block Q1 1 _ rfl
                      have N13 := (HN3.out.1.on HB23.out).on HB24'.out
                      have N14 := (HN3.out.2.on HB23.out).on HB24'.out
                      clear Q1 w3 w3' w3n w4 w5 w5' w6' w7 hby hs3
                      cases G with
                      | true =>
                        rw [if_pos rfl] at hpk
                        have y0 := N13.c0
                        have y1 := N13.c1
                        have PL := plain93 g A13 n13 c13 c z sx w24 (by rw [← hpk]; exact N13.rd) N13.cap hn13 HZ.out.1 HZ.out.2.1
                        rw [HRES.out] at PL
                        have PL := Lib.hid PL
                        clear N13 N14 hpk
                        go_wp2_with fail
                        refine (PL.out).mono ?_
                        rintro y w29 ⟨rfl, hb29⟩
                        have hbz := b_trans HB24.out hb29
                        obtain ⟨_, _, _, Q1, Q2⟩ := HALL.out w29 hbz
                        have r0 := at_block Q2 0 _ rfl
                        have r1 := at_block Q2 1 _ rfl
                        have r2 := at_block Q2 2 _ rfl
                        have s0 := free_block Q2 0
                        have s1 := free_block Q2 1
                        have s2 := free_block Q2 2
                        have HBZ := Lib.hid (b_trans HW.out.2.2 (b_trans HN.out.2.2.2 (b_trans HD.out hbz)))
                        clear Q1 Q2 hbz hb29
                        go_wp2_with fail
                        refine bodyPost_ret (v := .agg #[.bool g, .string RES, .int .i64 (sx + (z : Int))]) (by simp [results, Tryz.results43, go_sem, r0, r1, r2]) rfl ?_
                        refine ⟨by rw [HZ.out.2.2.1], ?_⟩
                        exact ((HBZ.out.setCell (p := ⟨X + 1, 0, none⟩) HXW.out _).setCell (p := ⟨X + 1, 1, none⟩) HXW.out _).setCell (p := ⟨X + 1, 2, none⟩) HXW.out _
                      | false =>
                        rw [if_neg (by simp)] at hpk
                        have hibt : ib = true := by
                          have h2 := HG2.out
                          cases ia
                          · cases ib
                            · cases hnn'
                            · rfl
                          · cases ib
                            · cases h2
                            · rfl
                        rw [hibt, if_pos rfl] at hpk
                        have y0 := N14.c0
                        have y1 := N14.c1
                        have PL := plain93 g A14 n14 c14 c z sx w24 (by rw [← hpk]; exact N14.rd) N14.cap hn14 HZ.out.1 HZ.out.2.1
                        rw [HRES.out] at PL
                        have PL := Lib.hid PL
                        clear N13 N14 hpk hibt
                        go_wp2_with fail
                        refine (PL.out).mono ?_
                        rintro y w29 ⟨rfl, hb29⟩
                        have hbz := b_trans HB24.out hb29
                        obtain ⟨_, _, _, Q1, Q2⟩ := HALL.out w29 hbz
                        have r0 := at_block Q2 0 _ rfl
                        have r1 := at_block Q2 1 _ rfl
                        have r2 := at_block Q2 2 _ rfl
                        have s0 := free_block Q2 0
                        have s1 := free_block Q2 1
                        have s2 := free_block Q2 2
                        have HBZ := Lib.hid (b_trans HW.out.2.2 (b_trans HN.out.2.2.2 (b_trans HD.out hbz)))
                        clear Q1 Q2 hbz hb29
                        go_wp2_with fail
                        refine bodyPost_ret (v := .agg #[.bool g, .string RES, .int .i64 (sx + (z : Int))]) (by simp [results, Tryz.results43, go_sem, r0, r1, r2]) rfl ?_
                        refine ⟨by rw [HZ.out.2.2.1], ?_⟩
                        exact ((HBZ.out.setCell (p := ⟨X + 1, 0, none⟩) HXW.out _).setCell (p := ⟨X + 1, 1, none⟩) HXW.out _).setCell (p := ⟨X + 1, 2, none⟩) HXW.out _
end Go.Proofs.YtjapgpmoojfhnaaGreatDoor
