/- The reference: Numeral. -/
import Derived.Test.YtmgafnflkfbckaaGreatDoorWalkXA
namespace Go.Proofs.YtmgafnflkfbckaaGreatDoor
open Go.RowKit Go.Lib

set_option maxHeartbeats 2000000 in
set_option maxRecDepth 100000 in
theorem refnumeral_any (s : ByteArray) (w : World) (hs : s.size ≤ 1048576) : Calls Tryz.prog 17 #[.string s] w fun x w' => RNumEnd w.heap.size w' x (Dc.numP 1000000 s.data.toList) ∧ Below w.heap.size w w' := by
  obtain ⟨i0, hi, hz0, hz1, hz2⟩ := info_parts info3
  obtain ⟨X, hX⟩ : ∃ X, w.heap.size = X := ⟨_, rfl⟩
  obtain ⟨w1, hw1⟩ : ∃ w1 : World, w.alloc (.cells #[.bool false, .slice none 0 0, .int .i64 0] 25) = w1 := ⟨_, rfl⟩
  have hb1 : Below X w w1 := by rw [← hw1, ← hX]; exact (Below.refl _ _).alloc (Nat.le_refl _) _
  have hX1 : w1.heap[X]? = some (.cells #[.bool false, .slice none 0 0, .int .i64 0] 25 (0, 0)) := by rw [← hw1, ← hX]; exact heap_alloc_new w _
  have hlt1 := lt_of_block hX1
  have HX1 := Lib.hid hX1
  have HW1 := Lib.hid hw1
  have HX := Lib.hid hX
  obtain ⟨L, hL⟩ : ∃ L, s.data.toList = L := ⟨_, rfl⟩
  have hLs : L.length = s.size := by rw [← hL, data_len]
  obtain ⟨neg, hneg⟩ : ∃ neg, (L.head? == some 45) = neg := ⟨_, rfl⟩
  obtain ⟨R, hR⟩ : ∃ R, Dc.numP 1000000 L = R := ⟨_, rfl⟩
  rw [hL, hR]
  have HN := Lib.hid hneg
  have HL := Lib.hid hL
  have HLS := Lib.hid hLs
  have HR := Lib.hid hR
  clear hX1 hw1 hneg hL hLs hR
  go_enter Tryz.func17, Tryz.ntmps17
  go_upto_region 2 with fail
  rw [HW1.out]
  go_cut [5] (fun t wx => t = .bool neg ∧ wx = w1)
  case first =>
    by_cases h0 : 0 < s.size
    · have hin : (0 : Int) < (s.size : Int) := by omega
      obtain ⟨d, hd⟩ : ∃ d : UInt8, s[0]'h0 = d := ⟨_, rfl⟩
      have hh := drop_head HL.out h0 hd
      rw [List.drop_zero] at hh
      by_cases h45 : d = 45
      · have hf : ((d.toNat : Int) == 45) = true := by subst h45; rfl
        have hv : neg = true := by rw [← HN.out, hh, h45]; rfl
        have HV := Lib.hid hv
        clear hv hh h45
        go_wp2_with fail
        go_meet
        exact ⟨by rw [HV.out], rfl⟩
      · have hf : ((d.toNat : Int) == 45) = false := byte_ne (c := 45) (n := 45) rfl h45
        have hv : neg = false := by rw [← HN.out, hh]; simp [h45]
        have HV := Lib.hid hv
        clear hv hh h45
        go_wp2_with fail
        go_meet
        exact ⟨by rw [HV.out], rfl⟩
    · have hin : ¬ (0 : Int) < (s.size : Int) := by omega
      have hv : neg = false := by
        have := drop_end HL.out h0
        rw [List.drop_zero] at this
        rw [← HN.out, this]; rfl
      have HV := Lib.hid hv
      clear hv
      go_wp2_with fail
      go_meet
      exact ⟨by rw [HV.out], rfl⟩
  case rest =>
    obtain ⟨rfl, hwc⟩ := hcut
    subst hwc
    obtain ⟨w1, hw1⟩ : ∃ W, W = wc := ⟨_, rfl⟩
    subst hw1
    go_upto_if 24 with fail
    go_cut [4, 5] (fun t t5 wx => ∃ a : Nat, t = .int .i64 (a : Int) ∧ t5 = .bool neg ∧ a ≤ s.size ∧ L.drop a = Dc.unsign L ∧ wx = w1)
    case first =>
      cases hn : neg with
      | true =>
        have h45 : L.head? = some 45 := by have := HN.out; rw [hn] at this; simpa using this
        have hl1 : 1 ≤ s.size := by have := (Dc.head_drop h45).2; have := HLS.out; omega
        have H45 := Lib.hid h45
        have HNB := Lib.hid hn
        clear h45 hn
        go_wp2_with fail
        go_meet
        exact ⟨1, rfl, by try rw [HNB.out], hl1, by rw [Dc.unsign, if_pos H45.out], rfl⟩
      | false =>
        have h45 : L.head? ≠ some 45 := by have := HN.out; rw [hn] at this; simpa using this
        have H45 := Lib.hid h45
        have HNB := Lib.hid hn
        clear h45 hn
        go_wp2_with fail
        go_meet
        exact ⟨0, rfl, by try rw [HNB.out], Nat.zero_le _, by rw [Dc.unsign, if_neg H45.out]; rfl, rfl⟩
    case rest =>
      obtain ⟨a, rfl, rfl, ha, hU, hwc⟩ := hcut
      subst hwc
      obtain ⟨w1, hw1⟩ : ∃ W, W = wc := ⟨_, rfl⟩
      subst hw1
      obtain ⟨U, hUU⟩ : ∃ U, Dc.unsign L = U := ⟨_, rfl⟩
      rw [hUU] at hU
      obtain ⟨r, hr⟩ : ∃ r, Dc.runN U = r := ⟨_, rfl⟩
      have hrl : r ≤ U.length := by rw [← hr]; exact Dc.runN_le _
      have hUl : U.length = s.size - a := by rw [← hU, List.length_drop, HLS.out]
      obtain ⟨z, hz⟩ : ∃ z, a + r = z := ⟨_, rfl⟩
      have hzs : z ≤ s.size := by omega
      have DG := fun W => refdigits_any s a r z W (by omega) ha (by rw [HL.out, hU]; exact hr) hz
      rw [HL.out, hU] at DG
      have HDG := Lib.hid DG
      obtain ⟨bad, hbad⟩ : ∃ b, Dc.badLead U = b := ⟨_, rfl⟩
      have hbad2 : (decide (r = 0) || (decide (1 < r) && decide (U.head? = some 48))) = bad := by rw [← hbad, Dc.badLead, hr]
      have HU := Lib.hid hU
      have HUU := Lib.hid hUU
      have HRr := Lib.hid hr
      have HB := Lib.hid hbad
      have HB2 := Lib.hid hbad2
      have HZ := Lib.hid hz
      have HUl := Lib.hid hUl
      have ha0 : (0 : Int) ≤ (a : Int) := by omega
      clear DG hU hUU hr hbad hbad2 hz hUl
      go_wp2_with fail
      refine (HDG.out _).mono ?_
      rintro x w2 ⟨v2, rfl, hown2, hb2⟩
      obtain ⟨A2, c2, rfl, hc2, hr2⟩ := own_slice hown2
      have HO2 := Lib.hid hown2
      have HR2 := Lib.hid hr2
      clear hown2 hr2
      go_upto_region 6 with fail
      go_cut [45] (fun t wx => t = .bool bad ∧ wx = w2)
      case first =>
        by_cases h0 : r = 0
        · have hf : ((z : Int) == (a : Int)) = true := by have := HZ.out; simp; omega
          have hv : bad = true := by rw [← HB2.out]; simp [h0]
          have HV := Lib.hid hv
          clear hv h0
          go_wp2_with fail
          go_meet
          exact ⟨by rw [HV.out], rfl⟩
        · have hf : ((z : Int) == (a : Int)) = false := by have := HZ.out; simp; omega
          have has : a < s.size := by have := HZ.out; omega
          have hin : (a : Int) < (s.size : Int) := by omega
          obtain ⟨d, hd⟩ : ∃ d : UInt8, s[a]'has = d := ⟨_, rfl⟩
          have hh := drop_head HL.out has hd
          rw [HU.out] at hh
          by_cases h48 : d = 48
          · have hf2 : ((d.toNat : Int) == 48) = true := by subst h48; rfl
            by_cases h1 : 1 < r
            · have hin2 : (a : Int) + 1 < (z : Int) := by have := HZ.out; omega
              have hv : bad = true := by rw [← HB2.out, hh, h48]; simp [h1]
              have HV := Lib.hid hv
              clear hv h0 hh h48
              go_wp2_with fail
              go_meet
              exact ⟨by rw [HV.out], rfl⟩
            · have hin2 : ¬ (a : Int) + 1 < (z : Int) := by have := HZ.out; omega
              have hv : bad = false := by rw [← HB2.out]; simp [h0, h1]
              have HV := Lib.hid hv
              clear hv h0 hh h48
              go_wp2_with fail
              go_meet
              exact ⟨by rw [HV.out], rfl⟩
          · have hf2 : ((d.toNat : Int) == 48) = false := byte_ne (c := 48) (n := 48) rfl h48
            have hv : bad = false := by rw [← HB2.out, hh]; simp [h0, h48]
            have HV := Lib.hid hv
            clear hv h0 hh h48
            go_wp2_with fail
            go_meet
            exact ⟨by rw [HV.out], rfl⟩
      case rest =>
        obtain ⟨rfl, hwc⟩ := hcut
        subst hwc
        obtain ⟨w2, hw2⟩ : ∃ W, W = wc := ⟨_, rfl⟩
        subst hw2
        have hq2 := (hb2.block X hlt1).trans HX1.out
        have x0 := at_block hq2 0 _ rfl
        have x1 := at_block hq2 1 _ rfl
        have x2 := at_block hq2 2 _ rfl
        have f0 := free_block hq2 0
        have f1 := free_block hq2 1
        have f2 := free_block hq2 2
        clear hq2
        cases hbb : bad with
        | true =>
          have hP : R = none := by rw [← HR.out, Dc.numP, HUU.out, HB.out, hbb, if_pos rfl]
          have HP := Lib.hid hP
          clear hP hbb
          go_wp2_with fail
          refine bodyPost_ret (v := .tuple #[.agg #[.bool false, .slice none 0 0, .int .i64 0], .bool false]) (by simp [results, Tryz.results17, go_sem, x0, x1, x2]) rfl ?_
          refine ⟨RNumEnd.bad HP.out rfl, ?_⟩
          try rw [HX.out]
          exact (((hb1.trans (hb2.mono (by omega))).setCell (p := ⟨X, 0, none⟩) (Nat.le_refl _) _).setCell (p := ⟨X, 1, none⟩) (Nat.le_refl _) _).setCell (p := ⟨X, 2, none⟩) (Nat.le_refl _) _
        | false =>
          obtain ⟨c0, hc0⟩ : ∃ c0, Dc.vals (U.take r) = c0 := ⟨_, rfl⟩
          obtain ⟨S1, hS1⟩ : ∃ S1, L.drop z = S1 := ⟨_, rfl⟩
          have hUd : U.drop r = S1 := by rw [← HU.out, List.drop_drop, HZ.out]; exact hS1
          have hnum : R = (Dc.numFrac 1000000 c0 S1).map fun p => Dc.norm neg p.1 p.2 := by
            rw [← HR.out, Dc.numP, HUU.out, HB.out, hbb, if_neg (by simp), HRr.out, hc0, hUd, HN.out]
          have hdg : Dc.Digs c0 := by rw [← hc0, ← HRr.out]; exact Dc.vals_digs Dc.runN_dig
          have hown2 := HO2.out
          have hr2 := HR2.out
          rw [hc0] at hown2 hr2
          have HO2 := Lib.hid hown2
          have HR2 := Lib.hid hr2
          have HS1 := Lib.hid hS1
          have HNUM := Lib.hid hnum
          have HDG0 := Lib.hid hdg
          have hrs : r ≤ 1048576 := by have := HUl.out; omega
          obtain ⟨dot, hdot⟩ : ∃ b, (S1.head? == some 46) = b := ⟨_, rfl⟩
          have HDT := Lib.hid hdot
          have hzi0 : (0 : Int) ≤ (z : Int) := by omega
          clear hc0 hS1 hUd hnum hdg hown2 hr2 hdot hbb
          go_upto_region 10 with fail
          go_cut [57] (fun t wx => t = .bool dot ∧ wx = w2)
          case first =>
            by_cases hzl : z < s.size
            · have hin : (z : Int) < (s.size : Int) := by omega
              obtain ⟨d, hd⟩ : ∃ d : UInt8, s[z]'hzl = d := ⟨_, rfl⟩
              have hh := drop_head HL.out hzl hd
              rw [HS1.out] at hh
              by_cases h46 : d = 46
              · have hf : ((d.toNat : Int) == 46) = true := by subst h46; rfl
                have hv : dot = true := by rw [← HDT.out, hh, h46]; rfl
                have HV := Lib.hid hv
                clear hv hh h46
                go_wp2_with fail
                go_meet
                exact ⟨by rw [HV.out], rfl⟩
              · have hf : ((d.toNat : Int) == 46) = false := byte_ne (c := 46) (n := 46) rfl h46
                have hv : dot = false := by rw [← HDT.out, hh]; simp [h46]
                have HV := Lib.hid hv
                clear hv hh h46
                go_wp2_with fail
                go_meet
                exact ⟨by rw [HV.out], rfl⟩
            · have hin : ¬ (z : Int) < (s.size : Int) := by omega
              have hv : dot = false := by
                have := drop_end HL.out hzl
                rw [HS1.out] at this
                rw [← HDT.out, this]; rfl
              have HV := Lib.hid hv
              clear hv
              go_wp2_with fail
              go_meet
              exact ⟨by rw [HV.out], rfl⟩
          case rest =>
            obtain ⟨rfl, hwc⟩ := hcut
            subst hwc
            obtain ⟨w2, hw2⟩ : ∃ W, W = wc := ⟨_, rfl⟩
            subst hw2
            go_upto_if 57 with fail
            go_cut [4, 6, 8] (fun t4 t6 t8 wx => ∃ (q : Nat) (A : Option Addr) (n cp : Nat) (C : List Nat) (e : Int), t4 = .int .i64 (q : Int) ∧ t6 = .slice A n cp ∧ t8 = .int .i64 e ∧ q ≤ s.size ∧ Reads wx wx.heap.size A n (i64s C) ∧ Dc.Digs C ∧ n ≤ 4194304 ∧ -4194304 ≤ e ∧ e ≤ 0 ∧
              Below w1.heap.size w1 wx ∧ Dc.numFrac 1000000 c0 S1 = (Dc.numTail 1000000 (L.drop q)).map fun k => (C, e + k))
            case first =>
              cases hdd : dot with
              | false =>
                have h46 : S1.head? ≠ some 46 := by have := HDT.out; rw [hdd] at this; simpa using this
                have H46 := Lib.hid h46
                clear h46 hdd
                go_wp2_with fail
                go_meet
                refine ⟨z, A2, r, c2, c0, 0, rfl, rfl, rfl, hzs, HR2.out, HDG0.out, by omega, by omega, by omega, hb2, ?_⟩
                rw [Dc.numFrac, if_neg H46.out, HS1.out]
              | true =>
                have h46 : S1.head? = some 46 := by have := HDT.out; rw [hdd] at this; simpa using this
                have hzl : z < s.size := by
                  have h1 := (Dc.head_drop h46).2
                  have h2 := HS1.out
                  rw [← h2, List.length_drop, HLS.out] at h1
                  omega
                obtain ⟨z1, hzq1⟩ : ∃ z1, z + 1 = z1 := ⟨_, rfl⟩
                have hzz1 : (z : Int) + 1 = (z1 : Int) := by omega
                obtain ⟨F, hF⟩ : ∃ F, S1.drop 1 = F := ⟨_, rfl⟩
                have hFd : L.drop z1 = F := by rw [← hF, ← HS1.out, List.drop_drop, hzq1]
                obtain ⟨m, hm⟩ : ∃ m, Dc.runN F = m := ⟨_, rfl⟩
                have hml : m ≤ F.length := by rw [← hm]; exact Dc.runN_le _
                have hFl : F.length = s.size - z1 := by rw [← hFd, List.length_drop, HLS.out]
                obtain ⟨zf, hzf⟩ : ∃ zf, z1 + m = zf := ⟨_, rfl⟩
                have DF := fun W => refdigits_any s z1 m zf W (by omega) (by omega) (by rw [HL.out, hFd]; exact hm) hzf
                rw [HL.out, hFd] at DF
                have HDF := Lib.hid DF
                have H46 := Lib.hid h46
                have HZ1 := Lib.hid hzz1
                have HF := Lib.hid hF
                have HFd := Lib.hid hFd
                have HM := Lib.hid hm
                have HZF := Lib.hid hzf
                have hms : m ≤ 1048576 := by omega
                have hzfs : zf ≤ s.size := by omega
                by_cases hm0 : m = 0
                · have hP : R = none := by rw [HNUM.out, Dc.numFrac, if_pos H46.out, HF.out, HM.out, if_pos hm0]; rfl
                  have HP := Lib.hid hP
                  have hmf : ((zf : Int) == (z : Int) + 1) = true := by simp; omega
                  clear hP h46 hzz1 hF hFd hm hzf DF hzq1 hdd hFl hm0
                  go_wp2_with fail
                  rw [HZ1.out]
                  refine (HDF.out _).mono ?_
                  rintro x w3 ⟨v3, rfl, _, hb3⟩
                  have hb23 : Below w1.heap.size w1 w3 := hb2.trans (hb3.mono hb2.size)
                  have hq2 := (hb23.block X hlt1).trans HX1.out
                  clear x0 x1 x2 f0 f1 f2
                  have x0 := at_block hq2 0 _ rfl
                  have x1 := at_block hq2 1 _ rfl
                  have x2 := at_block hq2 2 _ rfl
                  have f0 := free_block hq2 0
                  have f1 := free_block hq2 1
                  have f2 := free_block hq2 2
                  clear hq2
                  go_wp2_with fail
                  refine bodyPost_ret (v := .tuple #[.agg #[.bool false, .slice none 0 0, .int .i64 0], .bool false]) (by simp [results, Tryz.results17, go_sem, x0, x1, x2]) rfl ?_
                  refine ⟨RNumEnd.bad HP.out rfl, ?_⟩
                  try rw [HX.out]
                  exact (((hb1.trans (hb23.mono (by omega))).setCell (p := ⟨X, 0, none⟩) (Nat.le_refl _) _).setCell (p := ⟨X, 1, none⟩) (Nat.le_refl _) _).setCell (p := ⟨X, 2, none⟩) (Nat.le_refl _) _
                · have hmf : ((zf : Int) == (z : Int) + 1) = false := by simp; omega
                  obtain ⟨cf, hcf⟩ : ∃ cf, Dc.vals (F.take m) = cf := ⟨_, rfl⟩
                  have hcd : Dc.Digs cf := by rw [← hcf, ← hm]; exact Dc.vals_digs Dc.runN_dig
                  have hfin : Dc.numFrac 1000000 c0 S1 = (Dc.numTail 1000000 (L.drop zf)).map fun k => (c0 ++ cf, -(m : Int) + k) := by
                    rw [Dc.numFrac, if_pos H46.out, HF.out, HM.out, if_neg hm0, hcf, ← HS1.out, List.drop_drop, show z + (m + 1) = zf by omega]
                  have HCF := Lib.hid hcf
                  have HCD := Lib.hid hcd
                  have HFIN := Lib.hid hfin
                  clear hcf hcd hfin h46 hzz1 hF hFd hm hzf DF hzq1 hdd hFl hm0
                  go_wp2_with fail
                  rw [HZ1.out]
                  refine (HDF.out _).mono ?_
                  rintro x w3 ⟨v3, rfl, hown3, hb3⟩
                  obtain ⟨A3, c3, rfl, hc3, hr3⟩ := own_slice hown3
                  have hb23 : Below w1.heap.size w1 w3 := hb2.trans (hb3.mono hb2.size)
                  have hown23 := own_below HO2.out hb3
                  rw [HCF.out] at hr3
                  obtain ⟨V3, hV3⟩ : ∃ V, i64s cf = V := ⟨_, rfl⟩
                  obtain ⟨V2, hV2⟩ : ∃ V, i64s c0 = V := ⟨_, rfl⟩
                  have hone := i64s_one cf
                  rw [hV3] at hr3 hone
                  rw [hV2] at hown23
                  have HV3 := Lib.hid hV3
                  have HV2 := Lib.hid hV2
                  have hs3 := hb23.size
                  clear hown3 hV3 hV2
                  go_wp2_with (at_builtin; refine wpList_append_any _ rfl _ _ 23 rfl w1.heap.size 3 i0 (.int .i64 0) 8 Tryz.underlying23 hi hz0 hz1 hz2 rfl _ _ _ rfl hown23 _ A3 m c3 V3 rfl hr3 hone ?c3 ?c4 hs3 ?_)
                  case c3 => unfold maxLen; omega
                  case c4 => omega
                  intro v4 w4 hown4 hgr4
                  obtain ⟨A4, c4, rfl, hc4, hr4⟩ := own_slice hown4
                  have hb4 : Below w1.heap.size w1 w4 := hb23.grown hgr4 hs3 (fun k hk => (hown23.lt k hk).1)
                  have HR4 := Lib.hid hr4
                  clear hown4 hgr4 hown23 hr3 hr4
                  go_wp2_with fail
                  go_meet
                  refine ⟨zf, A4, r + m, c4, c0 ++ cf, -(m : Int), rfl, rfl, rfl, hzfs, ?_, Dc.digs_append HDG0.out HCD.out, by omega, by omega, by omega, hb4, HFIN.out⟩
                  rw [i64s_append, HV2.out, HV3.out]; exact HR4.out
            case rest =>
              obtain ⟨q, A, n, cp, C, e1, rfl, rfl, rfl, hqs, hrC, hdC, hn4, he0, he1, hb3, hfrac⟩ := hcut
              exact numeral_tail s L w w1 wc X q n cp neg A C c0 S1 e1 R _ _ _ _ _ _ _ _ _ _ _ _ _ _ _ _ _ _ _ _ _ _ _ _ _ _ _ _ _ _ _ _ _ _ _ _ _ _ _ _ _ _ _ _ _ _ _ _ _ _ _ _ _ _ _ _ _ _ _ _ _ _ _ _ _ _ _ _ _ _ _ _ _ _ _ _ _ _ _ _ _ _ _ _ _ _ _ _ _ _ _ _ _ _ _ _ _ _ _ _ _ _ _ _ _ _ _ _ _ _ _ _ _ _ _ _ _ _ _ _ _ _ _ _ _ _ _ _ _ _ _ _ _ _ _ _ _ _ _ _ _ _ _ _ _ _ _ _ _ _ (by assumption) hs HX HL HLS hb1 hlt1 HX1 HNUM hqs hrC hdC hn4 he0 he1 hb3 hfrac
end Go.Proofs.YtmgafnflkfbckaaGreatDoor
