/- The contract of numeral. -/
import Derived.Test.YtmgafnflkfbckaaGreatDoorPlain3
namespace Go.Proofs.YtmgafnflkfbckaaGreatDoor
open Go.RowKit Go.Lib

theorem hasprefix_any (s : ByteArray) (c : UInt8) (w : World) : Calls Tryz.prog 50 #[.string s, .string ⟨#[c]⟩] w fun x w' => x = .returned (.bool (s.data.toList.head? == some c)) ∧ w' = w := by
  have h := Tryz.strings_HasPrefix s ⟨#[c]⟩ w
  have e : (ByteArray.mk #[c]).data.toList = [c] := rfl
  rw [e, Dc.prefix_one] at h
  exact h
theorem head_of {s : ByteArray} {c : UInt8} (h : s.data.toList.head? = some c) : ∃ hl : 0 < s.size, s[0]'hl = c := by
  obtain ⟨_, h2⟩ := Dc.head_drop h
  rw [data_len] at h2
  refine ⟨h2, ?_⟩
  obtain ⟨d, hd⟩ : ∃ d : UInt8, s[0]'h2 = d := ⟨_, rfl⟩
  have := head_at (byte_at h2 hd)
  rw [h] at this
  rw [hd]; exact (Option.some.inj this).symm
theorem own_cap {w : World} {base : Nat} {e : TypeId} {A : Option Addr} {n c : Nat} {m : Nat} {xs : List Value} (h : w.ownsRow base e 1 (.slice A n c) m xs) : n = m ∧ n ≤ c := by
  rcases h.2 with ⟨h1, h2⟩ | ⟨g, cap, cur, h1, _, _, h4, _⟩
  · cases h1; exact ⟨h2.symm, Nat.le_refl _⟩
  · cases h1; exact ⟨rfl, h4⟩

/-- The number of the program's bound. -/
abbrev KP : Nat := 1099511627776

set_option maxHeartbeats 2000000 in
set_option maxRecDepth 100000 in
theorem numeral_any (s : ByteArray) (w : World) (hs : s.size ≤ 1048576) : Calls Tryz.prog 28 #[.string s] w fun x w' => ReadEnd w' x (Dc.numP KP s.data.toList) ∧ Below w.heap.size w w' := by
  obtain ⟨i0, hi, hz0, hz1, hz2⟩ := info_parts info5
  obtain ⟨X, hX⟩ : ∃ X, w.heap.size = X := ⟨_, rfl⟩
  obtain ⟨w1, hw1⟩ : ∃ w1 : World, w.alloc (.cells #[.bool false, .slice none 0 0, .int .i64 0] 46) = w1 := ⟨_, rfl⟩
  have hb1 : Below X w w1 := by rw [← hw1, ← hX]; exact (Below.refl _ _).alloc (Nat.le_refl _) _
  have hX1 : w1.heap[X]? = some (.cells #[.bool false, .slice none 0 0, .int .i64 0] 46 (0, 0)) := by rw [← hw1, ← hX]; exact heap_alloc_new w _
  have hlt1 := lt_of_block hX1
  have HX1 := Lib.hid hX1
  have HW1 := Lib.hid hw1
  have HX := Lib.hid hX
  obtain ⟨neg, hneg⟩ : ∃ neg, (s.data.toList.head? == some 45) = neg := ⟨_, rfl⟩
  have HN := Lib.hid hneg
  have PM := Lib.hid (fun W => hasprefix_any s 45 W)
  rw [hneg] at PM
  clear hX1 hw1 hneg
  go_enter Tryz.func28, Tryz.ntmps28
  go_wp2_with fail
  rw [HW1.out]
  refine (PM.out _).mono ?_
  rintro x w2 ⟨rfl, hw2⟩
  subst hw2
  go_upto_if 12 with fail
  go_cut [0, 4] (fun s0 s4 wx => ∃ S : ByteArray, s0 = .string S ∧ s4 = .bool neg ∧ S.data.toList = Dc.unsign s.data.toList ∧ S.size ≤ s.size ∧ wx = w2)
  case first =>
    cases hn : neg with
    | true =>
      have h45 : s.data.toList.head? = some 45 := by have := HN.out; rw [hn] at this; simpa using this
      obtain ⟨hl, _⟩ := head_of h45
      have h1i : (1 : Int) ≤ (s.size : Int) := by omega
      have H45 := Lib.hid h45
      have HNB := Lib.hid hn
      clear h45 hn
      go_wp2_with fail
      go_meet
      exact ⟨s.extract 1 s.size, rfl, by try rw [HNB.out], by rw [data_from, Dc.unsign, if_pos H45.out], by rw [ByteArray.size_extract]; omega, rfl⟩
    | false =>
      have h45 : s.data.toList.head? ≠ some 45 := by have := HN.out; rw [hn] at this; simpa using this
      have H45 := Lib.hid h45
      have HNB := Lib.hid hn
      clear h45 hn
      go_wp2_with fail
      go_meet
      exact ⟨s, rfl, by try rw [HNB.out], by rw [Dc.unsign, if_neg H45.out], Nat.le_refl _, rfl⟩
  case rest =>
    obtain ⟨S, rfl, rfl, hS, hSs, hwc⟩ := hcut
    subst hwc
    obtain ⟨n, hn⟩ : ∃ n, Dc.runN S.data.toList = n := ⟨_, rfl⟩
    have hnl : n ≤ S.size := by rw [← hn, ← data_len]; exact Dc.runN_le _
    have RU := Lib.hid (fun W => run_any S W (by omega))
    rw [hn] at RU
    obtain ⟨bad, hbad⟩ : ∃ b, Dc.badLead S.data.toList = b := ⟨_, rfl⟩
    have hbad2 : (decide (n = 0) || (decide (1 < n) && decide (S.data.toList.head? = some 48))) = bad := by rw [← hbad, Dc.badLead, hn]
    have HS := Lib.hid hS
    have HNN := Lib.hid hn
    have HB := Lib.hid hbad
    have HB2 := Lib.hid hbad2
    clear hS hn hbad hbad2
    go_wp2_with fail
    refine (RU.out _).mono ?_
    rintro x w3 ⟨rfl, hw3⟩
    subst hw3
    go_upto_region 5 with fail
    go_cut [27] (fun c wx => c = .bool bad ∧ wx = w3)
    case first =>
      by_cases h0 : n = 0
      · have hbt : bad = true := by rw [← HB2.out]; simp [h0]
        have HBT := Lib.hid hbt
        subst h0
        clear hbt
        go_wp2_with fail
        go_meet
        exact ⟨by rw [HBT.out], rfl⟩
      · have h0f : ((n : Int) == 0) = false := beq_eq_false_iff_ne.2 (by omega)
        by_cases h1 : 1 < n
        · have h1i : (1 : Int) < (n : Int) := by omega
          have hpos : (0 : Int) < (S.size : Int) := by omega
          obtain ⟨d, hd⟩ : ∃ d : UInt8, S[0]'(by omega) = d := ⟨_, rfl⟩
          have HD := Lib.hid (byte_at (by omega) hd)
          by_cases h48 : d = 48
          · have h48f : ((d.toNat : Int) == 48) = true := by subst h48; rfl
            have hbt : bad = true := by rw [← HB2.out, head_at HD.out, h48]; simp [h1]
            have HBT := Lib.hid hbt
            clear hbt h48
            go_wp2_with fail
            go_meet
            exact ⟨by rw [HBT.out], rfl⟩
          · have h48f : ((d.toNat : Int) == 48) = false := byte_ne (c := 48) rfl h48
            have hbt : bad = false := by rw [← HB2.out, head_at HD.out]; simp [h0, h48]
            have HBT := Lib.hid hbt
            clear hbt h48
            go_wp2_with fail
            go_meet
            exact ⟨by rw [HBT.out], rfl⟩
        · have h1i : ¬ (1 : Int) < (n : Int) := by omega
          have hbt : bad = false := by rw [← HB2.out]; simp [h0, h1]
          have HBT := Lib.hid hbt
          clear hbt
          go_wp2_with fail
          go_meet
          exact ⟨by rw [HBT.out], rfl⟩
    case rest =>
      obtain ⟨rfl, hwc⟩ := hcut
      subst hwc
      obtain ⟨w3, hw3⟩ : ∃ W, W = wc := ⟨_, rfl⟩
      subst hw3
      have x0 := at_block HX1.out 0 _ rfl
      have x1 := at_block HX1.out 1 _ rfl
      have x2 := at_block HX1.out 2 _ rfl
      have f0 := free_block HX1.out 0
      have f1 := free_block HX1.out 1
      have f2 := free_block HX1.out 2
      cases hbb : bad with
      | true =>
        have hP : Dc.numP KP s.data.toList = none := by rw [Dc.numP, ← HS.out, HB.out, hbb, if_pos rfl]
        have HP := Lib.hid hP
        clear hP hbb
        go_wp2_with fail
        refine bodyPost_ret (v := .tuple #[.agg #[.bool false, .slice none 0 0, .int .i64 0], .bool false]) (by simp [results, Tryz.results28, go_sem, x0, x1, x2]) rfl ?_
        refine ⟨ReadEnd.bad HP.out rfl, ?_⟩
        try rw [HX.out]
        exact ((hb1.setCell (p := ⟨X, 0, none⟩) (Nat.le_refl _) _).setCell (p := ⟨X, 1, none⟩) (Nat.le_refl _) _).setCell (p := ⟨X, 2, none⟩) (Nat.le_refl _) _
      | false =>
        obtain ⟨P, hP⟩ : ∃ P, S.extract 0 n = P := ⟨_, rfl⟩
        obtain ⟨S2, hS2⟩ : ∃ S2, S.extract n S.size = S2 := ⟨_, rfl⟩
        have hPd : P.data.toList = S.data.toList.take n := by rw [← hP, data_to]
        have hS2d : S2.data.toList = S.data.toList.drop n := by rw [← hS2, data_from]
        have hPs : P.size = n := by rw [← hP, ByteArray.size_extract]; omega
        have hS2s : S2.size ≤ S.size := by rw [← hS2, ByteArray.size_extract]; omega
        have hPall : P.data.toList.all Dc.isDig = true := by rw [hPd, ← HNN.out]; exact Dc.runN_dig
        have hdg : Dc.Digs (Dc.vals P.data.toList) := Dc.vals_digs hPall
        have hnum : Dc.numP KP s.data.toList = (Dc.numFrac KP (Dc.vals P.data.toList) S2.data.toList).map fun p => Dc.norm neg p.1 p.2 := by
          rw [Dc.numP, ← HS.out, HB.out, hbb, if_neg (by simp), HNN.out, ← hPd, ← hS2d, HN.out]
        have BY := Lib.hid (fun W => bytes_own P W hPall (by omega))
        have HPP := Lib.hid hP
        have HS2 := Lib.hid hS2
        have HNUM := Lib.hid hnum
        have HDG := Lib.hid hdg
        have hn0 : (0 : Int) ≤ (n : Int) := by omega
        have hnS : (n : Int) ≤ (S.size : Int) := by omega
        obtain ⟨fr, hfr⟩ : ∃ fr, (S2.data.toList.head? == some 46) = fr := ⟨_, rfl⟩
        have PD := Lib.hid (fun W => hasprefix_any S2 46 W)
        rw [hfr] at PD
        have HFR := Lib.hid hfr
        have hvl : (Dc.vals P.data.toList).length = n := by rw [Dc.vals, List.length_map, data_len, hPs]
        obtain ⟨c0, hc0⟩ : ∃ c0, Dc.vals P.data.toList = c0 := ⟨_, rfl⟩
        rw [hc0] at BY HNUM HDG hvl
        have HVL := Lib.hid hvl
        clear hP hS2 hPd hS2d hPall hdg hnum hfr hvl hc0 hbb
        go_wp2_with fail
        rw [HPP.out]
        refine (BY.out _).mono ?_
        rintro x w4 ⟨G, rfl, hGle, hG4, hb4⟩
        go_wp2_with fail
        rw [HS2.out]
        refine (PD.out _).mono ?_
        rintro x w5 ⟨rfl, hw5⟩
        subst hw5
        have hd5 : Below w3.heap.size w3 w5 := hb4
        have q := (hd5.block X hlt1).trans HX1.out
        clear x0 x1 x2 f0 f1 f2
        have x0 := at_block q 0 _ rfl
        have f0 := free_block q 0
        have x1 := at_block q 1 _ rfl
        have f1 := free_block q 1
        have x2 := at_block q 2 _ rfl
        have f2 := free_block q 2
        have HQX := Lib.hid q
        clear q
        go_upto_if 37 with fail
        have hown : w5.ownsRow w3.heap.size 5 1 (.slice (some ⟨G, 0, none⟩) n n) n (u8s c0) :=
          ⟨by rw [u8s_len, HVL.out, Nat.mul_one], Or.inr ⟨G, n, (u8s c0).toArray, rfl, hGle, hG4, Nat.le_refl _, by unfold maxLen; omega, by simp [u8s_len, HVL.out], by simp [List.take_of_length_le, u8s_len, HVL.out]⟩⟩
        have HOWN := Lib.hid hown
        clear hown
        go_cut [0, 6, 7] (fun t0 t6 t7 wx => ∃ (S3 : ByteArray) (A : Option Addr) (m cp : Nat) (c : List Nat) (e : Int), t0 = .string S3 ∧ t6 = .slice A m cp ∧ t7 = .int .i64 e ∧ S3.size ≤ S2.size ∧ Reads wx wx.heap.size A m (u8s c) ∧ Dc.Digs c ∧ m ≤ cp ∧ m ≤ 4194304 ∧ -4194304 ≤ e ∧ e ≤ 0 ∧
          Below w3.heap.size w3 wx ∧ Dc.numFrac KP c0 S2.data.toList = (Dc.numTail KP S3.data.toList).map fun k => (c, e + k))
        case first =>
          cases hfb : fr with
          | false =>
            have h46 : S2.data.toList.head? ≠ some 46 := by have := HFR.out; rw [hfb] at this; simpa using this
            have H46 := Lib.hid h46
            clear h46 hfb
            go_wp2_with fail
            go_meet
            refine ⟨S2, some ⟨G, 0, none⟩, n, n, c0, 0, rfl, rfl, rfl, Nat.le_refl _, Reads.of_own HOWN.out, HDG.out, Nat.le_refl _, by omega, by omega, by omega, hd5, ?_⟩
            rw [Dc.numFrac, if_neg H46.out]
          | true =>
            have h46 : S2.data.toList.head? = some 46 := by have := HFR.out; rw [hfb] at this; simpa using this
            obtain ⟨hl2, _⟩ := head_of h46
            have h1i : (1 : Int) ≤ (S2.size : Int) := by omega
            obtain ⟨R, hR⟩ : ∃ R, S2.extract 1 S2.size = R := ⟨_, rfl⟩
            have hRd : R.data.toList = S2.data.toList.drop 1 := by rw [← hR, data_from]
            have hRs : R.size = S2.size - 1 := by rw [← hR, ByteArray.size_extract]; omega
            obtain ⟨m, hm⟩ : ∃ m, Dc.runN R.data.toList = m := ⟨_, rfl⟩
            have hmR : m ≤ R.size := by rw [← hm, ← data_len]; exact Dc.runN_le _
            have RN := Lib.hid (fun W => run_any R W (by omega))
            rw [hm] at RN
            have H46 := Lib.hid h46
            have HR := Lib.hid hR
            have HRD := Lib.hid hRd
            have HM := Lib.hid hm
            clear h46 hfb hR hRd hm
            by_cases hm0 : m = 0
            · have hP : Dc.numP KP s.data.toList = none := by rw [HNUM.out, Dc.numFrac, if_pos H46.out, ← HRD.out, HM.out, if_pos hm0]; rfl
              have HP := Lib.hid hP
              have hm0f : ((m : Int) == 0) = true := by rw [beq_iff_eq]; omega
              clear hP
              go_wp2_with fail
              rw [HR.out]
              refine (RN.out _).mono ?_
              rintro x w6 ⟨rfl, hw6⟩
              subst hw6
              go_wp2_with fail
              refine bodyPost_ret (v := .tuple #[.agg #[.bool false, .slice none 0 0, .int .i64 0], .bool false]) (by simp [results, Tryz.results28, go_sem, x0, x1, x2]) rfl ?_
              refine ⟨ReadEnd.bad HP.out rfl, ?_⟩
              try rw [HX.out]
              exact (((hb1.trans (hd5.mono (by omega))).setCell (p := ⟨X, 0, none⟩) (Nat.le_refl _) _).setCell (p := ⟨X, 1, none⟩) (Nat.le_refl _) _).setCell (p := ⟨X, 2, none⟩) (Nat.le_refl _) _
            · have hm0f : ((m : Int) == 0) = false := beq_eq_false_iff_ne.2 (by omega)
              obtain ⟨F, hF⟩ : ∃ F, S2.extract 1 (m + 1) = F := ⟨_, rfl⟩
              have hFd : F.data.toList = R.data.toList.take m := by rw [← hF, data_extract, HRD.out, Nat.add_sub_cancel]
              have hFs : F.size = m := by rw [← hF, ByteArray.size_extract]; omega
              obtain ⟨S3, hS3⟩ : ∃ S3, S2.extract (m + 1) S2.size = S3 := ⟨_, rfl⟩
              have hS3d : S3.data.toList = S2.data.toList.drop (m + 1) := by rw [← hS3, data_from]
              have hS3s : S3.size ≤ S2.size := by rw [← hS3, ByteArray.size_extract]; omega
              have hFall : F.data.toList.all Dc.isDig = true := by rw [hFd, ← HM.out]; exact Dc.runN_dig
              have BF := Lib.hid (fun W => bytes_any F W hFall (by omega))
              have hvf : (Dc.vals F.data.toList).length = m := by rw [Dc.vals, List.length_map, data_len, hFs]
              have hdf : Dc.Digs (Dc.vals F.data.toList) := Dc.vals_digs hFall
              have hfin : Dc.numFrac KP c0 S2.data.toList = (Dc.numTail KP S3.data.toList).map fun k => (c0 ++ Dc.vals F.data.toList, -(m : Int) + k) := by
                rw [Dc.numFrac, if_pos H46.out, ← HRD.out, HM.out, if_neg hm0, hS3d, hFd]
              obtain ⟨cf, hcf⟩ : ∃ cf, Dc.vals F.data.toList = cf := ⟨_, rfl⟩
              rw [hcf, hFs] at BF
              rw [hcf] at hvf hdf hfin
              have HF := Lib.hid hF
              have HS3 := Lib.hid hS3
              have HVF := Lib.hid hvf
              have HDF := Lib.hid hdf
              have HFIN := Lib.hid hfin
              have hm1 : (m : Int) + 1 ≤ (S2.size : Int) := by omega
              have hm10 : (1 : Int) ≤ (m : Int) + 1 := by omega
              have hm11 : (0 : Int) ≤ (m : Int) + 1 := by omega
              have hmpos : 0 < m := by omega
              clear hF hS3 hvf hdf hfin hcf hFd hS3d hFall hm0
              go_wp2_with fail
              rw [HR.out]
              refine (RN.out _).mono ?_
              rintro x w6 ⟨rfl, hw6⟩
              subst hw6
              go_wp2_with fail
              rw [HF.out]
              refine (BF.out _).mono ?_
              rintro x w7 ⟨Gf, rfl, hRf, hb7⟩
              have hd7 : Below w3.heap.size w3 w7 := hd5.trans (hb7.mono hd5.size)
              have hown7 := own_below HOWN.out hb7
              have hRf1 := hRf.src hmpos
              have hnews : ∀ j u, (u8s cf)[j]? = some u → w7.cell? ((⟨Gf, 0, none⟩ : Addr).add j) = some u := by
                obtain ⟨ad, e1, _, e3⟩ := hRf1
                cases e1
                exact e3
              have hcl : (u8s cf).length = m * 1 := by rw [u8s_len, HVF.out, Nat.mul_one]
              have hone := u8s_one cf
              obtain ⟨CF, hCF⟩ : ∃ CF, u8s cf = CF := ⟨_, rfl⟩
              obtain ⟨C0, hC0⟩ : ∃ C0, u8s c0 = C0 := ⟨_, rfl⟩
              rw [hCF] at hnews hcl hone
              rw [hC0] at hown7
              have HCF := Lib.hid hCF
              have HC0 := Lib.hid hC0
              have hs37 := hd7.size
              clear hRf hRf1 hCF hC0
              go_wp2_with (at_builtin; refine wpList_append_own _ rfl _ _ 44 rfl w3.heap.size 5 i0 (.int .u8 0) 1 1 Tryz.underlying44 hi hz0 hz1 hz2 rfl (by decide) _ _ _ rfl hown7 ⟨Gf, 0, none⟩ m m CF rfl hcl hnews hone ?c3 ?c4 ?c5 ?_)
              case c3 => unfold maxLen; omega
              case c4 => omega
              case c5 => exact hs37
              intro v' w8 hown8 hgr8 _
              obtain ⟨A', c', rfl⟩ := own_form hown8
              have hd8 : Below w3.heap.size w3 w8 := hd7.grown hgr8 hs37 (fun k hk => (hown7.lt k hk).1)
              have hcap := own_cap hown8
              have HO8 := Lib.hid hown8
              clear hown8 hgr8 hown7 hnews hcl
              go_wp2_with fail
              rw [HS3.out]
              go_meet
              have hr8 := Reads.of_own HO8.out
              rw [← HC0.out, ← HCF.out] at hr8
              refine ⟨S3, A', n + m, c', c0 ++ cf, -(m : Int), rfl, rfl, rfl, hS3s, ?_, ?_, hcap.2, by omega, by omega, by omega, hd8, HFIN.out⟩
              · rw [show u8s (c0 ++ cf) = u8s c0 ++ u8s cf by simp [u8s]]; exact hr8
              · intro x hx
                rcases List.mem_append.1 hx with hx | hx
                · exact HDG.out x hx
                · exact HDF.out x hx
        case rest =>
          obtain ⟨S3, A, m, cp, c, e, rfl, rfl, rfl, hS3s, hrc, hdc, hmcp, hm4, he0, he1, hd9, hfrac⟩ := hcut
          obtain ⟨w9, hw9⟩ : ∃ W, W = wc := ⟨_, rfl⟩
          subst hw9
          have hnum2 : Dc.numP KP s.data.toList = (Dc.numTail KP S3.data.toList).map fun k => Dc.norm neg c (e + k) := by
            rw [HNUM.out, hfrac, Option.map_map]; rfl
          have HNUM2 := Lib.hid hnum2
          have HRC := Lib.hid hrc
          have HDC := Lib.hid hdc
          clear hnum2 hrc hdc hfrac hb4 hG4
          have q := (hd9.block X hlt1).trans HX1.out
          clear x0 x1 x2 f0 f1 f2
          have x0 := at_block q 0 _ rfl
          have f0 := free_block q 0
          have x1 := at_block q 1 _ rfl
          have f1 := free_block q 1
          have x2 := at_block q 2 _ rfl
          have f2 := free_block q 2
          have HQX := Lib.hid q
          clear q
          have htl : S3.toList.isEmpty = decide (S3.size = 0) := by
            rw [Lib.toList_data, ← data_len]
            cases S3.data.toList <;> simp
          go_upto_region 17 with fail
          obtain ⟨z, hz⟩ : ∃ z, decide (S3.size = 0) = z := ⟨_, rfl⟩
          rw [hz] at htl
          have HZ := Lib.hid hz
          clear hz
          go_upto_if 58 with fail
          go_cut [7] (fun t7 wx => ∃ k : Int, t7 = .int .i64 (e + k) ∧ Dc.numTail KP S3.data.toList = some k ∧ -1099511627776 ≤ k ∧ k ≤ 1099511627776 ∧ wx = w9)
          case first =>
            cases hzz : z with
            | true =>
              have hS3n : S3.data.toList = [] := by
                have h1 := HZ.out
                rw [hzz] at h1
                exact List.length_eq_zero_iff.1 (by rw [data_len]; simpa using h1)
              have HSN := Lib.hid hS3n
              clear hS3n hzz
              go_wp2_with fail
              go_meet
              exact ⟨0, by rw [Int.add_zero], by rw [HSN.out]; rfl, by omega, by omega, rfl⟩
            | false =>
              have hpos : 0 < S3.size := by
                have h1 := HZ.out
                rw [hzz] at h1
                have h2 : ¬ S3.size = 0 := by simpa using h1
                omega
              have hposi : (0 : Int) < (S3.size : Int) := by omega
              have hposi1 : (1 : Int) ≤ (S3.size : Int) := by omega
              obtain ⟨d, hd⟩ : ∃ d : UInt8, S3[0]'hpos = d := ⟨_, rfl⟩
              have hh := head_at (byte_at hpos hd)
              have HH := Lib.hid hh
              clear hh hzz
              obtain ⟨ok, hok⟩ : ∃ ok, (decide (d = 101) || decide (d = 69)) = ok := ⟨_, rfl⟩
              have HOK := Lib.hid hok
              clear hok
              go_upto_region 18 with fail
              go_cut [66] (fun t wx => t = .bool (!ok) ∧ wx = w9)
              case first =>
                by_cases h1 : d = 101
                · have h1f : ((d.toNat : Int) == 101) = true := by subst h1; rfl
                  have h1fn : ((d.toNat : Int) != 101) = false := by rw [bne, h1f]; rfl
                  have hv : ok = true := by rw [← HOK.out]; simp [h1]
                  have HV := Lib.hid hv
                  clear hv h1
                  go_wp2_with fail
                  go_meet
                  exact ⟨by rw [HV.out]; rfl, rfl⟩
                · have h1f : ((d.toNat : Int) == 101) = false := byte_ne (c := 101) (n := 101) rfl h1
                  have h1fn : ((d.toNat : Int) != 101) = true := by rw [bne, h1f]; rfl
                  by_cases h2 : d = 69
                  · have h2f : ((d.toNat : Int) == 69) = true := by subst h2; rfl
                    have h2fn : ((d.toNat : Int) != 69) = false := by rw [bne, h2f]; rfl
                    have hv : ok = true := by rw [← HOK.out]; simp [h2]
                    have HV := Lib.hid hv
                    clear hv h1 h2
                    go_wp2_with fail
                    go_meet
                    exact ⟨by rw [HV.out]; rfl, rfl⟩
                  · have h2f : ((d.toNat : Int) == 69) = false := byte_ne (c := 69) (n := 69) rfl h2
                    have h2fn : ((d.toNat : Int) != 69) = true := by rw [bne, h2f]; rfl
                    have hv : ok = false := by rw [← HOK.out]; simp [h1, h2]
                    have HV := Lib.hid hv
                    clear hv h1 h2
                    go_wp2_with fail
                    go_meet
                    exact ⟨by rw [HV.out]; rfl, rfl⟩
              case rest =>
                obtain ⟨rfl, hwc⟩ := hcut
                subst hwc
                cases hoo : ok with
                | false =>
                  have hnb : Dc.numP KP s.data.toList = none := by
                    have h1 := HOK.out
                    rw [hoo] at h1
                    have h2 : ¬ d = 101 ∧ ¬ d = 69 := by simpa using h1
                    rw [HNUM2.out, Dc.tail_bad HH.out h2.1 h2.2]; rfl
                  have HP := Lib.hid hnb
                  clear hnb hoo
                  go_wp2_with fail
                  refine bodyPost_ret (v := .tuple #[.agg #[.bool false, .slice none 0 0, .int .i64 0], .bool false]) (by simp [results, Tryz.results28, go_sem, x0, x1, x2]) rfl ?_
                  refine ⟨ReadEnd.bad HP.out rfl, ?_⟩
                  try rw [HX.out]
                  exact (((hb1.trans (hd9.mono (by omega))).setCell (p := ⟨X, 0, none⟩) (Nat.le_refl _) _).setCell (p := ⟨X, 1, none⟩) (Nat.le_refl _) _).setCell (p := ⟨X, 2, none⟩) (Nat.le_refl _) _
                | true =>
                  have hor : d = 101 ∨ d = 69 := by
                    have h1 := HOK.out
                    rw [hoo] at h1
                    simpa using h1
                  obtain ⟨S4, hS4⟩ : ∃ S4, S3.extract 1 S3.size = S4 := ⟨_, rfl⟩
                  have hS4d : S4.data.toList = S3.data.toList.drop 1 := by rw [← hS4, data_from]
                  have hS4s : S4.size ≤ S3.size := by rw [← hS4, ByteArray.size_extract]; omega
                  obtain ⟨mi, hmi⟩ : ∃ mi, (S4.data.toList.head? == some 45) = mi := ⟨_, rfl⟩
                  obtain ⟨pl, hpl⟩ : ∃ pl, (S4.data.toList.head? == some 43) = pl := ⟨_, rfl⟩
                  have PMI := Lib.hid (fun W => hasprefix_any S4 45 W)
                  have PPL := Lib.hid (fun W => hasprefix_any S4 43 W)
                  rw [hmi] at PMI
                  rw [hpl] at PPL
                  have HOR := Lib.hid hor
                  have HS4 := Lib.hid hS4
                  have HS4D := Lib.hid hS4d
                  have HMI := Lib.hid hmi
                  have HPL := Lib.hid hpl
                  clear hor hS4 hS4d hmi hpl hoo
                  go_wp2_with fail
                  rw [HS4.out]
                  refine (PMI.out _).mono ?_
                  rintro x w10 ⟨rfl, hw10⟩
                  subst hw10
                  go_upto_region 22 with fail
                  obtain ⟨sg, hsg⟩ : ∃ sg, (mi || pl) = sg := ⟨_, rfl⟩
                  have HSG := Lib.hid hsg
                  clear hsg
                  go_cut [8, 76] (fun t8 t wx => t8 = .bool mi ∧ t = .bool sg ∧ wx = w10)
                  case first =>
                    by_cases h1 : mi = true
                    · have H1 := Lib.hid h1
                      go_wp2_with fail
                      go_meet
                      exact ⟨by try rw [H1.out], by rw [← HSG.out, H1.out]; rfl, rfl⟩
                    · have h1f : mi = false := by simpa using h1
                      have H1 := Lib.hid h1f
                      clear h1
                      go_wp2_with fail
                      refine (PPL.out _).mono ?_
                      rintro x w11 ⟨rfl, hw11⟩
                      subst hw11
                      go_wp2_with fail
                      go_meet
                      exact ⟨by try rw [H1.out], by rw [← HSG.out, H1.out]; rfl, rfl⟩
                  case rest =>
                    obtain ⟨rfl, rfl, hwc⟩ := hcut
                    subst hwc
                    obtain ⟨w12, hw12⟩ : ∃ W, W = wc := ⟨_, rfl⟩
                    subst hw12
                    go_upto_if 76 with fail
                    go_cut [0, 8] (fun t0 t8 wx => ∃ T : ByteArray, t0 = .string T ∧ t8 = .bool mi ∧ T.data.toList = (if S4.data.toList.head? = some 45 ∨ S4.data.toList.head? = some 43 then S4.data.toList.drop 1 else S4.data.toList) ∧ T.size ≤ S4.size ∧ wx = w12)
                    case first =>
                      cases hmp : sg with
                      | true =>
                        have hmp' : (mi || pl) = true := by rw [HSG.out, hmp]
                        have hor2 : S4.data.toList.head? = some 45 ∨ S4.data.toList.head? = some 43 := by
                          rcases Bool.or_eq_true_iff.1 hmp' with h | h
                          · left; have := HMI.out; rw [h] at this; simpa using this
                          · right; have := HPL.out; rw [h] at this; simpa using this
                        have hs4 : 0 < S4.size := by
                          rcases hor2 with h | h
                          · exact (head_of h).1
                          · exact (head_of h).1
                        have hs4i : (1 : Int) ≤ (S4.size : Int) := by omega
                        have HO2 := Lib.hid hor2
                        clear hor2 hmp' hmp
                        go_wp2_with fail
                        go_meet
                        exact ⟨S4.extract 1 S4.size, rfl, rfl, by rw [data_from, if_pos HO2.out], by rw [ByteArray.size_extract]; omega, rfl⟩
                      | false =>
                        have hmp2 : (mi || pl) = false := by rw [HSG.out, hmp]
                        have hnor : ¬ (S4.data.toList.head? = some 45 ∨ S4.data.toList.head? = some 43) := by
                          obtain ⟨h1, h2⟩ := Bool.or_eq_false_iff.1 hmp2
                          rintro (h | h)
                          · have := HMI.out; rw [h1, h] at this; simp at this
                          · have := HPL.out; rw [h2, h] at this; simp at this
                        have HO2 := Lib.hid hnor
                        clear hnor hmp hmp2
                        go_wp2_with fail
                        go_meet
                        exact ⟨S4, rfl, rfl, by rw [if_neg HO2.out], Nat.le_refl _, rfl⟩
                    case rest =>
                      obtain ⟨T, rfl, rfl, hT, hTs, hwc⟩ := hcut
                      subst hwc
                      obtain ⟨w13, hw13⟩ : ∃ W, W = wc := ⟨_, rfl⟩
                      subst hw13
                      have htail := Dc.tail_is (K := KP) HH.out HOR.out (t := T.data.toList) (by rw [← HS4D.out]; exact hT.symm)
                      rw [← HS4D.out] at htail
                      obtain ⟨r, hr⟩ : ∃ r, Dc.runN T.data.toList = r := ⟨_, rfl⟩
                      have RT := Lib.hid (fun W => run_any T W (by omega))
                      rw [hr] at RT
                      rw [hr, data_len] at htail
                      have htle : T.toList.isEmpty = decide (T.size = 0) := by
                        rw [Lib.toList_data, ← data_len]
                        cases T.data.toList <;> simp
                      by_cases hT0 : T.size = 0
                      · have hTn : T.data.toList = [] := List.length_eq_zero_iff.1 (by rw [data_len]; exact hT0)
                        rw [if_pos (Or.inl hTn)] at htail
                        have HP : Hid (Dc.numP KP s.data.toList = none) := by rw [HNUM2.out, htail]; rfl
                        have hte2 : T.toList.isEmpty = true := by rw [htle]; simp [hT0]
                        clear htail hTn hT htle hr
                        go_wp2_with fail
                        refine bodyPost_ret (v := .tuple #[.agg #[.bool false, .slice none 0 0, .int .i64 0], .bool false]) (by simp [results, Tryz.results28, go_sem, x0, x1, x2]) rfl ?_
                        refine ⟨ReadEnd.bad HP.out rfl, ?_⟩
                        try rw [HX.out]
                        exact (((hb1.trans (hd9.mono (by omega))).setCell (p := ⟨X, 0, none⟩) (Nat.le_refl _) _).setCell (p := ⟨X, 1, none⟩) (Nat.le_refl _) _).setCell (p := ⟨X, 2, none⟩) (Nat.le_refl _) _
                      · have hTn : ¬ T.data.toList = [] := fun h => hT0 (by rw [← data_len, h]; rfl)
                        have hte2 : T.toList.isEmpty = false := by rw [htle]; simp [hT0]
                        by_cases hrl : r = T.size
                        · have hTall : T.data.toList.all Dc.isDig = true := by
                            have := Dc.runN_dig (l := T.data.toList)
                            rwa [hr, hrl, List.take_of_length_le (by rw [data_len]; omega)] at this
                          obtain ⟨N, hN⟩ : ∃ N, Dc.smallN 1099511627776 T.data.toList = N := ⟨_, rfl⟩
                          have hNle : N ≤ 1099511627776 := by rw [← hN]; exact Dc.smallN_le _ _
                          have SM := Lib.hid (fun W => small_any T W hTall (by omega))
                          rw [hN] at SM
                          rw [if_neg (by rintro (h | h); exact hTn h; exact h hrl), show Dc.smallN KP T.data.toList = N from hN] at htail
                          have hrlf : ((r : Int) != (T.size : Int)) = false := by simp [hrl]
                          have HTL := Lib.hid htail
                          have HRL := Lib.hid hrl
                          clear htail hTn hT htle hr hrl hTall hN
                          by_cases hm1 : mi = true
                          · have hh45 : S4.data.toList.head? = some 45 := by have := HMI.out; rw [hm1] at this; simpa using this
                            have hk : Dc.numTail KP S3.data.toList = some (-(N : Int)) := by rw [HTL.out, if_pos hh45]
                            have HK := Lib.hid hk
                            clear hh45 hk
                            go_wp2_with fail
                            refine (RT.out _).mono ?_
                            rintro x w14 ⟨rfl, hw14⟩
                            subst hw14
                            go_wp2_with fail
                            refine (SM.out _).mono ?_
                            rintro x w15 ⟨rfl, hw15⟩
                            subst hw15
                            go_wp2_with fail
                            go_meet
                            exact ⟨-(N : Int), rfl, HK.out, by omega, by omega, rfl⟩
                          · have hm1f : mi = false := by simpa using hm1
                            have hh45 : ¬ S4.data.toList.head? = some 45 := by have := HMI.out; rw [hm1f] at this; simpa using this
                            have hk : Dc.numTail KP S3.data.toList = some (N : Int) := by rw [HTL.out, if_neg hh45]
                            have HK := Lib.hid hk
                            clear hh45 hk hm1
                            go_wp2_with fail
                            refine (RT.out _).mono ?_
                            rintro x w14 ⟨rfl, hw14⟩
                            subst hw14
                            go_wp2_with fail
                            refine (SM.out _).mono ?_
                            rintro x w15 ⟨rfl, hw15⟩
                            subst hw15
                            go_wp2_with fail
                            go_meet
                            exact ⟨(N : Int), rfl, HK.out, by omega, by omega, rfl⟩
                        · rw [if_pos (Or.inr hrl)] at htail
                          have HP : Hid (Dc.numP KP s.data.toList = none) := by rw [HNUM2.out, htail]; rfl
                          have hrlf : ((r : Int) != (T.size : Int)) = true := by simp; omega
                          clear htail hTn hT htle hr
                          go_wp2_with fail
                          refine (RT.out _).mono ?_
                          rintro x w14 ⟨rfl, hw14⟩
                          subst hw14
                          go_wp2_with fail
                          refine bodyPost_ret (v := .tuple #[.agg #[.bool false, .slice none 0 0, .int .i64 0], .bool false]) (by simp [results, Tryz.results28, go_sem, x0, x1, x2]) rfl ?_
                          refine ⟨ReadEnd.bad HP.out rfl, ?_⟩
                          try rw [HX.out]
                          exact (((hb1.trans (hd9.mono (by omega))).setCell (p := ⟨X, 0, none⟩) (Nat.le_refl _) _).setCell (p := ⟨X, 1, none⟩) (Nat.le_refl _) _).setCell (p := ⟨X, 2, none⟩) (Nat.le_refl _) _
          case rest =>
            obtain ⟨k, rfl, hk, hk0, hk1, hwc⟩ := hcut
            subst hwc
            obtain ⟨w16, hw16⟩ : ∃ W, W = wc := ⟨_, rfl⟩
            subst hw16
            have hnf : Dc.numP KP s.data.toList = some (Dc.norm neg c (e + k)) := by rw [HNUM2.out, hk]; rfl
            have HNF := Lib.hid hnf
            have NO := Lib.hid (norm_any neg A m cp c (e + k) w16 HRC.out hmcp (by omega) (by omega))
            clear hnf hk
            go_wp2_with fail
            refine (NO.out).mono ?_
            rintro x w17 ⟨v, rfl, ⟨A', rfl, hr17⟩, hb17⟩
            obtain ⟨y, hy⟩ : ∃ y, Dc.norm neg c (e + k) = y := ⟨_, rfl⟩
            rw [hy] at HNF hr17 ⊢
            obtain ⟨gy, hgy⟩ : ∃ z, y.neg = z := ⟨_, rfl⟩
            obtain ⟨ny, hny⟩ : ∃ z, y.c.length = z := ⟨_, rfl⟩
            obtain ⟨ey, hey⟩ : ∃ z, y.e = z := ⟨_, rfl⟩
            rw [hgy, hny, hey]
            rw [hny] at hr17
            have hd17 := hd9.trans (hb17.mono hd9.size)
            have q := (hd17.block X hlt1).trans HX1.out
            clear x0 x1 x2 f0 f1 f2
            have x0 := at_block q 0 _ rfl
            have x1 := at_block q 1 _ rfl
            have x2 := at_block q 2 _ rfl
            have f0 := free_block q 0
            have f1 := free_block q 1
            have f2 := free_block q 2
            have HQ17 := Lib.hid q
            have HGY := Lib.hid hgy
            have HNY := Lib.hid hny
            have HEY := Lib.hid hey
            have HR17 := Lib.hid hr17
            clear q hgy hny hey hy hr17
            go_wp2_with fail
            refine bodyPost_ret (v := .tuple #[.agg #[.bool gy, .slice A' ny ny, .int .i64 ey], .bool true]) (by simp [results, Tryz.results28, go_sem, x0, x1, x2]) rfl ?_
            refine ⟨?_, ?_⟩
            · rw [HNF.out]
              refine ⟨gy, A', ny, ey, rfl, fun y' hy' => ?_⟩
              cases hy'
              refine ⟨HGY.out.symm, HNY.out.symm, HEY.out.symm, ?_⟩
              refine Reads.more (Reads.beside HR17.out HQ17.out fun k hk => ?_) (by simp [World.setCell])
              rw [Below.heap_setCell _ _ _ _ hk, Below.heap_setCell _ _ _ _ hk, Below.heap_setCell _ _ _ _ hk]
            · try rw [HX.out]
              exact (((hb1.trans (hd17.mono (by omega))).setCell (p := ⟨X, 0, none⟩) (Nat.le_refl _) _).setCell (p := ⟨X, 1, none⟩) (Nat.le_refl _) _).setCell (p := ⟨X, 2, none⟩) (Nat.le_refl _) _
end Go.Proofs.YtmgafnflkfbckaaGreatDoor
