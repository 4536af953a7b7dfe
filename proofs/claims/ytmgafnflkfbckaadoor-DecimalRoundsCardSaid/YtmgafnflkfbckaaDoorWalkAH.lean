/- The reference: Whole, Of. -/
import Derived.Test.YtmgafnflkfbckaaDoorWalkW
import Derived.Test.YtmgafnflkfbckaaDoorPlain8
import Derived.Test.YtmgafnflkfbckaaDoorWalkJ
namespace Go.Proofs.YtmgafnflkfbckaaDoor
open Go.RowKit Go.Lib

theorem head_of_drop {s : ByteArray} {L : List UInt8} (hL : s.data.toList = L) (h0 : 0 < s.size) {d : UInt8} (hd : s[0]'h0 = d) : L.head? = some d := by
  rw [List.head?_eq_getElem?, ← hL]; exact byte_at h0 hd
set_option maxHeartbeats 1000000 in
set_option maxRecDepth 100000 in
theorem whole_any (s : ByteArray) (w : World) (hs : s.size ≤ 1048576) : Calls Tryd.prog 16 #[.string s] w fun x w' => x = .returned (.bool (Dc.intB s.data.toList)) ∧ Below w.heap.size w w' := by
  obtain ⟨L, hL⟩ : ∃ L, s.data.toList = L := ⟨_, rfl⟩
  have hLs : L.length = s.size := by rw [← hL, data_len]
  rw [hL]
  obtain ⟨U, hU⟩ : ∃ U, Dc.intTail L = U := ⟨_, rfl⟩
  obtain ⟨B, hB⟩ : ∃ B, Dc.intB L = B := ⟨_, rfl⟩
  rw [hB]
  have hB2 := hB
  rw [Dc.intB, hU, hLs] at hB2
  have HL := Lib.hid hL
  have HLS := Lib.hid hLs
  have HU := Lib.hid hU
  have HB := Lib.hid hB2
  clear hL hLs hU hB hB2
  go_enter Tryd.func16, Tryd.ntmps16
  go_upto_region 2 with fail
  go_cut [13] (fun t wx => t = .bool (decide (1 < s.size) && decide (L.head? = some 45)) ∧ wx = w)
  case first =>
    by_cases h1 : 1 < s.size
    · have h1i : (1 : Int) < (s.size : Int) := by omega
      have hpos : (0 : Int) < (s.size : Int) := by omega
      obtain ⟨d, hd⟩ : ∃ d : UInt8, s[0]'(by omega) = d := ⟨_, rfl⟩
      have hh := head_of_drop HL.out (by omega) hd
      by_cases h45 : d = 45
      · have hf : ((d.toNat : Int) == 45) = true := by subst h45; rfl
        have hv : (decide (1 < s.size) && decide (L.head? = some 45)) = true := by rw [hh, h45]; simp [h1]
        have HV := Lib.hid hv
        clear hv hh h45
        go_wp2_with fail
        go_meet
        exact ⟨by rw [HV.out], rfl⟩
      · have hf : ((d.toNat : Int) == 45) = false := byte_ne (c := 45) (n := 45) rfl h45
        have hv : (decide (1 < s.size) && decide (L.head? = some 45)) = false := by rw [hh]; simp [h45]
        have HV := Lib.hid hv
        clear hv hh h45
        go_wp2_with fail
        go_meet
        exact ⟨by rw [HV.out], rfl⟩
    · have h1i : ¬ (1 : Int) < (s.size : Int) := by omega
      have hv : (decide (1 < s.size) && decide (L.head? = some 45)) = false := by simp [h1]
      have HV := Lib.hid hv
      clear hv
      go_wp2_with fail
      go_meet
      exact ⟨by rw [HV.out], rfl⟩
  case rest =>
    obtain ⟨rfl, hwc⟩ := hcut
    subst hwc
    obtain ⟨w1, hw1⟩ : ∃ W, W = wc := ⟨_, rfl⟩
    subst hw1
    obtain ⟨g, hg⟩ : ∃ g, (decide (1 < s.size) && decide (L.head? = some 45)) = g := ⟨_, rfl⟩
    rw [hg]
    have HG := Lib.hid hg
    clear hg
    go_upto_if 13 with fail
    go_cut [3] (fun t wx => ∃ a : Nat, t = .int .i64 (a : Int) ∧ a ≤ s.size ∧ L.drop a = U ∧ wx = w1)
    case first =>
      cases hgg : g with
      | true =>
        have h := HG.out
        rw [hgg] at h
        have h2 : 1 < s.size ∧ L.head? = some 45 := by simpa using h
        have hUe : L.drop 1 = U := by rw [← HU.out, Dc.intTail, if_pos (by rw [HLS.out]; exact h2)]
        have HUE := Lib.hid hUe
        have hl1 : 1 ≤ s.size := by omega
        clear h h2 hUe hgg
        go_wp2_with fail
        go_meet
        exact ⟨1, rfl, hl1, HUE.out, rfl⟩
      | false =>
        have h := HG.out
        rw [hgg] at h
        have h2 : ¬ (1 < s.size ∧ L.head? = some 45) := by simpa using h
        have hUe : L.drop 0 = U := by rw [← HU.out, Dc.intTail, if_neg (by rw [HLS.out]; exact h2)]; rfl
        have HUE := Lib.hid hUe
        clear h h2 hUe hgg
        go_wp2_with fail
        go_meet
        exact ⟨0, rfl, Nat.zero_le _, HUE.out, rfl⟩
    case rest =>
      obtain ⟨a, rfl, ha, hUd, hwc⟩ := hcut
      subst hwc
      obtain ⟨w1, hw1⟩ : ∃ W, W = wc := ⟨_, rfl⟩
      subst hw1
      obtain ⟨r, hr⟩ : ∃ r, Dc.runN U = r := ⟨_, rfl⟩
      have hrl : r ≤ U.length := by rw [← hr]; exact Dc.runN_le _
      have hUl : U.length = s.size - a := by rw [← hUd, List.length_drop, HLS.out]
      obtain ⟨z, hz⟩ : ∃ z, a + r = z := ⟨_, rfl⟩
      have DG := fun W => refdigits_any s a r z W (by omega) ha (by rw [HL.out, hUd]; exact hr) hz
      rw [HL.out, hUd] at DG
      obtain ⟨D, hD⟩ : ∃ D, Dc.vals (U.take r) = D := ⟨_, rfl⟩
      rw [hD] at DG
      have hDl : D.length = r := by rw [← hD, Dc.vals_len, List.length_take]; omega
      -- the test, plainly
      have hall : U.all Dc.isDig = decide (z = s.size) := by
        by_cases h : z = s.size
        · rw [decide_eq_true h]
          have h1 := Dc.runN_dig (l := U)
          rw [hr, List.take_of_length_le (by omega)] at h1
          exact h1
        · rw [decide_eq_false h]
          cases hq : U.all Dc.isDig with
          | false => rfl
          | true => exact absurd (by have := Dc.runN_all hq; omega) h
      have hB3 := HB.out
      rw [hall, hUl] at hB3
      have HDG := Lib.hid DG
      have HD := Lib.hid hD
      have HDL := Lib.hid hDl
      have HB3 := Lib.hid hB3
      have HR := Lib.hid hr
      have HUd := Lib.hid hUd
      have hrs : r ≤ 1048576 := by omega
      have hUs : U.length = s.size - a := hUl
      have HUS := Lib.hid hUs
      clear hUd hr DG hD hDl hall hB3 hUs
      go_wp2_with fail
      refine (HDG.out _).mono ?_
      rintro x w2 ⟨v2, rfl, hown2, hb2⟩
      obtain ⟨A2, c2, rfl, hc2, hr2⟩ := own_slice hown2
      clear hown2
      by_cases hzs : z = s.size
      · have hf : ((z : Int) == (s.size : Int)) = true := by simp; omega
        have hra : s.size - a = r := by omega
        by_cases h1 : 1 ≤ r
        · have h1i : (1 : Int) ≤ (r : Int) := by omega
          by_cases h4 : r ≤ 400
          · have h4i : (r : Int) ≤ 400 := by omega
            obtain ⟨b, off, u, rfl, hbB, hu, hcell⟩ := hr2.at_ (k := 0) (by omega)
            obtain ⟨x, hx, rfl⟩ := i64_at hu
            rw [Nat.add_zero] at hcell
            have has : a < s.size := by omega
            obtain ⟨d, hd⟩ : ∃ d, U.head? = some d := by
              cases hU2 : U with
              | nil => have := HUS.out; rw [hU2] at this; simp at this; omega
              | cons d U' => exact ⟨d, rfl⟩
            have hdx : x = d.toNat - 48 := by
              rw [← HD.out, Dc.vals, List.getElem?_map, List.getElem?_take, if_pos (by omega), ← List.head?_eq_getElem?, hd] at hx
              exact (Option.some.inj hx).symm
            have hdd : Dc.isDig d = true := by
              have h5 : U.all Dc.isDig = true := by
                have h6 := Dc.runN_dig (l := U)
                rw [HR.out, List.take_of_length_le (by omega)] at h6
                exact h6
              exact List.all_eq_true.1 h5 d (List.mem_of_mem_head? hd)
            have hdd := Dc.isDig_iff.1 hdd
            have hr0 : (0 : Int) < (r : Int) := by omega
            have hBv : B = !(decide (x = 0) && decide (1 < s.size)) := by
              rw [← HB3.out, hd, hra]
              have e1 : (some d == some 48) = decide (x = 0) := by
                by_cases h48 : d = 48
                · subst h48; rw [hdx]; rfl
                · have : ¬ x = 0 := by
                    intro h
                    apply h48
                    apply UInt8.toNat_inj.1
                    show d.toNat = 48
                    omega
                  rw [decide_eq_false this]
                  simpa using h48
              have e2 : (r == 0) = false := by simp; omega
              rw [e1, e2, decide_eq_true h4, decide_eq_true hzs]
              simp
            have HBV := Lib.hid hBv
            clear hBv hdx hd hdd hx hu hr2 hra hUl
            by_cases hx0 : x = 0
            · have hxf : ((x : Int) != 0) = false := by subst hx0; rfl
              by_cases hs1 : s.size = 1
              · have hsf : ((s.size : Int) == 1) = true := by rw [hs1]; rfl
                have hv : B = true := by rw [HBV.out, hs1]; simp
                have HV := Lib.hid hv
                clear hv hx0 hs1 hzs
                go_wp2_with fail
                go_ret
                exact ⟨by rw [HV.out]; rfl, hb2⟩
              · have hsf : ((s.size : Int) == 1) = false := by simp; omega
                have hv : B = false := by rw [HBV.out]; simp [hx0]; omega
                have HV := Lib.hid hv
                clear hv hx0 hs1 hzs
                go_wp2_with fail
                go_ret
                exact ⟨by rw [HV.out]; rfl, hb2⟩
            · have hxf : ((x : Int) != 0) = true := by simp; omega
              have hv : B = true := by rw [HBV.out]; simp [hx0]
              have HV := Lib.hid hv
              clear hv hx0 hzs
              go_wp2_with fail
              go_ret
              exact ⟨by rw [HV.out]; rfl, hb2⟩
          · have h4i : ¬ (r : Int) ≤ 400 := by omega
            have hv : B = false := by rw [← HB3.out, hra, decide_eq_false h4]; simp
            have HV := Lib.hid hv
            clear hv hr2 hra hzs hUl
            go_wp2_with fail
            go_ret
            exact ⟨by rw [HV.out]; rfl, hb2⟩
        · have h1i : ¬ (1 : Int) ≤ (r : Int) := by omega
          have hv : B = false := by rw [← HB3.out, hra]; simp; omega
          have HV := Lib.hid hv
          clear hv hr2 hra hzs hUl
          go_wp2_with fail
          go_ret
          exact ⟨by rw [HV.out]; rfl, hb2⟩
      · have hf : ((z : Int) == (s.size : Int)) = false := by simp; omega
        have hv : B = false := by rw [← HB3.out, decide_eq_false hzs]; simp
        have HV := Lib.hid hv
        clear hv hr2 hzs hUl
        go_wp2_with fail
        go_ret
        exact ⟨by rw [HV.out]; rfl, hb2⟩

namespace Dc
def clampR (e : Int) : Int := max (min e 100000) (-100000)
end Dc
theorem clampR_cases (e : Int) : (100000 < e ∧ Dc.clampR e = 100000) ∨ (¬ 100000 < e ∧ e < -100000 ∧ Dc.clampR e = -100000) ∨ (¬ 100000 < e ∧ ¬ e < -100000 ∧ Dc.clampR e = e) := by
  unfold Dc.clampR
  omega
set_option maxHeartbeats 1000000 in
set_option maxRecDepth 100000 in
theorem refof_any (s : ByteArray) (e : Int) (w : World) (hs : s.size ≤ 1048576) (h0 : 0 < s.size) (hall : (Dc.unsign s.data.toList).all Dc.isDig = true) :
    Calls Tryd.prog 17 #[.string s, .int .i64 e] w fun x w' => ∃ v, x = .returned v ∧ RNumO w.heap.size w' v (Dc.norm (s.data.toList.head? == some 45) (Dc.vals (Dc.unsign s.data.toList)) (Dc.clampR e)) ∧ Below w.heap.size w w' := by
  obtain ⟨X, hX⟩ : ∃ X, w.heap.size = X := ⟨_, rfl⟩
  obtain ⟨w1, hw1⟩ : ∃ w1 : World, w.alloc (.cells #[.bool false, .slice none 0 0, .int .i64 0] 25) = w1 := ⟨_, rfl⟩
  have hb1 : Below X w w1 := by rw [← hw1, ← hX]; exact (Below.refl _ _).alloc (Nat.le_refl _) _
  have hX1 : w1.heap[X]? = some (.cells #[.bool false, .slice none 0 0, .int .i64 0] 25 (0, 0)) := by rw [← hw1, ← hX]; exact heap_alloc_new w _
  have hlt1 := lt_of_block hX1
  have HX1 := Lib.hid hX1
  have HW1 := Lib.hid hw1
  have HX := Lib.hid hX
  obtain ⟨L, hL⟩ : ∃ L, s.data.toList = L := ⟨_, rfl⟩
  rw [hL] at hall
  rw [hL]
  have hLs : L.length = s.size := by rw [← hL, data_len]
  obtain ⟨g, hg⟩ : ∃ g, (L.head? == some 45) = g := ⟨_, rfl⟩
  rw [hg]
  obtain ⟨U, hU⟩ : ∃ U, Dc.unsign L = U := ⟨_, rfl⟩
  rw [hU] at hall
  rw [hU]
  obtain ⟨D, hD⟩ : ∃ D, Dc.vals U = D := ⟨_, rfl⟩
  rw [hD]
  obtain ⟨R, hR⟩ : ∃ R, Dc.norm g D (Dc.clampR e) = R := ⟨_, rfl⟩
  rw [hR]
  have HRR := Lib.hid hR
  have HD := Lib.hid hD
  have HG := Lib.hid hg
  have HL := Lib.hid hL
  have HLS := Lib.hid hLs
  have HU := Lib.hid hU
  have HALL := Lib.hid hall
  have hpi : (0 : Int) < (s.size : Int) := by omega
  clear hX1 hw1 hL hLs hg hU hall hR hD
  go_enter Tryd.func17, Tryd.ntmps17
  go_upto_region 1 with fail
  rw [HW1.out]
  go_cut [5] (fun t wx => t = .bool g ∧ wx = w1)
  case first =>
    obtain ⟨d, hd⟩ : ∃ d : UInt8, s[0]'h0 = d := ⟨_, rfl⟩
    have hh := head_of_drop HL.out h0 hd
    by_cases h45 : d = 45
    · have hf : ((d.toNat : Int) == 45) = true := by subst h45; rfl
      have hv : g = true := by rw [← HG.out, hh, h45]; rfl
      have HV := Lib.hid hv
      clear hv hh h45
      go_wp2_with fail
      go_meet
      exact ⟨by rw [HV.out], rfl⟩
    · have hf : ((d.toNat : Int) == 45) = false := byte_ne (c := 45) (n := 45) rfl h45
      have hv : g = false := by rw [← HG.out, hh]; simp [h45]
      have HV := Lib.hid hv
      clear hv hh h45
      go_wp2_with fail
      go_meet
      exact ⟨by rw [HV.out], rfl⟩
  case rest =>
    obtain ⟨rfl, hwc⟩ := hcut
    subst hwc
    obtain ⟨w1, hw1⟩ : ∃ W, W = wc := ⟨_, rfl⟩
    subst hw1
    go_upto_if 12 with fail
    go_cut [5, 6] (fun t5 t wx => t5 = .bool g ∧ ∃ a : Nat, t = .int .i64 (a : Int) ∧ a ≤ s.size ∧ L.drop a = U ∧ wx = w1)
    case first =>
      cases hgg : g with
      | true =>
        have h := HG.out
        rw [hgg] at h
        have h2 : L.head? = some 45 := by simpa using h
        have hUe : L.drop 1 = U := by rw [← HU.out, Dc.unsign, if_pos h2]
        have HUE := Lib.hid hUe
        have HGG := Lib.hid hgg
        have hl1 : 1 ≤ s.size := by omega
        clear h h2 hUe hgg
        go_wp2_with fail
        go_meet
        exact ⟨by rw [HGG.out], 1, rfl, hl1, HUE.out, rfl⟩
      | false =>
        have h := HG.out
        rw [hgg] at h
        have h2 : ¬ L.head? = some 45 := by simpa using h
        have hUe : L.drop 0 = U := by rw [← HU.out, Dc.unsign, if_neg h2]; rfl
        have HUE := Lib.hid hUe
        have HGG := Lib.hid hgg
        clear h h2 hUe hgg
        go_wp2_with fail
        go_meet
        exact ⟨by rw [HGG.out], 0, rfl, Nat.zero_le _, HUE.out, rfl⟩
    case rest =>
      obtain ⟨rfl, a, rfl, ha, hUd, hwc⟩ := hcut
      subst hwc
      obtain ⟨w1, hw1⟩ : ∃ W, W = wc := ⟨_, rfl⟩
      subst hw1
      have hUl : U.length = s.size - a := by rw [← hUd, List.length_drop, HLS.out]
      have hr : Dc.runN U = U.length := Dc.runN_all HALL.out
      obtain ⟨r, hrr⟩ : ∃ r, U.length = r := ⟨_, rfl⟩
      rw [hrr] at hr
      obtain ⟨z, hz⟩ : ∃ z, a + r = z := ⟨_, rfl⟩
      have DG := fun W => refdigits_any s a r z W (by omega) ha (by rw [HL.out, hUd]; exact hr) hz
      rw [HL.out, hUd] at DG
      rw [List.take_of_length_le (by omega), HD.out] at DG
      have hrs : r ≤ 1048576 := by omega
      have HDG := Lib.hid DG
      clear DG hUd hUl hr hrr hz
      go_wp2_with fail
      refine (HDG.out _).mono ?_
      rintro x w2 ⟨v2, rfl, hown2, hb2⟩
      obtain ⟨A2, c2, rfl, hc2, hr2⟩ := own_slice hown2
      have NO := fun E W hW hE => refnorm_any g A2 r c2 D E W hW (by omega) hE
      have NO := Lib.hid NO
      have HR2 := Lib.hid hr2
      have key : ∀ E : Int, Dc.clampR e = E → -100000 ≤ E ∧ E ≤ 100000 → Calls Tryd.prog 52 #[.bool g, .slice A2 r c2, .int .i64 E] w2 fun x w' => ∃ A c, x = .returned (.agg #[.bool R.neg, .slice A R.c.length c, .int .i64 R.e]) ∧ w'.ownsRow w2.heap.size 3 1 (.slice A R.c.length c) R.c.length (i64s R.c) ∧ Below w2.heap.size w2 w' := by
        intro E hE hEb
        refine (NO.out E w2 HR2.out (by omega)).mono ?_
        rintro x w' ⟨v, rfl, ⟨A, c, rfl, ho⟩, hb⟩
        rw [← hE, HRR.out] at ho
        rw [← hE, HRR.out]
        exact ⟨A, c, rfl, ho, hb⟩
      obtain ⟨gz, lz, ez, nz, hgz, hlz, hez, hlnz, hzz⟩ := num_letters R
      rw [hgz, hlz, hez, hlnz] at key
      have KEY := Lib.hid key
      have HZZ := Lib.hid hzz
      have HLN := Lib.hid hlnz
      clear hown2 hr2 key hgz hlz hez hlnz hzz
      have K2 := Lib.hid (KEY.out (max (min e 100000) (-100000)) rfl (by omega))
      go_wp2_with fail
      refine (K2.out).mono ?_
      rintro x w6 ⟨A6, c6, rfl, hr6, hb6⟩
      have hb16 := hb2.trans (hb6.mono hb2.size)
      have hr6 := own_base (base' := w1.heap.size) hr6 hb2.size
      have hq2 := (hb16.block X hlt1).trans HX1.out
      have x0 := at_block hq2 0 _ rfl
      have x1 := at_block hq2 1 _ rfl
      have x2 := at_block hq2 2 _ rfl
      have f0 := free_block hq2 0
      have f1 := free_block hq2 1
      have f2 := free_block hq2 2
      have HR6 := Lib.hid hr6
      clear hq2 hr6
      go_wp2_with fail
      refine bodyPost_ret (v := .agg #[.bool gz, .slice A6 nz c6, .int .i64 ez]) (by simp [results, Tryd.results17, go_sem, x0, x1, x2]) rfl ?_
      have hbE := (((hb1.trans (hb16.mono (by omega))).setCell (p := ⟨X, 0, none⟩) (Nat.le_refl _) (.bool gz)).setCell (p := ⟨X, 1, none⟩) (Nat.le_refl _) (.slice A6 nz c6)).setCell (p := ⟨X, 2, none⟩) (Nat.le_refl _) (.int .i64 ez)
      have ho := ownsRow_setCell_below (ownsRow_setCell_below (ownsRow_setCell_below HR6.out (a := ⟨X, 0, none⟩) hlt1 (.bool gz)) (a := ⟨X, 1, none⟩) hlt1 (.slice A6 nz c6)) (a := ⟨X, 2, none⟩) hlt1 (.int .i64 ez)
      refine ⟨_, rfl, ⟨A6, c6, by rw [HZZ.out, HLN.out], ?_⟩, by rw [HX.out]; exact hbE⟩
      rw [HZZ.out, HLN.out]
      exact own_base ho hb1.size
end Go.Proofs.YtmgafnflkfbckaaDoor
