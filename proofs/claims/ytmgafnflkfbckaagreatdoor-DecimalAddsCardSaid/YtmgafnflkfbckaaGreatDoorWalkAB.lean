/- The reference: Read. -/
import Derived.Test.YtmgafnflkfbckaaGreatDoorWalkX
namespace Go.Proofs.YtmgafnflkfbckaaGreatDoor
open Go.RowKit Go.Lib

theorem tl_eq {T s : ByteArray} (h : T = s) : (T.toList == s.toList) = true := by subst h; simp
theorem tl_ne {T s : ByteArray} (h : ¬ T = s) : (T.toList == s.toList) = false :=
  beq_eq_false_iff_ne.2 fun e => h (ByteArray.ext (Array.ext' (by rw [← Lib.toList_data, e, Lib.toList_data])))
theorem str_eq_iff {l : List UInt8} {s : ByteArray} : (⟨l.toArray⟩ : ByteArray) = s ↔ l = s.data.toList := by
  constructor
  · intro h; rw [← h]
  · intro h; subst h; cases s; simp

set_option maxHeartbeats 1000000 in
set_option maxRecDepth 100000 in
theorem refread_any (s : ByteArray) (w : World) (hs : s.size ≤ 1048576) : Calls Tryz.prog 5 #[.string s] w fun x w' => RNumEnd w.heap.size w' x (Dc.readP s.data.toList) ∧ Below w.heap.size w w' := by
  obtain ⟨X, hX⟩ : ∃ X, w.heap.size = X := ⟨_, rfl⟩
  obtain ⟨w1, hw1⟩ : ∃ w1 : World, w.alloc (.cells #[.bool false, .slice none 0 0, .int .i64 0] 25) = w1 := ⟨_, rfl⟩
  have hb1 : Below X w w1 := by rw [← hw1, ← hX]; exact (Below.refl _ _).alloc (Nat.le_refl _) _
  have hX1 : w1.heap[X]? = some (.cells #[.bool false, .slice none 0 0, .int .i64 0] 25 (0, 0)) := by rw [← hw1, ← hX]; exact heap_alloc_new w _
  have hlt1 := lt_of_block hX1
  have HX1 := Lib.hid hX1
  have HW1 := Lib.hid hw1
  have HX := Lib.hid hX
  have NU := refnumeral_any s w1 hs
  rw [← Dc.refReadP_eq]
  obtain ⟨R, hR⟩ : ∃ R, Dc.refReadP s.data.toList = R := ⟨_, rfl⟩
  rw [hR]
  cases hn : Dc.numP 1000000 s.data.toList with
  | none =>
    have hRn : R = none := by rw [← hR, Dc.refReadP, hn]
    have HR := Lib.hid hRn
    rw [hn] at NU
    have NU := Lib.hid NU
    clear hX1 hw1 hR hn hRn
    go_enter Tryz.func5, Tryz.ntmps5
    go_wp2_with fail
    rw [HW1.out]
    refine (NU.out).mono ?_
    rintro x w2 ⟨⟨g, A, n, c, e, rfl, _⟩, hb2⟩
    have hb3 := hb2.alloc hb2.size (.cells #[.bool g, .slice A n c, .int .i64 e] 25)
    have hq := (hb3.block X hlt1).trans HX1.out
    have x0 := at_block hq 0 _ rfl
    have x1 := at_block hq 1 _ rfl
    have x2 := at_block hq 2 _ rfl
    have f0 := free_block hq 0
    have f1 := free_block hq 1
    have f2 := free_block hq 2
    clear hq
    go_wp2_with fail
    refine bodyPost_ret (v := .tuple #[.agg #[.bool false, .slice none 0 0, .int .i64 0], .bool false]) (by simp [results, Tryz.results5, go_sem, x0, x1, x2]) rfl ?_
    refine ⟨RNumEnd.bad HR.out rfl, ?_⟩
    try rw [HX.out]
    exact (((hb1.trans (hb3.mono (by omega))).setCell (p := ⟨X, 0, none⟩) (Nat.le_refl _) _).setCell (p := ⟨X, 1, none⟩) (Nat.le_refl _) _).setCell (p := ⟨X, 2, none⟩) (Nat.le_refl _) _
  | some y =>
    obtain ⟨g, l, e, n, hg, hl, he, hln, hyy⟩ := num_letters y
    obtain ⟨by1, by2, by3, by4⟩ := Dc.numP_bound hn
    rw [hn] at NU
    have hRy : R = if Dc.limit y = 0 ∧ Dc.showB y = s.data.toList then some y else none := by rw [← hR, Dc.refReadP, hn]
    rw [hyy] at hRy
    have hdl : Dc.Digs l := by rw [← hl]; exact by1.1
    have hnb : n ≤ 1048576 := by rw [hl, data_len, hln] at by2; omega
    have NU2 : Calls Tryz.prog 17 #[.string s] w1 fun x w' => ∃ A c, x = .returned (.tuple #[.agg #[.bool g, .slice A n c, .int .i64 e], .bool true]) ∧ w'.ownsRow w1.heap.size 3 1 (.slice A n c) n (i64s l) ∧ Below w1.heap.size w1 w' := by
      refine NU.mono ?_
      rintro x w' ⟨⟨g2, A, n2, c, e2, rfl, hy2⟩, hb⟩
      obtain ⟨h1, h2, h3, h4⟩ := hy2 y rfl
      rw [hl] at h2 h4
      rw [hg] at h1
      rw [he] at h3
      rw [hln] at h2
      subst h1 h2 h3
      exact ⟨A, c, rfl, h4, hb⟩
    have NU2 := Lib.hid NU2
    have LI := Lib.hid (fun A c W => reflimit_any g A n c e W)
    obtain ⟨m, hm⟩ : ∃ m, Dc.limit ⟨g, l, e⟩ = m := ⟨_, rfl⟩
    have hlim : limN n e = m := by rw [← hm, ← hln]; rfl
    rw [hlim] at LI
    rw [hm] at hRy
    have HRY := Lib.hid hRy
    have HM := Lib.hid hm
    have HDL := Lib.hid hdl
    have HLN := Lib.hid hln
    clear hX1 hw1 hR hn NU hg hl he hyy by1 by2 by3 by4 hRy hlim hdl hm hln
    by_cases h0 : m = 0
    · have hm0 : ((m : Int) != 0) = false := by simp; omega
      have hlk : Dc.limit ⟨g, l, e⟩ = 0 := by rw [HM.out]; exact h0
      obtain ⟨_, he1, he2⟩ := Dc.limit_ok.1 hlk
      have SH := fun A c W hW => show_any g A n c l e W hW HDL.out hnb ⟨by simp only at he1; omega, by simp only at he2; omega⟩
      obtain ⟨T, hT⟩ : ∃ T : ByteArray, ⟨(Dc.showB ⟨g, l, e⟩).toArray⟩ = T := ⟨_, rfl⟩
      rw [hT] at SH
      have SH := Lib.hid SH
      have HT := Lib.hid hT
      have H0 := Lib.hid h0
      clear hT h0 hlk he1 he2
      by_cases hts : T = s
      · have hne : (T.toList == s.toList) = true := tl_eq hts
        have hRe : R = some ⟨g, l, e⟩ := by rw [HRY.out, if_pos ⟨H0.out, str_eq_iff.1 (HT.out.trans hts)⟩]
        have HRE := Lib.hid hRe
        clear hRe hts
        go_enter Tryz.func5, Tryz.ntmps5
        go_wp2_with fail
        rw [HW1.out]
        refine (NU2.out).mono ?_
        rintro x w2 ⟨A, c, rfl, ho2, hb2⟩
        obtain ⟨w3, Y, hw3, hY, hb3, hY3, hcells⟩ := box_ref g A n c e w2
        have hb13 := hb2.trans (hb3.mono hb2.size)
        have HW3 := Lib.hid hw3
        have HY := Lib.hid hY
        have HC := Lib.hid hcells
        have ho3 := own_below ho2 hb3
        have HO3 := Lib.hid ho3
        have hr3 := Reads.of_own ho3
        have HR3 := Lib.hid hr3
        have hd3 : Below w3.heap.size w3 w3 := Below.refl _ _
        obtain ⟨y0, y1, y2, _⟩ := hcells w3 hd3
        clear hw3 hY hcells ho2 ho3 hr3
        go_upto_region 2 with fail
        rw [HW3.out, HY.out]
        go_wp2_with fail
        refine (LI.out A c _).mono ?_
        rintro x w4 ⟨rfl, hb4⟩
        clear y0 y1 y2
        obtain ⟨y0, y1, y2, _⟩ := HC.out _ hb4
        go_wp2_with fail
        refine (SH.out A c _ (HR3.out.on hb4)).mono ?_
        rintro x w5 ⟨rfl, hb5⟩
        have hb35 := hb4.trans (hb5.mono hb4.size)
        have hb15 := hb13.trans (hb35.mono hb13.size)
        clear y0 y1 y2
        obtain ⟨y0, y1, y2, _⟩ := HC.out _ hb35
        have hq := (hb15.block X hlt1).trans HX1.out
        have x0 := at_block hq 0 _ rfl
        have x1 := at_block hq 1 _ rfl
        have x2 := at_block hq 2 _ rfl
        have f0 := free_block hq 0
        have f1 := free_block hq 1
        have f2 := free_block hq 2
        clear hq
        go_wp2_with fail
        refine bodyPost_ret (v := .tuple #[.agg #[.bool g, .slice A n c, .int .i64 e], .bool true]) (by simp [results, Tryz.results5, go_sem, x0, x1, x2]) rfl ?_
        have ho := own_below HO3.out hb35
        have ho2 := ownsRow_setCell_below (ownsRow_setCell_below (ownsRow_setCell_below ho (a := ⟨X, 0, none⟩) hlt1 (.bool g)) (a := ⟨X, 1, none⟩) hlt1 (.slice A n c)) (a := ⟨X, 2, none⟩) hlt1 (.int .i64 e)
        have hbE := (((hb1.trans (hb15.mono (by omega))).setCell (p := ⟨X, 0, none⟩) (Nat.le_refl _) (.bool g)).setCell (p := ⟨X, 1, none⟩) (Nat.le_refl _) (.slice A n c)).setCell (p := ⟨X, 2, none⟩) (Nat.le_refl _) (.int .i64 e)
        refine ⟨⟨g, A, n, c, e, by rw [HRE.out]; rfl, fun yy hyy => ?_⟩, by rw [HX.out]; exact hbE⟩
        rw [HRE.out] at hyy
        obtain rfl := Option.some.inj hyy
        exact ⟨rfl, HLN.out.symm, rfl, own_base ho2 hb1.size⟩
      · have hne : (T.toList == s.toList) = false := tl_ne hts
        have hRe : R = none := by rw [HRY.out, if_neg (fun h => hts (HT.out.symm.trans (str_eq_iff.2 h.2)))]
        have HRE := Lib.hid hRe
        clear hRe hts
        go_enter Tryz.func5, Tryz.ntmps5
        go_wp2_with fail
        rw [HW1.out]
        refine (NU2.out).mono ?_
        rintro x w2 ⟨A, c, rfl, ho2, hb2⟩
        obtain ⟨w3, Y, hw3, hY, hb3, hY3, hcells⟩ := box_ref g A n c e w2
        have hb13 := hb2.trans (hb3.mono hb2.size)
        have HW3 := Lib.hid hw3
        have HY := Lib.hid hY
        have HC := Lib.hid hcells
        have ho3 := own_below ho2 hb3
        have hr3 := Reads.of_own ho3
        have HR3 := Lib.hid hr3
        have hd3 : Below w3.heap.size w3 w3 := Below.refl _ _
        obtain ⟨y0, y1, y2, _⟩ := hcells w3 hd3
        clear hw3 hY hcells ho2 ho3 hr3
        go_upto_region 2 with fail
        rw [HW3.out, HY.out]
        go_wp2_with fail
        refine (LI.out A c _).mono ?_
        rintro x w4 ⟨rfl, hb4⟩
        clear y0 y1 y2
        obtain ⟨y0, y1, y2, _⟩ := HC.out _ hb4
        go_wp2_with fail
        refine (SH.out A c _ (HR3.out.on hb4)).mono ?_
        rintro x w5 ⟨rfl, hb5⟩
        have hb35 := hb4.trans (hb5.mono hb4.size)
        have hb15 := hb13.trans (hb35.mono hb13.size)
        have hq := (hb15.block X hlt1).trans HX1.out
        have x0 := at_block hq 0 _ rfl
        have x1 := at_block hq 1 _ rfl
        have x2 := at_block hq 2 _ rfl
        have f0 := free_block hq 0
        have f1 := free_block hq 1
        have f2 := free_block hq 2
        clear hq
        go_wp2_with fail
        refine bodyPost_ret (v := .tuple #[.agg #[.bool false, .slice none 0 0, .int .i64 0], .bool false]) (by simp [results, Tryz.results5, go_sem, x0, x1, x2]) rfl ?_
        refine ⟨RNumEnd.bad HRE.out rfl, ?_⟩
        rw [HX.out]
        exact (((hb1.trans (hb15.mono (by omega))).setCell (p := ⟨X, 0, none⟩) (Nat.le_refl _) _).setCell (p := ⟨X, 1, none⟩) (Nat.le_refl _) _).setCell (p := ⟨X, 2, none⟩) (Nat.le_refl _) _
    · have hm0 : ((m : Int) != 0) = true := by simp; omega
      have hRe : R = none := by rw [HRY.out, if_neg (fun h => h0 h.1)]
      have HRE := Lib.hid hRe
      clear hRe h0
      go_enter Tryz.func5, Tryz.ntmps5
      go_wp2_with fail
      rw [HW1.out]
      refine (NU2.out).mono ?_
      rintro x w2 ⟨A, c, rfl, ho2, hb2⟩
      obtain ⟨w3, Y, hw3, hY, hb3, hY3, hcells⟩ := box_ref g A n c e w2
      have hb13 := hb2.trans (hb3.mono hb2.size)
      have HW3 := Lib.hid hw3
      have HY := Lib.hid hY
      have hd3 : Below w3.heap.size w3 w3 := Below.refl _ _
      obtain ⟨y0, y1, y2, _⟩ := hcells w3 hd3
      clear hw3 hY hcells ho2
      go_upto_region 2 with fail
      rw [HW3.out, HY.out]
      go_wp2_with fail
      refine (LI.out A c _).mono ?_
      rintro x w4 ⟨rfl, hb4⟩
      have hb15 := hb13.trans (hb4.mono hb13.size)
      have hq := (hb15.block X hlt1).trans HX1.out
      have x0 := at_block hq 0 _ rfl
      have x1 := at_block hq 1 _ rfl
      have x2 := at_block hq 2 _ rfl
      have f0 := free_block hq 0
      have f1 := free_block hq 1
      have f2 := free_block hq 2
      clear hq y0 y1 y2
      go_wp2_with fail
      refine bodyPost_ret (v := .tuple #[.agg #[.bool false, .slice none 0 0, .int .i64 0], .bool false]) (by simp [results, Tryz.results5, go_sem, x0, x1, x2]) rfl ?_
      refine ⟨RNumEnd.bad HRE.out rfl, ?_⟩
      rw [HX.out]
      exact (((hb1.trans (hb15.mono (by omega))).setCell (p := ⟨X, 0, none⟩) (Nat.le_refl _) _).setCell (p := ⟨X, 1, none⟩) (Nat.le_refl _) _).setCell (p := ⟨X, 2, none⟩) (Nat.le_refl _) _
end Go.Proofs.YtmgafnflkfbckaaGreatDoor
