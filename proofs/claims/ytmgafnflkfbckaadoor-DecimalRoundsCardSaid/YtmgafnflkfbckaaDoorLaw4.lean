/- DecimalMakes: the law's walk. -/
import Derived.Test.YtmgafnflkfbckaaDoorWalkAI
import Derived.Test.YtmgafnflkfbckaaDoorWalkAH
namespace Go.Proofs.YtmgafnflkfbckaaDoor
open Go.RowKit Go.Lib

theorem int_range {o : Int} (h : (Lit.int .i64 o).wf = true) : -9223372036854775808 ≤ o ∧ o ≤ 9223372036854775807 := by
  have h2 : IntKind.i64.min ≤ o ∧ o ≤ IntKind.i64.max := by simpa [Lit.wf] using h
  have e1 : IntKind.i64.min = -9223372036854775808 := by decide
  have e2 : IntKind.i64.max = 9223372036854775807 := by decide
  omega
namespace Dc
theorem intB_len {l : List UInt8} (h : intB l = true) : (unsign l).length ≤ 400 ∧ 0 < l.length := by
  have h0 : l ≠ [] := by intro e; rw [e] at h; exact absurd h (by decide)
  refine ⟨?_, List.length_pos_iff.2 h0⟩
  have h1 : (intTail l).length ≤ 400 := by
    rw [intB] at h
    simp only [Bool.and_eq_true, decide_eq_true_eq] at h
    exact h.1.1.2
  rw [intTail] at h1
  rw [unsign]
  split
  · rename_i h45
    by_cases hl : 1 < l.length
    · rw [if_pos ⟨hl, h45⟩] at h1; exact h1
    · rw [List.length_drop]; omega
  · rename_i h45
    rw [if_neg (fun hh => h45 hh.2)] at h1; exact h1
/-- The two bounds of the exponent tell the same. -/
theorem of_far {l : List UInt8} {e : Int} (h : intB l = true) {R : D} (hR : norm (l.head? == some 45) (vals (unsign l)) (clampR e) = R) :
    (limit R = 0 ∧ ofS l e = (showB R, 0)) ∨ (limit R ≠ 0 ∧ ofS l e = ([], 2)) := by
  obtain ⟨hl, _⟩ := intB_len h
  have hvl : (vals (unsign l)).length ≤ 400 := by rw [vals_len]; exact hl
  obtain ⟨P, hP⟩ : ∃ P, norm (l.head? == some 45) (vals (unsign l)) (clampE e) = P := ⟨_, rfl⟩
  have hof : ofS l e = (resS P, limit P) := by rw [ofS, if_pos h, hP]
  have hlen := norm_len (l.head? == some 45) (vals (unsign l)) (clampE e)
  rw [hP] at hlen
  have h6 : limit P ≠ 6 := by
    unfold limit
    rw [if_neg (by omega)]
    split <;> decide
  have h2 : limit P = 0 ∨ limit P = 2 := by
    unfold limit
    rw [if_neg (by omega)]
    split
    · right; rfl
    · left; rfl
  have key : R = P ∨ (limit R = limit P ∧ limit R ≠ 0) := by
    rw [← hR, ← hP]
    rcases clampR_cases e with ⟨h1, h3⟩ | ⟨h1, h4, h3⟩ | ⟨h1, h4, h3⟩
    · refine norm_far (m := 400) hvl (Or.inl ⟨by rw [h3]; omega, ?_⟩)
      unfold clampE
      split
      · omega
      · split <;> omega
    · refine norm_far (m := 400) hvl (Or.inr ⟨by rw [h3]; omega, ?_⟩)
      unfold clampE
      split
      · omega
      · split <;> omega
    · left
      have : clampE e = e := by
        unfold clampE
        rw [if_neg (by omega), if_neg (by omega)]
      rw [h3, this]
  rcases key with k | ⟨k1, k2⟩
  · rw [k, hof]
    rcases h2 with h2 | h2
    · left; exact ⟨h2, by rw [resS, if_pos h2, h2]⟩
    · right; exact ⟨by rw [h2]; decide, by rw [resS, if_neg (by rw [h2]; decide), h2]⟩
  · right
    refine ⟨k2, ?_⟩
    have h3 : limit P = 2 := h2.resolve_left (by rw [← k1]; exact k2)
    rw [hof, resS, if_neg (by rw [h3]; decide), h3]
end Dc

set_option maxHeartbeats 2000000 in
set_option maxRecDepth 100000 in
theorem law4 (s : ByteArray) (e : Int) (w : World) (he : (Lit.int .i64 e).wf = true) (hL : Laid w) : Calls Tryd.prog 4 #[.string s, .int .i64 e] w fun x w' => x = .returned (.bool true) ∧ Below w.heap.size w w' := by
  have hei := int_range he
  have AW := Lib.hid (awake_any w hL)
  have HL := Lib.hid hL
  by_cases h : 600 < s.size
  · clear hL
    have hi : (600 : Int) < (s.size : Int) := by omega
    go_enter Tryd.func4, Tryd.ntmps4
    go_wp2_with fail
    refine (AW.out).mono ?_
    rintro x w1 ⟨rfl, hb1⟩
    go_wp2_with fail
    go_ret
    exact ⟨rfl, hb1⟩
  · have hi : ¬ (600 : Int) < (s.size : Int) := by omega
    have OF := fun W hW => of_2 s e W (by omega) hei hW
    have WH := fun W => whole_any s W (by omega)
    cases hb : Dc.intB s.data.toList with
    | false =>
      have ho : Dc.ofS s.data.toList e = ([], 3) := by rw [Dc.ofS, if_neg (by rw [hb]; simp)]
      rw [ho] at OF
      rw [hb] at WH
      have OF : ∀ W, Laid W → Calls Tryd.prog 15 #[.string s, .int .i64 e] W fun x w' => x = .returned (.tuple #[.string ⟨#[]⟩, .int .i64 3]) ∧ Below W.heap.size W w' := OF
      have OF := Lib.hid OF
      have WH := Lib.hid WH
      clear hL hb ho he
      go_enter Tryd.func4, Tryd.ntmps4
      go_wp2_with fail
      refine (AW.out).mono ?_
      rintro x w1 ⟨rfl, hb1⟩
      go_wp2_with fail
      refine (OF.out _ (HL.out.on hb1)).mono ?_
      rintro x w2 ⟨rfl, hb2⟩
      have hb12 := hb1.trans (hb2.mono hb1.size)
      go_wp2_with fail
      refine (WH.out _).mono ?_
      rintro x w3 ⟨rfl, hb3⟩
      go_wp2_with fail
      go_ret
      exact ⟨rfl, hb12.trans (hb3.mono hb12.size)⟩
    | true =>
      obtain ⟨hul, hpos⟩ := Dc.intB_len hb
      rw [data_len] at hpos
      have RO := fun W => refof_any s e W (by omega) hpos (Dc.intB_all hb)
      obtain ⟨R, hR⟩ : ∃ R, Dc.norm (s.data.toList.head? == some 45) (Dc.vals (Dc.unsign s.data.toList)) (Dc.clampR e) = R := ⟨_, rfl⟩
      have hfar := Dc.of_far hb hR
      rw [hR] at RO
      rw [hb] at WH
      have hRl : R.c.length ≤ 400 := by
        have := Dc.norm_len (s.data.toList.head? == some 45) (Dc.vals (Dc.unsign s.data.toList)) (Dc.clampR e)
        rw [hR, Dc.vals_len] at this
        omega
      have hRd : Dc.Digs R.c := by rw [← hR]; exact (Dc.norm_normal (Dc.vals_digs (Dc.intB_all hb))).1
      obtain ⟨g, l, ez, n, hg, hl, hee, hln, hyy⟩ := num_letters R
      have RO2 : ∀ W, Calls Tryd.prog 17 #[.string s, .int .i64 e] W fun x w' => ∃ A c, x = .returned (.agg #[.bool g, .slice A n c, .int .i64 ez]) ∧ Reads w' w'.heap.size A n (i64s l) ∧ Below W.heap.size W w' := by
        intro W
        refine (RO W).mono ?_
        rintro x w' ⟨v, rfl, ⟨A, c, rfl, ho⟩, hb⟩
        rw [hl, hln] at ho
        exact ⟨A, c, by rw [hg, hl, hee, hln], Reads.of_own ho, hb⟩
      rw [hl, hln] at hRl
      rw [hl] at hRd
      obtain ⟨m, hm⟩ : ∃ m, Dc.limit R = m := ⟨_, rfl⟩
      have LI := Lib.hid (fun A c W => reflimit_any g A n c ez W)
      have hlim : limN n ez = m := by rw [← hm, hyy, ← hln]; rfl
      rw [hlim] at LI
      rw [hm] at hfar
      have RO := Lib.hid RO2
      have WH := Lib.hid WH
      rcases hfar with ⟨h0, hof⟩ | ⟨h0, hof⟩
      · obtain ⟨_, b3, b4⟩ := Dc.limit_ok.1 (hm.trans h0)
        rw [hee] at b3 b4
        have SH := fun A c W hW => show_any g A n c l ez W hW hRd (by omega) ⟨by omega, by omega⟩
        rw [← hyy] at SH
        obtain ⟨T, hT⟩ : ∃ T : ByteArray, ⟨(Dc.showB R).toArray⟩ = T := ⟨_, rfl⟩
        rw [hT] at SH
        rw [hof] at OF
        have OF : ∀ W, Laid W → Calls Tryd.prog 15 #[.string s, .int .i64 e] W fun x w' => x = .returned (.tuple #[.string T, .int .i64 0]) ∧ Below W.heap.size W w' := by
          intro W hW
          have := OF W hW
          rw [val2] at this
          simp only [hT] at this
          exact this
        have OF := Lib.hid OF
        have SH := Lib.hid SH
        have hm0 : ((m : Int) != 0) = false := by simp; omega
        subst h0
        clear hL hb he hul hpos hR hRl hRd hg hl hee hln hyy hm hlim hof b3 b4 hT RO2
        go_enter Tryd.func4, Tryd.ntmps4
        go_wp2_with fail
        refine (AW.out).mono ?_
        rintro x w1 ⟨rfl, hb1⟩
        go_wp2_with fail
        refine (OF.out _ (HL.out.on hb1)).mono ?_
        rintro x w2 ⟨rfl, hb2⟩
        have hb12 := hb1.trans (hb2.mono hb1.size)
        go_wp2_with fail
        refine (WH.out _).mono ?_
        rintro x w3 ⟨rfl, hb3⟩
        have hb13 := hb12.trans (hb3.mono hb12.size)
        go_wp2_with fail
        refine (RO.out _).mono ?_
        rintro x w4 ⟨A, c, rfl, hr4, hb4⟩
        have hb14 := hb13.trans (hb4.mono hb13.size)
        obtain ⟨w5, X, hw5, hX, hb5, hX5, hcells⟩ := box_ref g A n c ez w4
        have hb15 := hb14.trans (hb5.mono hb14.size)
        have HW5 := Lib.hid hw5
        have HX := Lib.hid hX
        have HC := Lib.hid hcells
        have HR5 := Lib.hid (hr4.on hb5)
        obtain ⟨y0, y1, y2, _⟩ := hcells w5 (Below.refl _ _)
        clear hw5 hX hcells hr4
        go_upto_region 9 with fail
        rw [HW5.out, HX.out]
        go_wp2_with fail
        refine (LI.out A c _).mono ?_
        rintro x w6 ⟨rfl, hb6⟩
        clear y0 y1 y2
        obtain ⟨y0, y1, y2, _⟩ := HC.out _ hb6
        go_wp2_with fail
        refine (SH.out A c _ (HR5.out.on hb6)).mono ?_
        rintro x w7 ⟨rfl, hb7⟩
        go_wp2_with fail
        go_ret
        exact ⟨rfl, hb15.trans ((hb6.trans (hb7.mono hb6.size)).mono hb15.size)⟩
      · rw [hof] at OF
        have OF : ∀ W, Laid W → Calls Tryd.prog 15 #[.string s, .int .i64 e] W fun x w' => x = .returned (.tuple #[.string ⟨#[]⟩, .int .i64 2]) ∧ Below W.heap.size W w' := OF
        have OF := Lib.hid OF
        have hm0 : ((m : Int) != 0) = true := by simp; omega
        clear hL hb he hul hpos hR hRl hRd hg hl hee hln hyy hm hlim hof h0 RO2
        go_enter Tryd.func4, Tryd.ntmps4
        go_wp2_with fail
        refine (AW.out).mono ?_
        rintro x w1 ⟨rfl, hb1⟩
        go_wp2_with fail
        refine (OF.out _ (HL.out.on hb1)).mono ?_
        rintro x w2 ⟨rfl, hb2⟩
        have hb12 := hb1.trans (hb2.mono hb1.size)
        go_wp2_with fail
        refine (WH.out _).mono ?_
        rintro x w3 ⟨rfl, hb3⟩
        have hb13 := hb12.trans (hb3.mono hb12.size)
        go_wp2_with fail
        refine (RO.out _).mono ?_
        rintro x w4 ⟨A, c, rfl, hr4, hb4⟩
        have hb14 := hb13.trans (hb4.mono hb13.size)
        obtain ⟨w5, X, hw5, hX, hb5, hX5, hcells⟩ := box_ref g A n c ez w4
        have hb15 := hb14.trans (hb5.mono hb14.size)
        have HW5 := Lib.hid hw5
        have HX := Lib.hid hX
        obtain ⟨y0, y1, y2, _⟩ := hcells w5 (Below.refl _ _)
        clear hw5 hX hcells hr4
        go_upto_region 9 with fail
        rw [HW5.out, HX.out]
        go_wp2_with fail
        refine (LI.out A c _).mono ?_
        rintro x w6 ⟨rfl, hb6⟩
        go_wp2_with fail
        go_ret
        exact ⟨rfl, hb15.trans (hb6.mono hb15.size)⟩
end Go.Proofs.YtmgafnflkfbckaaDoor
