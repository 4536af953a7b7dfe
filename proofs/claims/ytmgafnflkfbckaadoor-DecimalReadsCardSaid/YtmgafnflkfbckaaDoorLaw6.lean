/- DecimalReads: the law's walk. -/
import Derived.Test.YtmgafnflkfbckaaDoorLaw3
namespace Go.Proofs.YtmgafnflkfbckaaDoor
open Go.RowKit Go.Lib

namespace Dc
theorem parse_none {l : List UInt8} (hl : l.length ≤ 10000) (h : numP 1000000 l = none) : parseS l = ([], 3) ∧ readP l = none := by
  rcases numP_far (K := KP) (K' := 1000000) (by decide) (by decide) hl with ⟨h1, _⟩ | ⟨x, y, _, h2, _⟩
  · exact ⟨by rw [parseS, h1], by rw [← refReadP_eq, refReadP, h]⟩
  · rw [h] at h2; cases h2
theorem parse_some {l : List UInt8} {y : D} (hl : l.length ≤ 10000) (h : numP 1000000 l = some y) : parseS l = (resS y, limit y) ∧ readP l = if limit y = 0 ∧ showB y = l then some y else none := by
  refine ⟨?_, by rw [← refReadP_eq, refReadP, h]⟩
  rcases numP_far (K := KP) (K' := 1000000) (by decide) (by decide) hl with ⟨_, h1⟩ | ⟨x, y', h1, h2, h3⟩
  · rw [h] at h1; cases h1
  · rw [h] at h2
    cases h2
    rw [parseS, h1]
    simp only
    rcases h3 with h3 | ⟨h3, h4⟩
    · rw [h3]
    · rw [resS, if_neg h4, resS, if_neg (by rw [← h3]; exact h4), h3]
end Dc
theorem numeral_letters {s : ByteArray} {g : Bool} {l : List Nat} {e : Int} {n : Nat} {y : Dc.D} (hn : Dc.numP 1000000 s.data.toList = some y) (hs : s.size ≤ 1048576) (hg : y.neg = g) (hl : y.c = l) (he : y.e = e) (hln : l.length = n) :
    ∀ W, Calls Tryd.prog 25 #[.string s] W fun x w' => ∃ A c, x = .returned (.tuple #[.agg #[.bool g, .slice A n c, .int .i64 e], .bool true]) ∧ Reads w' w'.heap.size A n (i64s l) ∧ Below W.heap.size W w' := by
  intro W
  have := refnumeral_any s W hs
  rw [hn] at this
  refine this.mono ?_
  rintro x w' ⟨⟨g2, A, n2, c, e2, rfl, hy2⟩, hb⟩
  obtain ⟨h1, h2, h3, h4⟩ := hy2 y rfl
  rw [hl] at h2 h4
  rw [hg] at h1
  rw [he] at h3
  rw [hln] at h2
  subst h1 h2 h3
  exact ⟨A, c, rfl, Reads.of_own h4, hb⟩
theorem read_letters {s : ByteArray} {g : Bool} {l : List Nat} {e : Int} {n : Nat} {y : Dc.D} (hn : Dc.readP s.data.toList = some y) (hs : s.size ≤ 1048576) (hg : y.neg = g) (hl : y.c = l) (he : y.e = e) (hln : l.length = n) :
    ∀ W, Calls Tryd.prog 11 #[.string s] W fun x w' => ∃ A c, x = .returned (.tuple #[.agg #[.bool g, .slice A n c, .int .i64 e], .bool true]) ∧ Reads w' w'.heap.size A n (i64s l) ∧ Below W.heap.size W w' := by
  intro W
  have := refread_any s W hs
  rw [hn] at this
  refine this.mono ?_
  rintro x w' ⟨⟨g2, A, n2, c, e2, rfl, hy2⟩, hb⟩
  obtain ⟨h1, h2, h3, h4⟩ := hy2 y rfl
  rw [hl] at h2 h4
  rw [hg] at h1
  rw [he] at h3
  rw [hln] at h2
  subst h1 h2 h3
  exact ⟨A, c, rfl, Reads.of_own h4, hb⟩
theorem read_noneL {s : ByteArray} (hn : Dc.readP s.data.toList = none) (hs : s.size ≤ 1048576) :
    ∀ W, Calls Tryd.prog 11 #[.string s] W fun x w' => (∃ g A n c e, x = .returned (.tuple #[.agg #[.bool g, .slice A n c, .int .i64 e], .bool false])) ∧ Below W.heap.size W w' := by
  intro W
  have := refread_any s W hs
  rw [hn] at this
  refine this.mono ?_
  rintro x w' ⟨⟨g, A, n, c, e, rfl, _⟩, hb⟩
  exact ⟨⟨g, A, n, c, e, rfl⟩, hb⟩

set_option maxHeartbeats 2000000 in
set_option maxRecDepth 100000 in
theorem law6 (s : ByteArray) (w : World) (hL : Laid w) : Calls Tryd.prog 6 #[.string s] w fun e w' => e = .returned (.bool true) ∧ Below w.heap.size w w' := by
  have AW := Lib.hid (awake_any w hL)
  have HL := Lib.hid hL
  by_cases h : 1000 < s.size
  · clear hL
    have hi : (1000 : Int) < (s.size : Int) := by omega
    go_enter Tryd.func6, Tryd.ntmps6
    go_wp2_with fail
    refine (AW.out).mono ?_
    rintro e w1 ⟨rfl, hb1⟩
    go_wp2_with fail
    go_ret
    exact ⟨rfl, hb1⟩
  · have hi : ¬ (1000 : Int) < (s.size : Int) := by omega
    have hlen : s.data.toList.length ≤ 10000 := by rw [data_len]; omega
    have PA := fun W hW => parse_2 s W (by omega) hW
    have VA := fun W hW => valid_any s W (by omega) hW
    have PT := fun W hW => parts_any s W (by omega) hW
    clear hL
    cases hn : Dc.numP 1000000 s.data.toList with
    | none =>
      obtain ⟨hp, hr⟩ := Dc.parse_none hlen hn
      have NU : ∀ W, Calls Tryd.prog 25 #[.string s] W fun x w' => (∃ g A n c e, x = .returned (.tuple #[.agg #[.bool g, .slice A n c, .int .i64 e], .bool false])) ∧ Below W.heap.size W w' := by
        intro W
        have := refnumeral_any s W (by omega)
        rw [hn] at this
        exact this.mono fun x w' ⟨⟨g, A, n, c, e, h1, _⟩, hb⟩ => ⟨⟨g, A, n, c, e, h1⟩, hb⟩
      have RD := Lib.hid (read_noneL hr (by omega))
      rw [hp] at PA
      rw [hr] at VA PT
      have PA : ∀ W, Laid W → Calls Tryd.prog 13 #[.string s] W fun x w' => x = .returned (.tuple #[.string ⟨#[]⟩, .int .i64 3]) ∧ Below W.heap.size W w' := PA
      have VA : ∀ W, Laid W → Calls Tryd.prog 27 #[.string s] W fun x w' => x = .returned (.bool false) ∧ Below W.heap.size W w' := VA
      have PT : ∀ W, Laid W → Calls Tryd.prog 26 #[.string s] W fun x w' => x = .returned (.tuple #[.string ⟨#[]⟩, .int .i64 0, .int .i64 3]) ∧ Below W.heap.size W w' := PT
      have PA := Lib.hid PA
      have VA := Lib.hid VA
      have PT := Lib.hid PT
      have NU := Lib.hid NU
      clear hn hp hr hlen
      go_enter Tryd.func6, Tryd.ntmps6
      go_wp2_with fail
      refine (AW.out).mono ?_
      rintro x w1 ⟨rfl, hb1⟩
      go_wp2_with fail
      refine (PA.out _ (HL.out.on hb1)).mono ?_
      rintro x w2 ⟨rfl, hb2⟩
      have hb12 := hb1.trans (hb2.mono hb1.size)
      go_wp2_with fail
      refine (NU.out _).mono ?_
      rintro x w3 ⟨⟨g0, A0, n0, c0, e0, rfl⟩, hb3⟩
      have hb13 := hb12.trans (hb3.mono hb12.size)
      have hb14 := hb13.alloc hb13.size (.cells #[.bool g0, .slice A0 n0 c0, .int .i64 e0] 25)
      go_wp2_with fail
      refine (PT.out _ (HL.out.on hb14)).mono ?_
      rintro x w7 ⟨rfl, hb7⟩
      have hb17 := hb14.trans (hb7.mono hb14.size)
      go_wp2_with fail
      refine (RD.out _).mono ?_
      rintro x w8 ⟨⟨g2, A2, n2, c2, e2, rfl⟩, hb8⟩
      have hb18 := hb17.trans (hb8.mono hb17.size)
      have hb19 := hb18.alloc hb18.size (.cells #[.bool g2, .slice A2 n2 c2, .int .i64 e2] 25)
      go_wp2_with fail
      refine (VA.out _ (HL.out.on hb19)).mono ?_
      rintro x w10 ⟨rfl, hb10⟩
      go_wp2_with fail
      go_ret
      exact ⟨rfl, hb19.trans (hb10.mono hb19.size)⟩
    | some y =>
      obtain ⟨hp, hrd⟩ := Dc.parse_some hlen hn
      obtain ⟨by1, by2, _, _⟩ := Dc.numP_bound hn
      obtain ⟨g, l, e, n, hg, hl, he, hln, hyy⟩ := num_letters y
      rw [hl, data_len, hln] at by2
      have hdl : Dc.Digs l := by rw [← hl]; exact by1.1
      have NU := Lib.hid (numeral_letters hn (by omega) hg hl he hln)
      obtain ⟨m, hm⟩ : ∃ m, Dc.limit y = m := ⟨_, rfl⟩
      have LI := fun A c W => reflimit_any g A n c e W
      have hlim : limN n e = m := by rw [← hm, hyy, ← hln]; rfl
      rw [hlim] at LI
      have LI := Lib.hid LI
      rw [hp] at PA
      by_cases h0 : m = 0
      · have hcan : Dc.Canon y := ⟨by1, by rw [hm]; exact h0⟩
        obtain ⟨_, _, b3, b4⟩ := Dc.canon_bound hcan
        rw [he] at b3 b4
        have SH := fun A c W hW => show_any g A n c l e W hW hdl (by omega) ⟨by omega, by omega⟩
        rw [← hyy] at SH
        have CO := fun A c W hW => refcoef_any g A n c l e W hW hdl (by omega)
        rw [← hyy] at CO
        obtain ⟨T, hT⟩ : ∃ T : ByteArray, ⟨(Dc.showB y).toArray⟩ = T := ⟨_, rfl⟩
        have PA : ∀ W, Laid W → Calls Tryd.prog 13 #[.string s] W fun x w' => x = .returned (.tuple #[.string T, .int .i64 0]) ∧ Below W.heap.size W w' := by
          intro W hW
          have := PA W hW
          rw [val2, (res_ok hcan).1, hm, h0] at this
          simp only [hT] at this
          exact this
        rw [hT] at SH
        have PA := Lib.hid PA
        have SH := Lib.hid SH
        have hm0 : ((m : Int) == 0) = true := by simp; omega
        subst h0
        by_cases hts : T = s
        · have hr : Dc.readP s.data.toList = some y := by rw [hrd, if_pos ⟨hm, str_eq_iff.1 (hT.trans hts)⟩]
          have RD := Lib.hid (read_letters hr (by omega) hg hl he hln)
          rw [hr] at VA PT
          have VA : ∀ W, Laid W → Calls Tryd.prog 27 #[.string s] W fun x w' => x = .returned (.bool true) ∧ Below W.heap.size W w' := VA
          obtain ⟨C, hC⟩ : ∃ C : ByteArray, ⟨(Dc.coefB y).toArray⟩ = C := ⟨_, rfl⟩
          rw [hC] at CO
          have PT : ∀ W, Laid W → Calls Tryd.prog 26 #[.string s] W fun x w' => x = .returned (.tuple #[.string C, .int .i64 e, .int .i64 0]) ∧ Below W.heap.size W w' := by
            intro W hW
            have := PT W hW
            rw [partsV, hC, he] at this
            exact this
          have VA := Lib.hid VA
          have PT := Lib.hid PT
          have CO := Lib.hid CO
          clear hn hp hrd hr hlen by1 by2 hg hl he hln hyy hdl hlim hm hcan b3 b4 hT hts hC
          go_enter Tryd.func6, Tryd.ntmps6
          go_wp2_with fail
          refine (AW.out).mono ?_
          rintro x w1 ⟨rfl, hb1⟩
          go_wp2_with fail
          refine (PA.out _ (HL.out.on hb1)).mono ?_
          rintro x w2 ⟨rfl, hb2⟩
          have hb12 := hb1.trans (hb2.mono hb1.size)
          go_wp2_with fail
          refine (NU.out _).mono ?_
          rintro x w3 ⟨A0, c0, rfl, hr3, hb3⟩
          have hb13 := hb12.trans (hb3.mono hb12.size)
          obtain ⟨w4, X, hw4, hX, hb4, hX4, hcells⟩ := box_ref g A0 n c0 e w3
          have hb14' := hb13.trans (hb4.mono hb13.size)
          have HW4 := Lib.hid hw4
          have HX := Lib.hid hX
          have HC := Lib.hid hcells
          have HR4 := Lib.hid (hr3.on hb4)
          obtain ⟨y0, y1, y2, _⟩ := hcells w4 (Below.refl _ _)
          clear hw4 hX hcells hr3
          go_upto_region 7 with fail
          rw [HW4.out, HX.out]
          go_wp2_with fail
          refine (LI.out A0 c0 _).mono ?_
          rintro x w5 ⟨rfl, hb5⟩
          have hb14 := hb14'.trans (hb5.mono hb14'.size)
          clear y0 y1 y2
          obtain ⟨y0, y1, y2, _⟩ := HC.out _ hb5
          go_wp2_with fail
          refine (SH.out A0 c0 _ (HR4.out.on hb5)).mono ?_
          rintro x w6 ⟨rfl, hb6⟩
          have hb14 := hb14.trans (hb6.mono hb14.size)
          clear y0 y1 y2
          go_wp2_with fail
          refine (PT.out _ (HL.out.on hb14)).mono ?_
          rintro x w7 ⟨rfl, hb7⟩
          have hb17 := hb14.trans (hb7.mono hb14.size)
          go_wp2_with fail
          refine (RD.out _).mono ?_
          rintro x w8 ⟨A2, c2, rfl, hr8, hb8⟩
          have hb18 := hb17.trans (hb8.mono hb17.size)
          obtain ⟨w9, Y, hw9, hY, hb9, hY9, hcells⟩ := box_ref g A2 n c2 e w8
          have hb19 := hb18.trans (hb9.mono hb18.size)
          have HW9 := Lib.hid hw9
          have HY := Lib.hid hY
          have HC9 := Lib.hid hcells
          have HR9 := Lib.hid (hr8.on hb9)
          clear hw9 hY hcells hr8
          go_upto_region 14 with fail
          rw [HW9.out, HY.out]
          go_wp2_with fail
          refine (VA.out _ (HL.out.on hb19)).mono ?_
          rintro x w10 ⟨rfl, hb10⟩
          have hb110 := hb19.trans (hb10.mono hb19.size)
          obtain ⟨z0, z1, z2, _⟩ := HC9.out _ hb10
          go_wp2_with fail
          refine (CO.out A2 c2 _ (HR9.out.on hb10)).mono ?_
          rintro x w11 ⟨rfl, hb11⟩
          have hb911 := hb10.trans (hb11.mono hb10.size)
          clear z0 z1 z2
          obtain ⟨z0, z1, z2, _⟩ := HC9.out _ hb911
          go_wp2_with fail
          go_ret
          exact ⟨rfl, hb19.trans (hb911.mono hb19.size)⟩
        · have hr : Dc.readP s.data.toList = none := by rw [hrd, if_neg (fun h => hts (hT.symm.trans (str_eq_iff.2 h.2)))]
          have RD := Lib.hid (read_noneL hr (by omega))
          rw [hr] at VA PT
          have VA : ∀ W, Laid W → Calls Tryd.prog 27 #[.string s] W fun x w' => x = .returned (.bool false) ∧ Below W.heap.size W w' := VA
          have PT : ∀ W, Laid W → Calls Tryd.prog 26 #[.string s] W fun x w' => x = .returned (.tuple #[.string ⟨#[]⟩, .int .i64 0, .int .i64 3]) ∧ Below W.heap.size W w' := PT
          have VA := Lib.hid VA
          have PT := Lib.hid PT
          clear hn hp hrd hr hlen by1 by2 hg hl he hln hyy hdl hlim hm hcan b3 b4 hT hts CO
          go_enter Tryd.func6, Tryd.ntmps6
          go_wp2_with fail
          refine (AW.out).mono ?_
          rintro x w1 ⟨rfl, hb1⟩
          go_wp2_with fail
          refine (PA.out _ (HL.out.on hb1)).mono ?_
          rintro x w2 ⟨rfl, hb2⟩
          have hb12 := hb1.trans (hb2.mono hb1.size)
          go_wp2_with fail
          refine (NU.out _).mono ?_
          rintro x w3 ⟨A0, c0, rfl, hr3, hb3⟩
          have hb13 := hb12.trans (hb3.mono hb12.size)
          obtain ⟨w4, X, hw4, hX, hb4, hX4, hcells⟩ := box_ref g A0 n c0 e w3
          have hb14' := hb13.trans (hb4.mono hb13.size)
          have HW4 := Lib.hid hw4
          have HX := Lib.hid hX
          have HC := Lib.hid hcells
          have HR4 := Lib.hid (hr3.on hb4)
          obtain ⟨y0, y1, y2, _⟩ := hcells w4 (Below.refl _ _)
          clear hw4 hX hcells hr3
          go_upto_region 7 with fail
          rw [HW4.out, HX.out]
          go_wp2_with fail
          refine (LI.out A0 c0 _).mono ?_
          rintro x w5 ⟨rfl, hb5⟩
          have hb14 := hb14'.trans (hb5.mono hb14'.size)
          clear y0 y1 y2
          obtain ⟨y0, y1, y2, _⟩ := HC.out _ hb5
          go_wp2_with fail
          refine (SH.out A0 c0 _ (HR4.out.on hb5)).mono ?_
          rintro x w6 ⟨rfl, hb6⟩
          have hb14 := hb14.trans (hb6.mono hb14.size)
          clear y0 y1 y2
          go_wp2_with fail
          refine (PT.out _ (HL.out.on hb14)).mono ?_
          rintro x w7 ⟨rfl, hb7⟩
          have hb17 := hb14.trans (hb7.mono hb14.size)
          go_wp2_with fail
          refine (RD.out _).mono ?_
          rintro x w8 ⟨⟨g2, A2, n2, c2, e2, rfl⟩, hb8⟩
          have hb18 := hb17.trans (hb8.mono hb17.size)
          have hb19 := hb18.alloc hb18.size (.cells #[.bool g2, .slice A2 n2 c2, .int .i64 e2] 25)
          go_wp2_with fail
          refine (VA.out _ (HL.out.on hb19)).mono ?_
          rintro x w10 ⟨rfl, hb10⟩
          go_wp2_with fail
          go_ret
          exact ⟨rfl, hb19.trans (hb10.mono hb19.size)⟩
      · have hr : Dc.readP s.data.toList = none := by rw [hrd, if_neg (fun h => h0 (by rw [← hm]; exact h.1))]
        have RD := Lib.hid (read_noneL hr (by omega))
        rw [hr] at VA PT
        have VA : ∀ W, Laid W → Calls Tryd.prog 27 #[.string s] W fun x w' => x = .returned (.bool false) ∧ Below W.heap.size W w' := VA
        have PT : ∀ W, Laid W → Calls Tryd.prog 26 #[.string s] W fun x w' => x = .returned (.tuple #[.string ⟨#[]⟩, .int .i64 0, .int .i64 3]) ∧ Below W.heap.size W w' := PT
        have PA : ∀ W, Laid W → Calls Tryd.prog 13 #[.string s] W fun x w' => x = .returned (.tuple #[.string ⟨#[]⟩, .int .i64 (m : Int)]) ∧ Below W.heap.size W w' := by
          intro W hW
          have := PA W hW
          rw [val2, Dc.resS, if_neg (by rw [hm]; exact h0), hm] at this
          exact this
        have PA := Lib.hid PA
        have VA := Lib.hid VA
        have PT := Lib.hid PT
        have hm0 : ((m : Int) == 0) = false := by simp; omega
        clear hn hp hrd hr hlen by1 by2 hg hl he hln hyy hdl hlim hm h0
        go_enter Tryd.func6, Tryd.ntmps6
        go_wp2_with fail
        refine (AW.out).mono ?_
        rintro x w1 ⟨rfl, hb1⟩
        go_wp2_with fail
        refine (PA.out _ (HL.out.on hb1)).mono ?_
        rintro x w2 ⟨rfl, hb2⟩
        have hb12 := hb1.trans (hb2.mono hb1.size)
        go_wp2_with fail
        refine (NU.out _).mono ?_
        rintro x w3 ⟨A0, c0, rfl, hr3, hb3⟩
        have hb13 := hb12.trans (hb3.mono hb12.size)
        obtain ⟨w4, X, hw4, hX, hb4, hX4, hcells⟩ := box_ref g A0 n c0 e w3
        have hb14' := hb13.trans (hb4.mono hb13.size)
        have HW4 := Lib.hid hw4
        have HX := Lib.hid hX
        have HC := Lib.hid hcells
        have HR4 := Lib.hid (hr3.on hb4)
        obtain ⟨y0, y1, y2, _⟩ := hcells w4 (Below.refl _ _)
        clear hw4 hX hcells hr3
        go_upto_region 7 with fail
        rw [HW4.out, HX.out]
        go_wp2_with fail
        refine (LI.out A0 c0 _).mono ?_
        rintro x w5 ⟨rfl, hb5⟩
        have hb14 := hb14'.trans (hb5.mono hb14'.size)
        clear y0 y1 y2
        go_wp2_with fail
        refine (PT.out _ (HL.out.on hb14)).mono ?_
        rintro x w7 ⟨rfl, hb7⟩
        have hb17 := hb14.trans (hb7.mono hb14.size)
        go_wp2_with fail
        refine (RD.out _).mono ?_
        rintro x w8 ⟨⟨g2, A2, n2, c2, e2, rfl⟩, hb8⟩
        have hb18 := hb17.trans (hb8.mono hb17.size)
        have hb19 := hb18.alloc hb18.size (.cells #[.bool g2, .slice A2 n2 c2, .int .i64 e2] 25)
        go_wp2_with fail
        refine (VA.out _ (HL.out.on hb19)).mono ?_
        rintro x w10 ⟨rfl, hb10⟩
        go_wp2_with fail
        go_ret
        exact ⟨rfl, hb19.trans (hb10.mono hb19.size)⟩
end Go.Proofs.YtmgafnflkfbckaaDoor
