/- DecimalShows: the law's walk. -/
import Derived.Test.YtmgafnflkfbckaaDoorWalkAG
import Derived.Test.YtmgafnflkfbckaaDoorWalkAB
namespace Go.Proofs.YtmgafnflkfbckaaDoor
open Go.RowKit Go.Lib

theorem text_len {y : Dc.D} (h : Dc.Canon y) : (Dc.textB y).length ≤ 1000 := by
  obtain ⟨_, h1, h2, h3⟩ := Dc.canon_bound h
  have hs := sgn_len y.neg
  have hd := Dc.digB_len y.c
  have hi := itoa_len (y.e + y.c.length - 1) (by omega) (by omega)
  rw [Dc.textB]
  split
  · simp
  · split
    · simp only [List.length_append, List.length_replicate, hd]; simp; omega
    · split
      · simp only [List.length_append, List.length_cons, List.length_take, List.length_drop, hd]; omega
      · split
        · simp only [List.length_append, List.length_cons, List.length_replicate, hd]; omega
        · split
          · simp only [List.length_append, List.length_cons, List.length_take, List.length_drop, hd]; omega
          · simp only [List.length_append, List.length_cons, hd]; omega
theorem res_ok {y : Dc.D} (h : Dc.Canon y) : Dc.resS y = Dc.showB y ∧ Dc.limit y = 0 := ⟨by rw [Dc.resS, if_pos h.2], h.2⟩

set_option maxHeartbeats 2000000 in
set_option maxRecDepth 100000 in
theorem law3 (s : ByteArray) (w : World) (hL : Laid w) : Calls Tryd.prog 3 #[.string s] w fun e w' => e = .returned (.bool true) ∧ Below w.heap.size w w' := by
  have AW := Lib.hid (awake_any w hL)
  have HL := Lib.hid hL
  by_cases h : 600 < s.size
  · clear hL
    have hi : (600 : Int) < (s.size : Int) := by omega
    go_enter Tryd.func3, Tryd.ntmps3
    go_wp2_with fail
    refine (AW.out).mono ?_
    rintro e w1 ⟨rfl, hb1⟩
    go_wp2_with fail
    go_ret
    exact ⟨rfl, hb1⟩
  · have hi : ¬ (600 : Int) < (s.size : Int) := by omega
    have RD := fun W => refread_any s W (by omega)
    have TX := fun W hW => text_2 s W (by omega) hW
    cases hr : Dc.readP s.data.toList with
    | none =>
      rw [hr] at RD
      have ht : Dc.textS s.data.toList = [] := by rw [Dc.textS, hr]
      rw [ht] at TX
      have RD := Lib.hid RD
      have TX := Lib.hid TX
      clear hL hr ht
      go_enter Tryd.func3, Tryd.ntmps3
      go_wp2_with fail
      refine (AW.out).mono ?_
      rintro e w1 ⟨rfl, hb1⟩
      go_wp2_with fail
      refine (RD.out _).mono ?_
      rintro e w2 ⟨⟨g, A, n, c, e, rfl, _⟩, hb2⟩
      have hb12 := (hb1.trans (hb2.mono hb1.size))
      have hb3 := hb12.alloc hb12.size (.cells #[.bool g, .slice A n c, .int .i64 e] 25)
      go_wp2_with fail
      refine (TX.out _ (HL.out.on hb3)).mono ?_
      rintro e w4 ⟨rfl, hb4⟩
      go_wp2_with fail
      go_ret
      exact ⟨rfl, hb3.trans (hb4.mono hb3.size)⟩
    | some y =>
      obtain ⟨hcn, hsh⟩ := Dc.readP_some hr
      have ht : Dc.textS s.data.toList = Dc.textB y := by rw [Dc.textS, hr]
      rw [ht] at TX
      have htl := text_len hcn
      obtain ⟨b1, b2, b3, b4⟩ := Dc.canon_bound hcn
      have hps : Dc.parseS (Dc.textB y) = (Dc.showB y, 0) := by
        rw [Dc.parseS, Dc.numP_text (by decide) hcn]
        simp only [(res_ok hcn).1, (res_ok hcn).2]
      have hss : (⟨(Dc.showB y).toArray⟩ : ByteArray) = s := str_eq_iff.2 hsh
      obtain ⟨g, l, e, n, hg, hl, hee, hln, hyy⟩ := num_letters y
      rw [hr] at RD
      have RD2 : ∀ W, Calls Tryd.prog 11 #[.string s] W fun x w' => ∃ A c, x = .returned (.tuple #[.agg #[.bool g, .slice A n c, .int .i64 e], .bool true]) ∧ Reads w' w'.heap.size A n (i64s l) ∧ Below W.heap.size W w' := by
        intro W
        refine (RD W).mono ?_
        rintro x w' ⟨⟨g2, A, n2, c, e2, rfl, hy2⟩, hb⟩
        obtain ⟨h1, h2, h3, h4⟩ := hy2 y rfl
        rw [hl] at h2 h4
        rw [hg] at h1
        rw [hee] at h3
        rw [hln] at h2
        subst h1 h2 h3
        exact ⟨A, c, rfl, Reads.of_own h4, hb⟩
      rw [hl] at b1 b2
      rw [hee] at b3 b4
      rw [hln] at b2
      have RT := fun A c W hW => reftext_any g A n c l e W hW b1 b2 ⟨b3, b4⟩
      rw [← hyy] at RT
      obtain ⟨T, hT⟩ : ∃ T : ByteArray, ⟨(Dc.textB y).toArray⟩ = T := ⟨_, rfl⟩
      have PA := fun W hW => parse_2 T W (by rw [← hT, str_size]; omega) hW
      rw [← hT] at PA
      have PA2 : ∀ W, Laid W → Calls Tryd.prog 13 #[.string T] W fun x w' => x = .returned (.tuple #[.string s, .int .i64 0]) ∧ Below W.heap.size W w' := by
        intro W hW
        have := PA W hW
        rw [hT] at this
        have e1 : T.data.toList = Dc.textB y := by rw [← hT]
        rw [e1, hps, val2, hss] at this
        exact this
      rw [hT] at TX RT
      have RD := Lib.hid RD2
      have TX := Lib.hid TX
      have RT := Lib.hid RT
      have PA := Lib.hid PA2
      clear hL hr hcn hsh ht htl b1 b2 b3 b4 hps hss hg hl hee hln hyy hT RD2 PA2
      go_enter Tryd.func3, Tryd.ntmps3
      go_wp2_with fail
      refine (AW.out).mono ?_
      rintro x w1 ⟨rfl, hb1⟩
      go_wp2_with fail
      refine (RD.out _).mono ?_
      rintro x w2 ⟨A, c, rfl, hr2, hb2⟩
      have hb12 := (hb1.trans (hb2.mono hb1.size))
      obtain ⟨w3, X, hw3, hX, hb3, hX3, hcells⟩ := box_ref g A n c e w2
      have hb13 := hb12.trans (hb3.mono hb12.size)
      have HW3 := Lib.hid hw3
      have HX := Lib.hid hX
      have HC := Lib.hid hcells
      have HR3 := Lib.hid (hr2.on hb3)
      clear hw3 hX hcells hr2
      go_upto_region 6 with fail
      rw [HW3.out, HX.out]
      go_wp2_with fail
      refine (TX.out _ (HL.out.on hb13)).mono ?_
      rintro x w4 ⟨rfl, hb4⟩
      have hb14 := hb13.trans (hb4.mono hb13.size)
      go_wp2_with fail
      refine (PA.out _ (HL.out.on hb14)).mono ?_
      rintro x w5 ⟨rfl, hb5⟩
      have hb35 := hb4.trans (hb5.mono hb4.size)
      have hb15 := hb13.trans (hb35.mono hb13.size)
      obtain ⟨y0, y1, y2, _⟩ := HC.out _ hb35
      go_wp2_with fail
      refine (RT.out A c _ (HR3.out.on hb35)).mono ?_
      rintro x w6 ⟨rfl, hb6⟩
      go_wp2_with fail
      go_ret
      exact ⟨rfl, hb15.trans (hb6.mono hb15.size)⟩
end Go.Proofs.YtmgafnflkfbckaaDoor
