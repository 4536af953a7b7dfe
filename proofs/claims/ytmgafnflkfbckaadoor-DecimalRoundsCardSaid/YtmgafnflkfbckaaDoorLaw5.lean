/- DecimalRounds: the law's walk. -/
import Derived.Test.YtmgafnflkfbckaaDoorLaw4
import Derived.Test.YtmgafnflkfbckaaDoorWalkAJ
namespace Go.Proofs.YtmgafnflkfbckaaDoor
open Go.RowKit Go.Lib

theorem readC_letters {s : ByteArray} {g : Bool} {l : List Nat} {e : Int} {n : Nat} {y : Dc.D} (hn : Dc.readP s.data.toList = some y) (hs : s.size ≤ 1048576) (hg : y.neg = g) (hl : y.c = l) (he : y.e = e) (hln : l.length = n) :
    ∀ W, Calls Tryd.prog 11 #[.string s] W fun x w' => ∃ A c, x = .returned (.tuple #[.agg #[.bool g, .slice A n c, .int .i64 e], .bool true]) ∧ n ≤ c ∧ Reads w' w'.heap.size A n (i64s l) ∧ Below W.heap.size W w' := by
  intro W
  have := refread_any s W hs
  rw [hn] at this
  refine this.mono ?_
  rintro x w' ⟨⟨g2, A, n2, c, e2, rfl, hy2⟩, hb⟩
  obtain ⟨h1, h2, h3, h4⟩ := hy2 y rfl
  rw [hl] at h2 h4
  rw [hg] at h1
  rw [he] at h3
  rw [hln] at h2
  subst h1 h2 h3
  obtain ⟨A', c', hv, hc, hr⟩ := own_slice h4
  cases hv
  exact ⟨A, c, rfl, hc, hr, hb⟩
theorem readC_none {s : ByteArray} (hn : Dc.readP s.data.toList = none) (hs : s.size ≤ 1048576) :
    ∀ W, Calls Tryd.prog 11 #[.string s] W fun x w' => (∃ g A n c e, x = .returned (.tuple #[.agg #[.bool g, .slice A n c, .int .i64 e], .bool false])) ∧ Below W.heap.size W w' := by
  intro W
  have := refread_any s W hs
  rw [hn] at this
  refine this.mono ?_
  rintro x w' ⟨⟨g, A, n, c, e, rfl, _⟩, hb⟩
  exact ⟨⟨g, A, n, c, e, rfl⟩, hb⟩

set_option maxHeartbeats 2000000 in
set_option maxRecDepth 100000 in
theorem law5 (s : ByteArray) (p : Int) (w : World) (hp : (Lit.int .i64 p).wf = true) (hL : Laid w) : Calls Tryd.prog 5 #[.string s, .int .i64 p] w fun x w' => x = .returned (.bool true) ∧ Below w.heap.size w w' := by
  have hpi := int_range hp
  have AW := Lib.hid (awake_any w hL)
  have HL := Lib.hid hL
  by_cases h : 600 < s.size
  · clear hL
    have hi : (600 : Int) < (s.size : Int) := by omega
    go_enter Tryd.func5, Tryd.ntmps5
    go_wp2_with fail
    refine (AW.out).mono ?_
    rintro x w1 ⟨rfl, hb1⟩
    go_wp2_with fail
    go_ret
    exact ⟨rfl, hb1⟩
  · have hi : ¬ (600 : Int) < (s.size : Int) := by omega
    have RN := fun W hW => round_2 s p W (by omega) hpi hW
    cases hr : Dc.readP s.data.toList with
    | none =>
      have ho : Dc.roundS s.data.toList p = ([], 3) := by rw [Dc.roundS, hr]
      rw [ho] at RN
      have RN : ∀ W, Laid W → Calls Tryd.prog 20 #[.string s, .int .i64 p] W fun x w' => x = .returned (.tuple #[.string ⟨#[]⟩, .int .i64 3]) ∧ Below W.heap.size W w' := RN
      have RN := Lib.hid RN
      have RD := Lib.hid (readC_none hr (by omega))
      have IN := Lib.hid (fun W hW => int_none s W (by omega) hW hr)
      clear hL hr ho hp
      go_enter Tryd.func5, Tryd.ntmps5
      go_wp2_with fail
      refine (AW.out).mono ?_
      rintro x w1 ⟨rfl, hb1⟩
      go_wp2_with fail
      refine (RD.out _).mono ?_
      rintro x w2 ⟨⟨g, A, n, c, e, rfl⟩, hb2⟩
      have hb12 := hb1.trans (hb2.mono hb1.size)
      have hb13 := hb12.alloc hb12.size (.cells #[.bool g, .slice A n c, .int .i64 e] 25)
      go_wp2_with fail
      refine (RN.out _ (HL.out.on hb13)).mono ?_
      rintro x w4 ⟨rfl, hb4⟩
      have hb14 := hb13.trans (hb4.mono hb13.size)
      go_wp2_with fail
      refine (IN.out _ (HL.out.on hb14)).mono ?_
      rintro x w5 ⟨rfl, hb5⟩
      go_wp2_with fail
      go_ret
      exact ⟨rfl, hb14.trans (hb5.mono hb14.size)⟩
    | some y =>
      have hcan := (Dc.readP_some hr).1
      obtain ⟨b1, b2, b3, b4⟩ := Dc.canon_bound hcan
      obtain ⟨g, l, e, n, hg, hl, hee, hln, hyy⟩ := num_letters y
      have RD := Lib.hid (readC_letters hr (by omega) hg hl hee hln)
      have IN := fun W hW => int_some s y W (by omega) hW hr
      have hz : n = 0 → e = 0 := by
        intro h
        rw [← hee]
        exact (hcan.1.2.1 (by rw [hl]; exact List.length_eq_zero_iff.1 (by omega))).2
      rw [hl] at b1 b2
      rw [hee] at b3 b4
      rw [hln] at b2
      have RI := fun A c W hW => refint_any g A n c l e W hW b1 b2 ⟨b3, b4⟩ hz
      rw [← hyy] at RI
      obtain ⟨T, hT⟩ : ∃ T : ByteArray, ⟨(Dc.intS y).toArray⟩ = T := ⟨_, rfl⟩
      obtain ⟨ok, hok⟩ : ∃ ok, Dc.intOkB y = ok := ⟨_, rfl⟩
      rw [hT, hok] at IN RI
      have IN := Lib.hid IN
      have RI := Lib.hid RI
      by_cases hpp : p < -2000 ∨ 2000 < p
      · have ho : Dc.roundS s.data.toList p = ([], 1) := by rw [Dc.roundS, hr]; simp only [if_pos hpp]
        rw [ho] at RN
        have RN : ∀ W, Laid W → Calls Tryd.prog 20 #[.string s, .int .i64 p] W fun x w' => x = .returned (.tuple #[.string ⟨#[]⟩, .int .i64 1]) ∧ Below W.heap.size W w' := RN
        have RN := Lib.hid RN
        have hcase : 2000 < p ∨ (¬ 2000 < p ∧ p < -2000) := by omega
        clear hL hr ho hcan b1 b2 b3 b4 hg hl hee hln hyy hz hT hok hpp hp
        rcases hcase with k1 | ⟨k1, k2⟩
        all_goals
          go_enter Tryd.func5, Tryd.ntmps5
          go_wp2_with fail
          refine (AW.out).mono ?_
          rintro x w1 ⟨rfl, hb1⟩
          go_wp2_with fail
          refine (RD.out _).mono ?_
          rintro x w2 ⟨A, c, rfl, _, hr2, hb2⟩
          have hb12 := hb1.trans (hb2.mono hb1.size)
          obtain ⟨w3, X, hw3, hX, hb3, hX3, hcells⟩ := box_ref g A n c e w2
          have hb13 := hb12.trans (hb3.mono hb12.size)
          have HW3 := Lib.hid hw3
          have HX := Lib.hid hX
          have HC := Lib.hid hcells
          have HR3 := Lib.hid (hr2.on hb3)
          clear hw3 hX hcells hr2
          go_upto_region 6 with fail
          rw [HW3.out, HX.out]
          go_wp2_with fail
          refine (RN.out _ (HL.out.on hb13)).mono ?_
          rintro x w4 ⟨rfl, hb4⟩
          have hb14 := hb13.trans (hb4.mono hb13.size)
          go_wp2_with fail
          refine (IN.out _ (HL.out.on hb14)).mono ?_
          rintro x w5 ⟨rfl, hb5⟩
          have hb35 := hb4.trans (hb5.mono hb4.size)
          obtain ⟨y0, y1, y2, _⟩ := HC.out _ hb35
          go_wp2_with fail
          refine (RI.out A c _ (HR3.out.on hb35)).mono ?_
          rintro x w6 ⟨rfl, hb6⟩
          go_wp2_with fail
          go_ret
          exact ⟨rfl, hb13.trans ((hb35.trans (hb6.mono hb35.size)).mono hb13.size)⟩
      · obtain ⟨R, hR⟩ : ∃ R, Dc.roundP y p = R := ⟨_, rfl⟩
        have ho : Dc.roundS s.data.toList p = (Dc.resS R, Dc.limit R) := by rw [Dc.roundS, hr]; simp only [if_neg hpp, hR]
        rw [ho] at RN
        have hRn : Dc.Normal R ∧ R.c.length ≤ 100000 := by
          rw [← hR]
          have h1 := Dc.roundP_near hcan.1 p (f := -10000) (by rw [hee]; omega) (by omega)
          refine ⟨h1.1, ?_⟩
          rw [Dc.roundP]
          split
          · rw [hl, hln]; omega
          · split
            · simp
            · simp only
              have h2 : Dc.Digs (0 :: y.c.take ((y.c.length : Int) - (-p - y.e)).toNat) := by
                intro x hx
                rcases List.mem_cons.1 hx with rfl | hx
                · omega
                · exact hcan.1.1 x (List.mem_of_mem_take hx)
              obtain ⟨_, _, h5⟩ := Dc.incL_num _ h2
              refine Nat.le_trans (Dc.norm_len _ _ _) ?_
              have h6 : (0 :: y.c.take ((y.c.length : Int) - (-p - y.e)).toNat).length ≤ 401 := by rw [List.length_cons, List.length_take, hl, hln]; omega
              split
              · omega
              · omega
        have RR := fun A c W hW hc => refround_any g A n c l e p W hW b1 b2 hc ⟨b3, b4⟩ ⟨by omega, by omega⟩
        have hRR : Dc.refRoundP ⟨g, l, e⟩ p = R := by rw [← hyy, Dc.refRoundP_eq hcan.1, hR]
        rw [hRR] at RR
        obtain ⟨gz, lz, ez, nz, hgz, hlz, hez, hlnz, hzz⟩ := num_letters R
        have RR2 : ∀ A c W, Reads W W.heap.size A n (i64s l) → n ≤ c → Calls Tryd.prog 24 #[.agg #[.bool g, .slice A n c, .int .i64 e], .int .i64 p] W fun x w' => ∃ A' c', x = .returned (.agg #[.bool gz, .slice A' nz c', .int .i64 ez]) ∧ Reads w' w'.heap.size A' nz (i64s lz) ∧ Below W.heap.size W w' := by
          intro A c W hW hc
          refine (RR A c W hW hc).mono ?_
          rintro x w' ⟨v, rfl, ⟨A', c', rfl, hr'⟩, hb⟩
          rw [hlz, hlnz] at hr'
          exact ⟨A', c', by rw [hgz, hlz, hez, hlnz], hr', hb⟩
        have RR := Lib.hid RR2
        have hRd : Dc.Digs lz := by rw [← hlz]; exact hRn.1.1
        have hRl := hRn.2
        rw [hlz, hlnz] at hRl
        have I0 := fun A c W hW => is0_true gz A nz c lz ez W hW hRd (by omega)
        rw [← hzz] at I0
        obtain ⟨U, hU⟩ : ∃ U : ByteArray, ⟨(Dc.resS R).toArray⟩ = U := ⟨_, rfl⟩
        obtain ⟨m, hm⟩ : ∃ m, Dc.limit R = m := ⟨_, rfl⟩
        rw [hU, hm] at I0
        have RN : ∀ W, Laid W → Calls Tryd.prog 20 #[.string s, .int .i64 p] W fun x w' => x = .returned (.tuple #[.string U, .int .i64 (m : Int)]) ∧ Below W.heap.size W w' := by
          intro W hW
          have := RN W hW
          rw [val2, hm] at this
          simp only [hU] at this
          exact this
        have RN := Lib.hid RN
        have I0 := Lib.hid I0
        have k1 : ¬ 2000 < p := by omega
        have k2 : ¬ p < -2000 := by omega
        clear hL hr ho hcan b1 b2 b3 b4 hg hl hee hln hyy hz hT hok hpp hp hR hRn hRR hgz hlz hez hlnz hzz hRd hRl hU hm RR2
        go_enter Tryd.func5, Tryd.ntmps5
        go_wp2_with fail
        refine (AW.out).mono ?_
        rintro x w1 ⟨rfl, hb1⟩
        go_wp2_with fail
        refine (RD.out _).mono ?_
        rintro x w2 ⟨A, c, rfl, hnc, hr2, hb2⟩
        have hb12 := hb1.trans (hb2.mono hb1.size)
        obtain ⟨w3, X, hw3, hX, hb3, hX3, hcells⟩ := box_ref g A n c e w2
        have hb13 := hb12.trans (hb3.mono hb12.size)
        have HW3 := Lib.hid hw3
        have HX := Lib.hid hX
        have HC := Lib.hid hcells
        have HR3 := Lib.hid (hr2.on hb3)
        clear hw3 hX hcells hr2
        go_upto_region 6 with fail
        rw [HW3.out, HX.out]
        go_wp2_with fail
        refine (RN.out _ (HL.out.on hb13)).mono ?_
        rintro x w4 ⟨rfl, hb4⟩
        have hb14 := hb13.trans (hb4.mono hb13.size)
        go_wp2_with fail
        refine (IN.out _ (HL.out.on hb14)).mono ?_
        rintro x w5 ⟨rfl, hb5⟩
        have hb35 := hb4.trans (hb5.mono hb4.size)
        obtain ⟨y0, y1, y2, _⟩ := HC.out _ hb35
        go_wp2_with fail
        refine (RI.out A c _ (HR3.out.on hb35)).mono ?_
        rintro x w6 ⟨rfl, hb6⟩
        have hb36 := hb35.trans (hb6.mono hb35.size)
        clear y0 y1 y2
        obtain ⟨y0, y1, y2, _⟩ := HC.out _ hb36
        go_wp2_with fail
        refine (RR.out A c _ (HR3.out.on hb36) hnc).mono ?_
        rintro x w7 ⟨A', c', rfl, hr7, hb7⟩
        have hb37 := hb36.trans (hb7.mono hb36.size)
        have HR7 := Lib.hid hr7
        clear hr7 y0 y1 y2
        go_wp2_with fail
        refine (I0.out A' c' _ HR7.out).mono ?_
        rintro x w8 ⟨rfl, hb8⟩
        go_wp2_with fail
        go_ret
        exact ⟨rfl, hb13.trans ((hb37.trans (hb8.mono hb37.size)).mono hb13.size)⟩
end Go.Proofs.YtmgafnflkfbckaaDoor
