/- The reference: Round. -/
import Derived.Test.YtmgafnflkfbckaaDoorWalkY
import Derived.Test.YtmgafnflkfbckaaDoorWalkAE
namespace Go.Proofs.YtmgafnflkfbckaaDoor
open Go.RowKit Go.Lib

theorem up2_len (up : Bool) (L : List Nat) (h : Dc.Digs L) : (if up = true then (Dc.incL L).1 else L).length = L.length ∧ Dc.Digs (if up = true then (Dc.incL L).1 else L) := by
  obtain ⟨_, h2, h3⟩ := Dc.incL_num L h
  split
  · exact ⟨h3, h2⟩
  · exact ⟨rfl, h⟩
theorem half_set (k : Nat) (h : 0 < k) : (i64s (List.replicate k 0)).set 0 (.int .i64 5) = i64s (Dc.halfL k) := by
  obtain ⟨q, rfl⟩ : ∃ q, k = q + 1 := ⟨k - 1, by omega⟩
  simp [i64s, Dc.halfL, List.replicate_succ]
set_option maxHeartbeats 2000000 in
set_option maxRecDepth 100000 in
theorem refround_any (g : Bool) (A : Option Addr) (n c : Nat) (l : List Nat) (e p : Int) (w : World) (hr : Reads w w.heap.size A n (i64s l)) (hd : Dc.Digs l) (hn : n ≤ 400) (hc : n ≤ c) (he : -2000 ≤ e ∧ e ≤ 2000) (hp : -2000 ≤ p ∧ p ≤ 2000) :
    Calls Tryd.prog 24 #[.agg #[.bool g, .slice A n c, .int .i64 e], .int .i64 p] w fun x w' => ∃ v, x = .returned v ∧ RNum w' v (Dc.refRoundP ⟨g, l, e⟩ p) ∧ Below w.heap.size w w' := by
  have hln : l.length = n := by have := hr.1; rwa [i64s_len] at this
  obtain ⟨R, hR⟩ : ∃ R, Dc.refRoundP ⟨g, l, e⟩ p = R := ⟨_, rfl⟩
  rw [hR]
  rw [Dc.refRoundP] at hR
  simp only [hln] at hR
  have HLN := Lib.hid hln
  have HR := Lib.hid hR
  have HRD := Lib.hid hr
  have HD := Lib.hid hd
  -- the two blocks
  obtain ⟨X, hX⟩ : ∃ X, w.heap.size = X := ⟨_, rfl⟩
  obtain ⟨w2, hw2⟩ : ∃ w2 : World, (w.alloc (.cells #[.bool g, .slice A n c, .int .i64 e] 25)).alloc (.cells #[.bool false, .slice none 0 0, .int .i64 0] 25) = w2 := ⟨_, rfl⟩
  have es : (w.alloc (.cells #[.bool g, .slice A n c, .int .i64 e] 25)).heap.size = X + 1 := by rw [← hX]; simp
  have hb2 : Below X w w2 := by rw [← hw2, ← hX]; exact ((Below.refl _ _).alloc (Nat.le_refl _) _).alloc (by simp) _
  have hsz : w2.heap.size = X + 2 := by rw [← hw2, ← hX]; simp
  have hBX : w2.heap[X]? = some (.cells #[.bool g, .slice A n c, .int .i64 e] 25 (0, 0)) := by
    rw [← hw2, ← hX]
    exact (Below.heap_alloc _ _ _ (by simp)).trans (heap_alloc_new w _)
  have hBY : w2.heap[X + 1]? = some (.cells #[.bool false, .slice none 0 0, .int .i64 0] 25 (0, 0)) := by
    have := heap_alloc_new (w.alloc (.cells #[.bool g, .slice A n c, .int .i64 e] 25)) (.cells #[.bool false, .slice none 0 0, .int .i64 0] 25)
    rw [es] at this
    rw [← hw2]; exact this
  have hcells : ∀ W, Below (X + 2) w2 W → (W.cell? ⟨X, 0, none⟩ = some (.bool g) ∧ W.cell? ⟨X, 1, none⟩ = some (.slice A n c) ∧ W.cell? ⟨X, 2, none⟩ = some (.int .i64 e)) ∧
      (W.cell? ⟨X + 1, 0, none⟩ = some (.bool false) ∧ W.cell? ⟨X + 1, 1, none⟩ = some (.slice none 0 0) ∧ W.cell? ⟨X + 1, 2, none⟩ = some (.int .i64 0)) ∧
      (W.frozen? ⟨X + 1, 0, none⟩ = false ∧ W.frozen? ⟨X + 1, 1, none⟩ = false ∧ W.frozen? ⟨X + 1, 2, none⟩ = false) := by
    intro W hW
    have h1 := (hW.block X (by omega)).trans hBX
    have h2 := (hW.block (X + 1) (by omega)).trans hBY
    exact ⟨⟨at_block h1 0 _ rfl, at_block h1 1 _ rfl, at_block h1 2 _ rfl⟩, ⟨at_block h2 0 _ rfl, at_block h2 1 _ rfl, at_block h2 2 _ rfl⟩, free_block h2 0, free_block h2 1, free_block h2 2⟩
  have HW2 := Lib.hid hw2
  have HX := Lib.hid hX
  have HC := Lib.hid hcells
  have hd2 : Below (X + 2) w2 w2 := Below.refl _ _
  obtain ⟨⟨q0, q1, q2⟩, ⟨z0, z1, z2⟩, f0, f1, f2⟩ := hcells w2 hd2
  have hrX : Reads w X A n (i64s l) := hX ▸ hr
  clear hw2 hX hcells hBX hBY es hr hln hR hd
  obtain ⟨k, hk⟩ : ∃ k : Int, -p - e = k := ⟨_, rfl⟩
  have hkb : -4000 ≤ k ∧ k ≤ 4000 := by omega
  have HK := Lib.hid hk
  clear hk
  go_enter Tryd.func24, Tryd.ntmps24
  go_upto_region 1 with fail
  rw [HW2.out, HX.out]
  go_cut [5] (fun t wx => t = .int .i64 k ∧ wx = w2)
  case first =>
    go_wp2_with fail
    go_meet
    exact ⟨by rw [HK.out], rfl⟩
  case rest =>
    obtain ⟨rfl, hwc⟩ := hcut
    subst hwc
    obtain ⟨w2, hw2⟩ : ∃ W, W = wc := ⟨_, rfl⟩
    subst hw2
    have hR1 := HR.out
    rw [HK.out] at hR1
    by_cases h0 : k ≤ 0 ∨ n = 0
    · rw [if_pos h0] at hR1
      have HR1 := Lib.hid hR1
      have hcase : k ≤ 0 ∨ (¬ k ≤ 0 ∧ n = 0) := by omega
      clear h0 hR1
      have fin : ∀ W, W = ((w2.setCell ⟨X + 1, 0, none⟩ (.bool g)).setCell ⟨X + 1, 1, none⟩ (.slice A n c)).setCell ⟨X + 1, 2, none⟩ (.int .i64 e) → ∃ v, Ending.returned (.agg #[.bool g, .slice A n c, .int .i64 e]) = .returned v ∧ RNum W v R ∧ Below w.heap.size w W := by
        intro W hW
        subst hW
        have hbE := ((hb2.setCell (p := ⟨X + 1, 0, none⟩) (by show X ≤ X + 1; omega) (.bool g)).setCell (p := ⟨X + 1, 1, none⟩) (by show X ≤ X + 1; omega) (.slice A n c)).setCell (p := ⟨X + 1, 2, none⟩) (by show X ≤ X + 1; omega) (.int .i64 e)
        refine ⟨_, rfl, ⟨A, c, by rw [← HR1.out]; simp only [HLN.out], ?_⟩, by rw [HX.out]; exact hbE⟩
        rw [← HR1.out]
        simp only [HLN.out]
        refine (hrX.below hbE).more ?_
        have := hbE.size
        rw [HX.out] at this
        exact this
      rcases hcase with h1 | ⟨h1, h2⟩
      · go_wp2_with fail
        refine bodyPost_ret (v := .agg #[.bool g, .slice A n c, .int .i64 e]) (by simp [results, Tryd.results24, go_sem, z0, z1, z2]) rfl ?_
        exact fin _ rfl
      · subst h2
        go_wp2_with fail
        refine bodyPost_ret (v := .agg #[.bool g, .slice A 0 c, .int .i64 e]) (by simp [results, Tryd.results24, go_sem, z0, z1, z2]) rfl ?_
        exact fin _ rfl
    · rw [if_neg h0] at hR1
      have hk1 : ¬ k ≤ 0 := by omega
      have hf : ((n : Int) == 0) = false := by simp; omega
      by_cases h3 : (n : Int) < k
      · rw [if_pos h3] at hR1
        have HR1 := Lib.hid hR1
        clear hR1 h0
        go_wp2_with fail
        refine bodyPost_ret (v := .agg #[.bool false, .slice none 0 0, .int .i64 0]) (by simp [results, Tryd.results24, go_sem, z0, z1, z2]) rfl ?_
        have hbE := ((hb2.setCell (p := ⟨X + 1, 0, none⟩) (by show X ≤ X + 1; omega) (.bool false)).setCell (p := ⟨X + 1, 1, none⟩) (by show X ≤ X + 1; omega) (.slice none 0 0)).setCell (p := ⟨X + 1, 2, none⟩) (by show X ≤ X + 1; omega) (.int .i64 0)
        exact ⟨_, rfl, ⟨none, 0, by rw [← HR1.out]; rfl, by rw [← HR1.out]; exact Reads.none_⟩, by rw [HX.out]; exact hbE⟩
      · rw [if_neg h3] at hR1
        obtain ⟨K, rfl⟩ : ∃ K : Nat, k = (K : Int) := ⟨k.toNat, by omega⟩
        obtain ⟨N, hN⟩ : ∃ N : Nat, (n : Int) - (K : Int) = (N : Int) := ⟨((n : Int) - (K : Int)).toNat, by omega⟩
        rw [hN, Int.toNat_natCast] at hR1
        have hK0 : 0 < K := by omega
        have hNn : N < n := by omega
        have hN400 : N ≤ 400 := by omega
        have hNn2 : (N : Int) ≤ (n : Int) := by omega
        have hNc : (N : Int) ≤ (c : Int) := by omega
        have hnc : (n : Int) ≤ (c : Int) := by omega
        have hN0 : (0 : Int) ≤ (N : Int) := by omega
        have hKn : ¬ (n : Int) < (K : Int) := by omega
        obtain ⟨N1, hN1⟩ : ∃ N1 : Nat, (N : Int) + 1 = (N1 : Int) := ⟨N + 1, by omega⟩
        have hw1 : IntKind.i64.wrap ((n : Int) - (K : Int)) = (N : Int) := by rw [hN]; exact IntWalk.i64_in _ (by omega)
        have hw2 : IntKind.i64.wrap ((N : Int) + 1) = (N1 : Int) := by rw [hN1]; exact IntWalk.i64_in _ (by omega)
        obtain ⟨b, off, hA, hbB, hcl⟩ := hrX.2 (by omega)
        subst hA
        have hrt := hrX.take N (by omega)
        rw [show (i64s l).take N = i64s (l.take N) by simp [i64s, List.map_take]] at hrt
        have hrd := hrX.drop N (by omega) b off rfl
        rw [show (i64s l).drop N = i64s (l.drop N) by simp [i64s, List.map_drop], show n - N = K by omega] at hrd
        have FR := Lib.hid (fun c' W hW => front_any (some ⟨b, off, none⟩) N c' N1 (l.take N) W hW (by omega) (by omega))
        have HRT := Lib.hid hrt
        have HRDR := Lib.hid hrd
        have HR1 := Lib.hid hR1
        have HN := Lib.hid hN
        have HN1 := Lib.hid hN1
        have HW := Lib.hid (And.intro hw1 hw2)
        have hnN : n - N = K := by omega
        have HNN := Lib.hid hnN
        clear hR1 h0 h3 hN hN1 hcl hrt hrd hnN
        go_upto_region 6 with fail
        go_cut [6] (fun t wx => ∃ (G c6 : Nat), t = .slice (some ⟨G, 0, none⟩) N1 c6 ∧ N1 ≤ c6 ∧ X + 2 ≤ G ∧ Row wx G 3 c6 (i64s (0 :: l.take N)) ∧ Below (X + 2) w2 wx)
        case first =>
          go_region_held3 (fun W => W.cell? ⟨X, 0, none⟩ = some (.bool g) ∧ W.cell? ⟨X, 1, none⟩ = some (.slice (some ⟨b, off, none⟩) n c) ∧ W.cell? ⟨X, 2, none⟩ = some (.int .i64 e) ∧ Below (X + 2) w2 W)
            (first | exact hS7 | exact ⟨q0, q1, q2, hd2.drew⟩)
            (first | (with_reducible refine (FR.out _ _ ((HRT.out.below (hb2.trans (by first | (have := (by assumption : Below (X + 2) w2 _); exact this.mono (by omega)) | exact (hd2.drew).mono (by omega)))).more (by have := hsz; simp; omega))).mono ?_; rintro x w7 ⟨v7, rfl, ho7, hb7⟩; have hb7' : Below (X + 2) w2 w7 := (hd2.drew).trans (hb7.mono (by simp [hsz])); have hS7 := And.intro (HC.out _ hb7').1.1 (And.intro (HC.out _ hb7').1.2.1 (And.intro (HC.out _ hb7').1.2.2 hb7'))))
          all_goals
            obtain ⟨A7, c7, rfl, hc7, _⟩ := own_slice ho7
            obtain ⟨G, rfl, hG, hrow, _, _⟩ := Row.of_own ho7 (by have := HN1.out; omega)
            go_wp2_with fail
            go_meet
            refine ⟨G, c7, rfl, hc7, by simpa [hsz] using hG, ?_, hb7'⟩
            have e1 : Dc.frontL (l.take N) N1 = 0 :: l.take N := by
              have h1 := HN1.out
              have h2 := HLN.out
              rw [Dc.frontL, List.length_take, show N1 - min N l.length = 1 by omega]; rfl
            rw [e1] at hrow
            exact hrow
        case rest =>
          obtain ⟨G, c6, rfl, hN16, hG, hrow, hb3⟩ := hcut
          obtain ⟨w3, hw3⟩ : ∃ W, W = wc := ⟨_, rfl⟩
          subst hw3
          obtain ⟨⟨q0, q1, q2⟩, _⟩ := HC.out _ hb3
          obtain ⟨Z, hZ⟩ : ∃ Z, i64s (List.replicate K 0) = Z := ⟨_, rfl⟩
          have hmk := fun W => make_ints K (by omega) W
          rw [hZ] at hmk
          have hZl : Z.length = K := by rw [← hZ, i64s_len, List.length_replicate]
          have hZh : Z.set 0 (.int .i64 5) = i64s (Dc.halfL K) := by rw [← hZ]; exact half_set K hK0
          obtain ⟨zz, hzz⟩ : ∃ zz, Z[0]? = some zz := ⟨_, List.getElem?_eq_getElem (by omega)⟩
          have HZL := Lib.hid hZl
          have HZH := Lib.hid hZh
          have HZ0 := Lib.hid hzz
          clear hZ hZl hZh hzz
          have hKi : (0 : Int) < (K : Int) := by omega
          go_upto_region 9 with fail
          rw [HNN.out]
          have hb4 : Below (X + 2) w2 (w3.alloc (.cells Z.toArray 3)) := hb3.alloc (by have := hb3.size; omega) _
          have hH4 := heap_alloc_new w3 (.cells Z.toArray 3)
          have hs4 : (w3.alloc (.cells Z.toArray 3)).heap.size = w3.heap.size + 1 := by simp
          obtain ⟨H, hH⟩ : ∃ H, w3.heap.size = H := ⟨_, rfl⟩
          obtain ⟨w4, hw4⟩ : ∃ w4, w3.alloc (.cells Z.toArray 3) = w4 := ⟨_, rfl⟩
          have hrow4 : Row w4 G 3 c6 (i64s (0 :: l.take N)) := by rw [← hw4]; exact hrow.on ((Below.refl _ _).alloc (Nat.le_refl _) _)
          have hGH : G < H := by rw [← hH]; exact hrow.lt
          rw [hw4, hH] at hs4 hH4
          rw [hw4] at hb4
          rw [hw4, hH]
          have hHrow : Row w4 H 3 K Z := ⟨Z.toArray, hH4, by simp [HZL.out], by rw [HZL.out]; exact Nat.le_refl _, by simp⟩
          have hHX : X + 2 ≤ H := by omega
          have hh0 := hHrow.at_ HZ0.out
          have hhf := hHrow.free 0
          have HHR := Lib.hid hHrow
          have HROW := Lib.hid hrow4
          have HS4 := Lib.hid hs4
          clear hw4 hH hrow hrow4 hHrow hH4 hs4 q0 q1 q2
          go_upto_region 10 with fail
          have hb5 : Below (X + 2) w2 (w4.setCell ⟨H, 0, none⟩ (.int .i64 5)) := hb4.setCell (p := ⟨H, 0, none⟩) hHX _
          have hr5 := HHR.out.set (by rw [HZL.out]; exact hK0) (.int .i64 5)
          rw [HZH.out] at hr5
          have hG5 : Row (w4.setCell ⟨H, 0, none⟩ (.int .i64 5)) G 3 c6 (i64s (0 :: l.take N)) := HROW.out.below (((Below.refl H w4).setCell (p := ⟨H, 0, none⟩) (Nat.le_refl _) _)) hGH
          obtain ⟨w5, hw5⟩ : ∃ w5, w4.setCell ⟨H, 0, none⟩ (.int .i64 5) = w5 := ⟨_, rfl⟩
          rw [hw5] at hb5 hr5 hG5
          rw [hw5]
          have hhl : (i64s (Dc.halfL K)).length = K := by rw [i64s_len, Dc.halfL]; simp; omega
          have hrd5 := hr5.reads
          rw [hhl] at hrd5
          have hrest5 : Reads w5 w5.heap.size (some ⟨b, off + N, none⟩) K (i64s (l.drop N)) := (HRDR.out.below ((hb2.trans (hb5.mono (by omega))))).more (by have := hb5.size; omega)
          obtain ⟨S, hS⟩ : ∃ S, Dc.sizeL (l.drop N) (Dc.halfL K) = S := ⟨_, rfl⟩
          have SZ := fun c1 c2 => size_any (some ⟨b, off + N, none⟩) (some ⟨H, 0, none⟩) K c1 c2 (l.drop N) (Dc.halfL K) w5 hrest5 hrd5 (by omega)
          rw [hS] at SZ
          have SZ := Lib.hid SZ
          obtain ⟨QL, hQL⟩ : ∃ QL, 0 :: l.take N = QL := ⟨_, rfl⟩
          have hQl : QL.length = N1 := by
            have h1 := HN1.out
            have h2 := HLN.out
            rw [← hQL, List.length_cons, List.length_take]; omega
          have hQd : Dc.Digs QL := by
            rw [← hQL]
            intro x hx
            rcases List.mem_cons.1 hx with rfl | hx
            · omega
            · exact HD.out x (List.mem_of_mem_take hx)
          have hQ0 : QL[0]? = some 0 := by rw [← hQL]; rfl
          rw [hQL] at hG5
          obtain ⟨up, hup⟩ : ∃ up, Dc.goesUp2 QL (l.drop N) = up := ⟨_, rfl⟩
          have hR2 := HR1.out
          rw [hQL, hup] at hR2
          obtain ⟨z, hz⟩ : ∃ z, QL[N]? = some z := ⟨_, List.getElem?_eq_getElem (by have := HN1.out; omega)⟩
          have hdl : (l.drop N).length = K := by rw [List.length_drop, HLN.out]; exact HNN.out
          have hup2 : (decide (0 < S) || (decide (S = 0) && decide (z % 2 = 1))) = up := by
            have e3 : QL.getLastD 0 = z := by
              have h1 := HN1.out
              rw [List.getLastD_eq_getLast?, List.getLast?_eq_getElem?, hQl, show N1 - 1 = N by omega, hz]; rfl
            rw [← hup, Dc.goesUp2, hdl, hS, e3]
          have hcz := hG5.at_ (i64s_get hz)
          obtain ⟨zr, hzr⟩ : ∃ zr, z % 2 = zr := ⟨_, rfl⟩
          have hzi : (z : Int) % 2 = (zr : Int) := by omega
          have hzt : Int.tmod (z : Int) 2 = (zr : Int) := by rw [Int.tmod_eq_emod_of_nonneg (by omega)]; exact hzi
          have HUP := Lib.hid hup2
          have HZR := Lib.hid hzr
          have HQL := Lib.hid hQl
          have HQD := Lib.hid hQd
          have HQ0 := Lib.hid hQ0
          have HR2 := Lib.hid hR2
          have HROW5 := Lib.hid hG5
          have hN1i : (N1 : Int) - 1 = (N : Int) := by have := HN1.out; omega
          have hN1b : (N : Int) < (N1 : Int) := by omega
          have HN1I := Lib.hid hN1i
          clear hw5 hh0 hhf hr5 hrd5 hrest5 hS hQL hQl hQd hQ0 hG5 hup hR2 hz hdl hup2 hzr hhl hN1i
          go_wp2_with fail
          refine (SZ.out _ _).mono ?_
          rintro x w6 ⟨rfl, hb6⟩
          have hb56 : Below (X + 2) w2 w6 := hb5.trans (hb6.mono (by have := hb5.size; omega))
          have hG6 := HROW5.out.on hb6
          have hcz6 := (hb6.cell (p := ⟨G, N, none⟩) HROW5.out.lt).trans hcz
          have HROW6 := Lib.hid hG6
          clear hcz hG6
          go_upto_region 11 with fail
          go_cut [76] (fun t wx => t = .bool up ∧ wx = w6)
          case first =>
            have hN1i := HN1I.out
            have hN1c : (0 : Int) ≤ (N1 : Int) - 1 := by omega
            by_cases c1 : 0 < S
            · have hv : up = true := by rw [← HUP.out]; simp [c1]
              have HV := Lib.hid hv
              clear hv
              go_wp2_with fail
              go_meet
              exact ⟨by rw [HV.out], rfl⟩
            · by_cases c2 : S = 0
              · have c2i : (S == 0) = true := by simp [c2]
                by_cases c4 : zr = 1
                · have c4i : ((zr : Int) == 1) = true := by subst c4; rfl
                  have hv : up = true := by rw [← HUP.out, HZR.out]; simp [c2, c4]
                  have HV := Lib.hid hv
                  clear hv c2 c4
                  go_wp2_with fail
                  go_meet
                  exact ⟨by rw [HV.out], rfl⟩
                · have c4i : ((zr : Int) == 1) = false := by simp; omega
                  have hv : up = false := by rw [← HUP.out, HZR.out]; simp [c4, c2]
                  have HV := Lib.hid hv
                  clear hv c2 c4
                  go_wp2_with fail
                  go_meet
                  exact ⟨by rw [HV.out], rfl⟩
              · have c2i : (S == 0) = false := by simp [c2]
                have hv : up = false := by rw [← HUP.out]; simp [c1, c2]
                have HV := Lib.hid hv
                clear hv c2
                go_wp2_with fail
                go_meet
                exact ⟨by rw [HV.out], rfl⟩
          case rest =>
            obtain ⟨rfl, hwc⟩ := hcut
            subst hwc
            obtain ⟨w6, hw6⟩ : ∃ W, W = wc := ⟨_, rfl⟩
            subst hw6
            clear hzi hzt hcz6
            go_upto_if 76 with fail
            go_cut [76, 10] (fun t76 _ wx => t76 = .bool up ∧ Row wx G 3 c6 (i64s (if up = true then (Dc.incL QL).1 else QL)) ∧ Below (X + 2) w2 wx)
            case first =>
              cases hup : up with
              | false =>
                have HUPF := Lib.hid hup
                clear hup
                go_wp2_with fail
                go_meet
                exact ⟨by rw [HUPF.out], by rw [HUPF.out, if_neg (by simp)]; exact HROW6.out, hb56⟩
              | true =>
                have HUPF := Lib.hid hup
                clear hup
                go_wp2_with fail
                rw [HN1I.out]
                go_loopg [10] (N + 1) (fun f i wx => ∃ (j mm : Nat), i = .int .i64 (j : Int) ∧ j ≤ N ∧ j < f ∧ j + 1 + mm = N1 ∧ QL.drop (j + 1) = List.replicate mm 9 ∧ Row wx G 3 c6 (i64s (QL.take (j + 1) ++ List.replicate mm 0)) ∧ Below (X + 2) w2 wx)
                case atStart =>
                  have hNN1 : N + 1 = N1 := by have := HN1.out; omega
                  refine ⟨N, 0, by first | rfl | exact congrArg (Value.int .i64) (IntWalk.wrap64_in (N : Int) (by omega)), Nat.le_refl _, by omega, by omega, ?_, ?_, hb56⟩
                  · rw [List.drop_eq_nil_of_le (by rw [HQL.out]; omega)]; rfl
                  · rw [List.take_of_length_le (by rw [HQL.out]; omega)]; simpa using HROW6.out
                case round =>
                  obtain ⟨j, mm, rfl, hj, hf, hjm, hdr, hrow, hbx⟩ := hrel
                  have hj0 : (0 : Int) ≤ (j : Int) := by omega
                  have hjN : (j : Int) < (N1 : Int) := by omega
                  obtain ⟨x, hx⟩ : ∃ x, QL[j]? = some x := ⟨_, List.getElem?_eq_getElem (by rw [HQL.out]; omega)⟩
                  have hcur := Dc.inc_cur (L := QL) (i := j) (m := mm) (by rw [HQL.out]; omega) (by rw [HQL.out]; omega)
                  have hcx := hrow.at_ (i64s_get (hcur.2.trans hx))
                  have hfx := hrow.free j
                  have hx10 : x < 10 := HQD.out x (List.mem_of_getElem? hx)
                  have hcl2 : j < (i64s (QL.take (j + 1) ++ List.replicate mm 0)).length := by rw [i64s_len, hcur.1, HQL.out]; omega
                  have HROWX := Lib.hid hrow
                  have HX := Lib.hid hx
                  have HDR := Lib.hid hdr
                  have HJM := Lib.hid hjm
                  have HCL2 := Lib.hid hcl2
                  clear hrow hx hcur hdr hjm hcl2
                  by_cases h9 : x = 9
                  · have h9i : ((x : Int) == 9) = true := by subst h9; rfl
                    have hjp : 0 < j := by
                      rcases Nat.eq_zero_or_pos j with h | h
                      · have h1 := HX.out
                        rw [h, HQ0.out, h9] at h1
                        cases h1
                      · exact h
                    obtain ⟨q, rfl⟩ : ∃ q, j = q + 1 := ⟨j - 1, by omega⟩
                    obtain ⟨f, rfl⟩ : ∃ f, gk = f + 1 := ⟨gk - 1, by omega⟩
                    have H9 := Lib.hid h9
                    clear h9
                    go_wp2_with fail
                    go_roundg f
                    case measure => omega
                    case rel =>
                      obtain ⟨s1, s2⟩ := Dc.inc_step (by have := HX.out; rw [H9.out] at this; exact this) HDR.out
                      have hr' := HROWX.out.set HCL2.out (.int .i64 0)
                      have e0 : (i64s (QL.take (q + 1 + 1) ++ List.replicate mm 0)).set (q + 1) (.int .i64 0) = i64s (QL.take (q + 1) ++ List.replicate (mm + 1) 0) := by
                        rw [← s2, i64s_set']; rfl
                      rw [e0] at hr'
                      have := HJM.out
                      exact ⟨q, mm + 1, by go_num, by omega, by omega, by omega, s1, hr', hbx.setCell (p := ⟨G, q + 1, none⟩) hG _⟩
                  · have h9i : ((x : Int) == 9) = false := by simp; omega
                    have H9 := Lib.hid h9
                    clear h9
                    go_wp2_with fail
                    go_meet
                    have hr' := HROWX.out.set HCL2.out (.int .i64 ((x + 1 : Nat) : Int))
                    rw [← i64s_set', Dc.inc_done HX.out H9.out HDR.out] at hr'
                    refine ⟨by rw [HUPF.out], ?_, hbx.setCell (p := ⟨G, j, none⟩) hG _⟩
                    rw [HUPF.out, if_pos rfl]
                    simpa using hr'
            case rest =>
              obtain ⟨rfl, hrow, hb7⟩ := hcut
              obtain ⟨w7, hw7⟩ : ∃ W, W = wc := ⟨_, rfl⟩
              subst hw7
              obtain ⟨hul, hud⟩ := up2_len up QL HQD.out
              obtain ⟨QF, hQF⟩ : ∃ QF, (if up = true then (Dc.incL QL).1 else QL) = QF := ⟨_, rfl⟩
              rw [hQF] at hrow hul
              have hR5 := HR2.out
              rw [hQF] at hR5
              rw [HQL.out] at hul
              have hrd := hrow.reads
              rw [i64s_len, hul] at hrd
              obtain ⟨gr, lr, er, nr, hgr, hlr, her, hlnr, hrr⟩ := num_letters R
              have NO : Calls Tryd.prog 52 #[.bool g, .slice (some ⟨G, 0, none⟩) N1 c6, .int .i64 (-p)] w7 fun x w' => ∃ A' c', x = .returned (.agg #[.bool gr, .slice A' nr c', .int .i64 er]) ∧ w'.ownsRow w7.heap.size 3 1 (.slice A' nr c') nr (i64s lr) ∧ Below w7.heap.size w7 w' := by
                refine (refnorm_any g (some ⟨G, 0, none⟩) N1 c6 QF (-p) w7 hrd (by have := HN1.out; omega) (by omega)).mono ?_
                rintro x w' ⟨v, rfl, ⟨A', c', rfl, ho⟩, hb⟩
                rw [hR5, hlr, hlnr] at ho
                exact ⟨A', c', by rw [hR5, hgr, hlr, hlnr, her], ho, hb⟩
              have NO := Lib.hid NO
              have HRR := Lib.hid hrr
              have HLR := Lib.hid hlnr
              obtain ⟨⟨q0, q1, q2⟩, _⟩ := HC.out _ hb7
              clear hrow hQF hR5 hul hrd hgr hlr her hlnr hrr hud
              go_wp2_with fail
              refine (NO.out).mono ?_
              rintro x w8 ⟨A', c', rfl, ho8, hb8⟩
              have hb78 : Below (X + 2) w2 w8 := hb7.trans (hb8.mono (by have := hb7.size; omega))
              have ho8 := own_base (base' := X + 2) ho8 (by have := hb7.size; omega)
              obtain ⟨_, ⟨z0, z1, z2⟩, f0, f1, f2⟩ := HC.out _ hb78
              have HO8 := Lib.hid ho8
              clear ho8
              go_wp2_with fail
              refine bodyPost_ret (v := .agg #[.bool gr, .slice A' nr c', .int .i64 er]) (by simp [results, Tryd.results24, go_sem, z0, z1, z2]) rfl ?_
              have hbE := (((hb2.trans (hb78.mono (by omega))).setCell (p := ⟨X + 1, 0, none⟩) (by show X ≤ X + 1; omega) (.bool gr)).setCell (p := ⟨X + 1, 1, none⟩) (by show X ≤ X + 1; omega) (.slice A' nr c')).setCell (p := ⟨X + 1, 2, none⟩) (by show X ≤ X + 1; omega) (.int .i64 er)
              have ho := ownsRow_setCell_below (ownsRow_setCell_below (ownsRow_setCell_below HO8.out (a := ⟨X + 1, 0, none⟩) (by show X + 1 < X + 2; omega) (.bool gr)) (a := ⟨X + 1, 1, none⟩) (by show X + 1 < X + 2; omega) (.slice A' nr c')) (a := ⟨X + 1, 2, none⟩) (by show X + 1 < X + 2; omega) (.int .i64 er)
              refine ⟨_, rfl, ⟨A', c', by rw [HRR.out, HLR.out], ?_⟩, by rw [HX.out]; exact hbE⟩
              rw [HRR.out, HLR.out]
              exact Reads.of_own ho
end Go.Proofs.YtmgafnflkfbckaaDoor
