/- PositionAdds: the law's walk. -/
import Derived.Test.YtcjhipcjhgicoaaDoorPlain2
namespace Go.Proofs.YtcjhipcjhgicoaaDoor
open Go.RowKit Go.Lib

theorem p6 {A B C D E F : Prop} {a W : World} (h : A ∧ B ∧ C ∧ D ∧ E ∧ F ∧ Below a.heap.size a W) : Below a.heap.size a W := h.2.2.2.2.2.2
theorem p6_trans {A B C D E F : Prop} {a W W' : World} (h : A ∧ B ∧ C ∧ D ∧ E ∧ F ∧ Below a.heap.size a W) (hb : Below W.heap.size W W') : Below a.heap.size a W' := (p6 h).trans (hb.mono (p6 h).size)

set_option maxHeartbeats 1000000 in
set_option maxRecDepth 100000 in
theorem law9 (a b : ByteArray) (w : World) (_ha : a.size ≤ maxLen) (_hb : b.size ≤ maxLen) : Calls Tryd.prog 9 #[.string a, .string b] w fun e w' => e = .returned (.bool true) ∧ Below w.heap.size w w' := by
  have AW := Lib.hid awake_any
  by_cases h1 : 300 < a.size
  · go_enter Tryd.func9, Tryd.ntmps9
    go_wp2_with (go_at_call 10; refine (AW.out _).mono ?_; rintro e w2 ⟨rfl, hb2⟩)
    go_ret
    exact ⟨rfl, hb2⟩
  by_cases h2 : 300 < b.size
  · go_enter Tryd.func9, Tryd.ntmps9
    go_wp2_with (go_at_call 10; refine (AW.out _).mono ?_; rintro e w2 ⟨rfl, hb2⟩)
    go_ret
    exact ⟨rfl, hb2⟩
  -- the three sources
  obtain ⟨p, hp⟩ : ∃ p : ByteArray, a ++ ⟨#[10]⟩ = p := ⟨_, rfl⟩
  obtain ⟨z, hz⟩ : ∃ z : ByteArray, p ++ b = z := ⟨_, rfl⟩
  have hps : p.size = a.size + 1 := by rw [← hp, ByteArray.size_append]; rfl
  have hzs : z.size = p.size + b.size := by rw [← hz, ByteArray.size_append]
  have hpd : p.data.toList = a.data.toList ++ [10] := by rw [← hp]; simp
  have hzd : z.data.toList = (a.data.toList ++ [10]) ++ b.data.toList := by rw [← hz, ← hpd]; simp
  obtain ⟨nx, hnx⟩ : ∃ n, (Po.bg p.data.toList).length = n := ⟨_, rfl⟩
  obtain ⟨ny, hny⟩ : ∃ n, (Po.bg b.data.toList).length = n := ⟨_, rfl⟩
  have hnz : (Po.bg z.data.toList).length = nx + ny := by rw [hzd, Po.len_behind, ← hnx, ← hny, hpd]
  have hlb : b.data.toList.length = b.size := by simp
  have hlz : z.data.toList.length = z.size := by simp
  have hla : a.data.toList.length = a.size := by simp
  -- line k of b is line nx + k of the whole
  have FACT : ∀ k, k ≤ ny → Po.lineB z (nx + ny) (nx + k) = Po.lineB b ny k ∧ Po.beg z.data.toList (nx + k) = Po.beg b.data.toList k + (a.size + 1) ∧ Po.beg b.data.toList k ≤ Po.fin b.data.toList k ∧ Po.fin b.data.toList k ≤ b.size ∧ Po.beg z.data.toList (nx + k) ≤ Po.fin z.data.toList (nx + k) ∧ Po.fin z.data.toList (nx + k) ≤ z.size := by
    intro k hk
    refine ⟨?_, ?_, Po.beg_le_fin (by omega), by rw [← hlb]; exact Po.fin_le (by omega), Po.beg_le_fin (by omega), by rw [← hlz]; exact Po.fin_le (by omega)⟩
    · rw [← hz, ← hnx]
      exact Po.lineB_behind hpd hny (by rw [hz, hnz, hnx]) hk
    · rw [hzd, ← hnx, hpd, Po.beg_behind (by omega), hla]
  have OX := Lib.hid (of_any p)
  have OY := Lib.hid (of_any b)
  have OZ := Lib.hid (of_any z)
  have HFA := Lib.hid FACT
  have HNX := Lib.hid hnx
  have HNY := Lib.hid hny
  have HNZ := Lib.hid hnz
  have HPS := Lib.hid hps
  have HZS := Lib.hid hzs
  have HP := Lib.hid hp
  have HZ := Lib.hid hz
  clear FACT hp hz hpd hzd hnx hny hnz hlb hlz hla hps hzs
  go_enter Tryd.func9, Tryd.ntmps9
  go_wp2_with fail
  rw [HP.out]
  refine (OX.out _ (by rw [HPS.out]; omega)).mono ?_
  rintro e w1 ⟨v, rfl, ⟨A1, n1, c1, rfl, hr1, _⟩, hb1⟩
  obtain rfl : nx = n1 := by have := hr1.1; simp only [i64s, List.length_map, HNX.out] at this; exact this
  go_wp2_with fail
  refine (OY.out _ (by omega)).mono ?_
  rintro e w2 ⟨v, rfl, ⟨A2, n2, c2, rfl, hr2, _⟩, hb2⟩
  obtain rfl : ny = n2 := by have := hr2.1; simp only [i64s, List.length_map, HNY.out] at this; exact this
  go_wp2_with fail
  rw [HP.out, HZ.out]
  refine (OZ.out _ (by rw [HZS.out, HPS.out]; omega)).mono ?_
  rintro e w3 ⟨v, rfl, ⟨A3, n3, c3, rfl, hr3, _⟩, hb3⟩
  obtain rfl : nx + ny = n3 := by have := hr3.1; simp only [i64s, List.length_map, HNZ.out] at this; exact this
  go_wp2_with fail
  obtain ⟨m, hm⟩ : ∃ m, nx + ny = m := ⟨_, rfl⟩
  rw [hm] at hr3 ⊢
  obtain ⟨w4, hw4⟩ : ∃ w4 : World, ((w3.alloc (.cells #[.string p, .slice A1 nx c1] 25)).alloc (.cells #[.string b, .slice A2 ny c2] 25)).alloc (.cells #[.string z, .slice A3 m c3] 25) = w4 := ⟨_, rfl⟩
  have hb34 : Below w3.heap.size w3 w4 := by
    rw [← hw4]
    exact (((Below.refl _ _).alloc (Nat.le_refl _) _).alloc (by simp) _).alloc (by simp; omega) _
  have hsz : w4.heap.size = w3.heap.size + 3 := by rw [← hw4]; simp
  have hx4 : w4.heap[w3.heap.size]? = some (.cells #[.string p, .slice A1 nx c1] 25 (0, 0)) := by
    rw [← hw4]
    exact (Below.heap_alloc _ _ _ (by simp; omega)).trans ((Below.heap_alloc _ _ _ (by simp)).trans (heap_alloc_new w3 _))
  have hy4 : w4.heap[w3.heap.size + 1]? = some (.cells #[.string b, .slice A2 ny c2] 25 (0, 0)) := by
    rw [← hw4]
    have := heap_alloc_new (w3.alloc (.cells #[.string p, .slice A1 nx c1] 25)) (.cells #[.string b, .slice A2 ny c2] 25)
    exact (Below.heap_alloc _ _ _ (by simp)).trans (by simpa using this)
  have hz4 : w4.heap[w3.heap.size + 1 + 1]? = some (.cells #[.string z, .slice A3 m c3] 25 (0, 0)) := by
    rw [← hw4]
    have := heap_alloc_new ((w3.alloc (.cells #[.string p, .slice A1 nx c1] 25)).alloc (.cells #[.string b, .slice A2 ny c2] 25)) (.cells #[.string z, .slice A3 m c3] 25)
    simpa using this
  have hR2 := (hr2.on hb3).on hb34
  have hR3 := hr3.on hb34
  have hbw : Below w.heap.size w w4 := hb1.trans ((hb2.trans ((hb3.trans (hb34.mono hb3.size)).mono hb2.size)).mono hb1.size)
  obtain ⟨X, hX⟩ : ∃ X, w3.heap.size = X := ⟨_, rfl⟩
  rw [hX] at hx4 hy4 hz4 hsz ⊢
  rw [hw4]
  have hcells : ∀ W, Below w4.heap.size w4 W → W.cell? ⟨X, 0, none⟩ = some (.string p) ∧ W.cell? ⟨X, 1, none⟩ = some (.slice A1 nx c1) ∧ W.cell? ⟨X + 1, 0, none⟩ = some (.string b) ∧ W.cell? ⟨X + 1, 1, none⟩ = some (.slice A2 ny c2) ∧
      W.cell? ⟨X + 1 + 1, 0, none⟩ = some (.string z) ∧ W.cell? ⟨X + 1 + 1, 1, none⟩ = some (.slice A3 m c3) ∧ Below w4.heap.size w4 W := by
    intro W hW
    have h1 := (hW.block X (by omega)).trans hx4
    have h2 := (hW.block (X + 1) (by omega)).trans hy4
    have h3 := (hW.block (X + 1 + 1) (by omega)).trans hz4
    exact ⟨at_block h1 0 _ rfl, at_block h1 1 _ rfl, at_block h2 0 _ rfl, at_block h2 1 _ rfl, at_block h3 0 _ rfl, at_block h3 1 _ rfl, hW⟩
  have hnb : nx ≤ 301 := by
    have h := Po.bg_len p.data.toList
    have hl : p.data.toList.length = p.size := by simp
    rw [HNX.out, hl, HPS.out] at h
    omega
  have hny : ny ≤ b.size := by
    have h := Po.bg_len b.data.toList
    have hl : b.data.toList.length = b.size := by simp
    rw [HNY.out, hl] at h
    exact h
  have HC := Lib.hid hcells
  have HR2 := Lib.hid hR2
  have HR3 := Lib.hid hR3
  have CX := Lib.hid (fun W => count_any p A1 nx c1 W (by omega))
  have CY := Lib.hid (fun W => count_any b A2 ny c2 W (by omega))
  have CZ := Lib.hid (fun W => count_any z A3 m c3 W (by omega))
  have HM := Lib.hid hm
  have hd4 : Below w4.heap.size w4 w4 := Below.refl _ _
  have wx1 : IntKind.i64.wrap (nx : Int) = (nx : Int) := IntWalk.i64_in _ (by omega)
  have wx2 : IntKind.i64.wrap ((nx : Int) + ((ny : Int) + 1)) = (nx : Int) + ((ny : Int) + 1) := IntWalk.i64_in _ (by omega)
  have hmi : ((m : Int) + 1 != (nx : Int) + ((ny : Int) + 1)) = false := by simp; omega
  clear hcells hx4 hy4 hz4 hR2 hR3 hm hw4 hb34 hX hsz hr1 hr2 hr3
  go_region_held3 (fun W => W.cell? ⟨X, 0, none⟩ = some (.string p) ∧ W.cell? ⟨X, 1, none⟩ = some (.slice A1 nx c1) ∧ W.cell? ⟨X + 1, 0, none⟩ = some (.string b) ∧ W.cell? ⟨X + 1, 1, none⟩ = some (.slice A2 ny c2) ∧
      W.cell? ⟨X + 1 + 1, 0, none⟩ = some (.string z) ∧ W.cell? ⟨X + 1 + 1, 1, none⟩ = some (.slice A3 m c3) ∧ Below w4.heap.size w4 W)
    ((refine HC.out _ ?_; first | assumption | exact (Below.refl _ _).drew))
    (first | (go_at_call 14; first | (refine (CX.out _).mono ?_; rintro e w7 ⟨rfl, hb7⟩; have hb7' := p6_trans (by assumption) hb7) | (refine (CY.out _).mono ?_; rintro e w7 ⟨rfl, hb7⟩; have hb7' := p6_trans (by assumption) hb7) | (refine (CZ.out _).mono ?_; rintro e w7 ⟨rfl, hb7⟩; have hb7' := p6_trans (by assumption) hb7)))
  have hd7 : Below w4.heap.size w4 w7 := hb7'
  obtain ⟨q1, q2, q3, q4, q5, q6, _⟩ := HC.out _ hd7
  go_wp2_with fail
  refine (CY.out _).mono ?_
  rintro e w8 ⟨rfl, hb8⟩
  have hd8 : Below w4.heap.size w4 w8 := hd7.trans (hb8.mono hd7.size)
  clear q1 q2 q3 q4 q5 q6 hb7'
  go_wp2_with fail
  go_loopg [47] (ny + 2) (fun g i wx => ∃ k : Nat, i = .int .i64 k ∧ k ≤ ny + 1 ∧ ny + 1 ≤ k + g ∧ Below w4.heap.size w4 wx)
  case atStart => exact ⟨0, rfl, by omega, by omega, hd8⟩
  case round =>
    obtain ⟨k, rfl, hk, hg, hdx⟩ := hrel
    obtain ⟨q1, q2, q3, q4, q5, q6, _⟩ := HC.out _ hdx
    by_cases hlt : k < ny + 1
    · obtain ⟨g, rfl⟩ : ∃ g, gk = g + 1 := ⟨gk - 1, by omega⟩
      have hin : (k : Int) < (ny : Int) + 1 := by omega
      obtain ⟨f1, f2, f3, f4, f5, f6⟩ := HFA.out k (by omega)
      rw [HM.out] at f1
      have lnz : ∀ W, Reads W W.heap.size A3 m (i64s (Po.bg z.data.toList)) → Calls Tryd.prog 18 #[.agg #[.string z, .slice A3 m c3], .int .i64 ((nx : Int) + (k : Int))] W fun e w' => e = .returned (.tuple #[.string (Po.lineB b ny k), .int .i64 0]) ∧ Below W.heap.size W w' := by
        intro W hr
        have h := line_some z A3 m c3 (nx + k) W hr (by have := HM.out; omega) (by rw [HZS.out, HPS.out]; omega)
        rw [f1] at h
        simpa only [Int.natCast_add] using h
      have lny := fun W hr => line_some b A2 ny c2 k W hr (by omega) (by omega)
      have osy := fun W hr => offset_some b A2 ny c2 k 0 W hr (by omega) (by omega) (by omega)
      simp only [if_neg (show ¬ ((0 : Int) < 0 ∨ (Po.fin b.data.toList k : Int) - (Po.beg b.data.toList k : Int) < 0) by omega), Int.add_zero] at osy
      have osz : ∀ W, Reads W W.heap.size A3 m (i64s (Po.bg z.data.toList)) → Calls Tryd.prog 16 #[.agg #[.string z, .slice A3 m c3], .int .i64 ((nx : Int) + (k : Int)), .int .i64 0] W fun e w' => e = .returned (.tuple #[.int .i64 ((Po.beg b.data.toList k : Int) + (a.size : Int) + 1), .int .i64 0]) ∧ Below W.heap.size W w' := by
        intro W hr
        have h := offset_some z A3 m c3 (nx + k) 0 W hr (by have := HM.out; omega) (by rw [HZS.out, HPS.out]; omega) (by omega)
        rw [if_neg (show ¬ ((0 : Int) < 0 ∨ (Po.fin z.data.toList (nx + k) : Int) - (Po.beg z.data.toList (nx + k) : Int) < 0) by omega), f2] at h
        have e : (((Po.beg b.data.toList k + (a.size + 1) : Nat) : Int) + 0) = (Po.beg b.data.toList k : Int) + (a.size : Int) + 1 := by omega
        rw [e] at h
        simpa only [Int.natCast_add] using h
      obtain ⟨B, hB⟩ : ∃ B, Po.beg b.data.toList k = B := ⟨_, rfl⟩
      obtain ⟨T, hT⟩ : ∃ T, Po.lineB b ny k = T := ⟨_, rfl⟩
      rw [hT] at lny lnz
      rw [hB] at osy osz f3
      have hBi : (B : Int) ≤ b.size := by omega
      have LNY := Lib.hid lny
      have LNZ := Lib.hid lnz
      have OSY := Lib.hid osy
      have OSZ := Lib.hid osz
      have wk : IntKind.i64.wrap ((nx : Int) + (k : Int)) = (nx : Int) + (k : Int) := IntWalk.i64_in _ (by omega)
      clear f1 f2 f3 f4 f5 f6 hB hT lny lnz osy osz
      go_wp2_with fail
      refine (LNY.out _ (HR2.out.on hdx)).mono ?_
      rintro e w9 ⟨rfl, hb9⟩
      have hd9 : Below w4.heap.size w4 w9 := hdx.trans (hb9.mono hdx.size)
      clear q1 q2 q3 q4 q5 q6
      go_wp2_with fail
      go_region_held3 (fun W => W.cell? ⟨X, 0, none⟩ = some (.string p) ∧ W.cell? ⟨X, 1, none⟩ = some (.slice A1 nx c1) ∧ W.cell? ⟨X + 1, 0, none⟩ = some (.string b) ∧ W.cell? ⟨X + 1, 1, none⟩ = some (.slice A2 ny c2) ∧
          W.cell? ⟨X + 1 + 1, 0, none⟩ = some (.string z) ∧ W.cell? ⟨X + 1 + 1, 1, none⟩ = some (.slice A3 m c3) ∧ Below w4.heap.size w4 W)
        ((refine HC.out _ ?_; first | assumption | exact (hd9).trans ((Below.refl _ _).drew.mono (hd9).size)))
        (first | (go_at_call 14; refine (CX.out _).mono ?_; rintro e w7 ⟨rfl, hb7⟩; have hb7' := p6_trans (by assumption) hb7) | (go_at_call 18; refine (LNZ.out _ (HR3.out.on (p6 (by assumption)))).mono ?_; rintro e w7 ⟨rfl, hb7⟩; have hb7' := p6_trans (by assumption) hb7))
      have hd10 : Below w4.heap.size w4 w7 := hb7'
      clear hb7'
      obtain ⟨q1, q2, q3, q4, q5, q6, _⟩ := HC.out _ hd10
      go_wp2_with fail
      refine (OSY.out _ (HR2.out.on hd10)).mono ?_
      rintro e w11 ⟨rfl, hb11⟩
      have hd11 : Below w4.heap.size w4 w11 := hd10.trans (hb11.mono hd10.size)
      clear q1 q2 q3 q4 q5 q6
      go_wp2_with fail
      go_region_held3 (fun W => W.cell? ⟨X, 0, none⟩ = some (.string p) ∧ W.cell? ⟨X, 1, none⟩ = some (.slice A1 nx c1) ∧ W.cell? ⟨X + 1, 0, none⟩ = some (.string b) ∧ W.cell? ⟨X + 1, 1, none⟩ = some (.slice A2 ny c2) ∧
          W.cell? ⟨X + 1 + 1, 0, none⟩ = some (.string z) ∧ W.cell? ⟨X + 1 + 1, 1, none⟩ = some (.slice A3 m c3) ∧ Below w4.heap.size w4 W)
        ((refine HC.out _ ?_; first | assumption | exact (hd11).trans ((Below.refl _ _).drew.mono (hd11).size)))
        (first | (go_at_call 14; refine (CX.out _).mono ?_; rintro e w7 ⟨rfl, hb7⟩; have hb7' := p6_trans (by assumption) hb7) | (go_at_call 16; refine (OSZ.out _ (HR3.out.on (p6 (by assumption)))).mono ?_; rintro e w7 ⟨rfl, hb7⟩; have hb7' := p6_trans (by assumption) hb7))
      have hd12 : Below w4.heap.size w4 _ := hb7'
      go_wp2_with fail
      go_roundg g
      case measure => omega
      case rel => exact ⟨k + 1, by go_num, by omega, by omega, hd12⟩
    · have hkn2 : k = ny + 1 := by omega
      subst hkn2
      have hin : ¬ ((ny + 1 : Nat) : Int) < (ny : Int) + 1 := by omega
      go_wp2_with fail
      refine (AW.out _).mono ?_
      rintro e w13 ⟨rfl, hb13⟩
      go_wp2_with fail
      go_ret
      exact ⟨rfl, hbw.trans ((hdx.trans (hb13.mono hdx.size)).mono hbw.size)⟩
end Go.Proofs.YtcjhipcjhgicoaaDoor
