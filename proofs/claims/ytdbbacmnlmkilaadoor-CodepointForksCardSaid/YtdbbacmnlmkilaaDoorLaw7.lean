/- CodepointForks: the law's walk. -/
import Derived.Test.YtdbbacmnlmkilaaDoorLaw6
namespace Go.Proofs.YtdbbacmnlmkilaaDoor
open Go.RowKit Go.Lib

/-- What Feed answers, in letters, whether the text goes on or not. -/
theorem feed_same (h : List UInt8) (t : ByteArray) (y0 y1 y2 k : Int) (hy : fd h = .agg #[.int .u8 y0, .int .u8 y1, .int .u8 y2, .int .i64 k]) (hh : h.length ≤ 3) (ht : t.size ≤ 1000) :
    ∃ (J : List UInt8) (a0 a1 a2 ak g : Int) (l : List Nat) (m : Nat), fd J = .agg #[.int .u8 a0, .int .u8 a1, .int .u8 a2, .int .i64 ak] ∧ J.length ≤ 3 ∧ (g = 0 ∨ g = 11) ∧ l.length = m ∧ m ≤ 1073741824 ∧ ∀ W, Utf8Tabs 0 1 W →
      Calls Tryd.prog 15 #[.agg #[.int .u8 y0, .int .u8 y1, .int .u8 y2, .int .i64 k], .string t] W fun e w' => ∃ A c, e = .returned (.tuple #[.agg #[.int .u8 a0, .int .u8 a1, .int .u8 a2, .int .i64 ak], .slice A m c, .int .i64 g]) ∧
        Reads w' w'.heap.size A m (i32s (l.map fun (r : Nat) => (r : Int))) ∧ Below W.heap.size W w' := by
  cases hex : Cp.extensible (h ++ t.data.toList) with
  | true =>
    obtain ⟨x0, x1, x2, hx⟩ := fd_eq (Cp.rest (h ++ t.data.toList))
    have h3 := Cp.sc_le (h ++ t.data.toList)
    have h4 := Cp.used_le (h ++ t.data.toList)
    rw [List.length_append, Cp.len_data] at h4
    refine ⟨_, x0, x1, x2, _, 0, Cp.sc (h ++ t.data.toList), _, hx, Cp.ext_short hex, Or.inl rfl, rfl, by omega, fun W hW => ?_⟩
    rw [← hy]
    refine (feed_ok h t W hh (by omega) hW hex).mono ?_
    rintro e w' ⟨v, rfl, hv, hb⟩
    obtain ⟨A, c, rfl, hr⟩ := hands_open hv
    exact ⟨A, c, by rw [hx], hr, hb⟩
  | false =>
    refine ⟨[], 0, 0, 0, 0, 11, [], 0, rfl, by simp, Or.inr rfl, rfl, by omega, fun W hW => ?_⟩
    rw [← hy]
    refine (feed_bad h t W hh (by omega) hW hex).mono ?_
    rintro e w' ⟨rfl, hb⟩
    exact ⟨none, 0, rfl, Reads.none_, hb⟩
theorem end_zero (w : World) : Calls Tryd.prog 17 #[.agg #[.int .u8 0, .int .u8 0, .int .u8 0, .int .i64 0]] w fun e w' => e = .returned (.int .i64 0) ∧ Below w.heap.size w w' :=
  end_letters [] _ rfl 0 (if_pos rfl) w

theorem p4 {A B C : Prop} {a W : World} (h : A ∧ B ∧ C ∧ Below a.heap.size a W) : Below a.heap.size a W := h.2.2.2
theorem p4_trans {A B C : Prop} {a W W' : World} (h : A ∧ B ∧ C ∧ Below a.heap.size a W) (hb : Below W.heap.size W W') : Below a.heap.size a W' := h.2.2.2.trans (hb.mono h.2.2.2.size)

set_option maxHeartbeats 4000000 in
set_option maxRecDepth 100000 in
theorem law7 (s t u : ByteArray) (w : World) (hT : Utf8Tabs 0 1 w) : Calls Tryd.prog 7 #[.string s, .string t, .string u] w fun e w' => e = .returned (.bool true) ∧ Below w.heap.size w w' := by
  have h2 := Cp.tabs_lt hT
  have AW := Lib.hid (awake_any w hT)
  by_cases hs : 100 < s.size
  · go_enter Tryd.func7, Tryd.ntmps7
    go_wp2_with (go_at_call 10; refine (AW.out).mono ?_; rintro e w1 ⟨rfl, hb1⟩)
    go_ret
    exact ⟨rfl, hb1⟩
  · by_cases ht : 100 < t.size
    · go_enter Tryd.func7, Tryd.ntmps7
      go_wp2_with (go_at_call 10; refine (AW.out).mono ?_; rintro e w1 ⟨rfl, hb1⟩)
      go_ret
      exact ⟨rfl, hb1⟩
    · by_cases hu : 100 < u.size
      · go_enter Tryd.func7, Tryd.ntmps7
        go_wp2_with (go_at_call 10; refine (AW.out).mono ?_; rintro e w1 ⟨rfl, hb1⟩)
        go_ret
        exact ⟨rfl, hb1⟩
      · obtain ⟨R, x0, x1, x2, xk, gs, ls, ms, hR, hR3, hgs, _, _, FS⟩ := feed_same [] s 0 0 0 0 rfl (by simp) (by omega)
        obtain ⟨J, a0, a1, a2, ak, g, l, m, hJ, _, _, hm, hm9, FT⟩ := feed_same R t x0 x1 x2 xk hR hR3 (by omega)
        obtain ⟨_, u0, u1, u2, uk, gu, _, mu, _, _, _, _, _, FU⟩ := feed_same R u x0 x1 x2 xk hR hR3 (by omega)
        obtain ⟨kE, EJ⟩ : ∃ kE : Int, ∀ W, Calls Tryd.prog 17 #[.agg #[.int .u8 a0, .int .u8 a1, .int .u8 a2, .int .i64 ak]] W fun e w' => e = .returned (.int .i64 kE) ∧ Below W.heap.size W w' := ⟨_, fun W => end_letters J _ hJ _ rfl W⟩
        have hFS := Lib.hid FS
        have hFT := Lib.hid FT
        have hFU := Lib.hid FU
        have hEJ := Lib.hid EJ
        have hM := Lib.hid hm
        clear FS FT FU EJ hm hJ hR
        rcases hgs with rfl | rfl
        · go_enter Tryd.func7, Tryd.ntmps7
          go_wp2_with fail
          refine (AW.out).mono ?_
          rintro e w1 ⟨rfl, hb1⟩
          go_wp2_with fail
          refine (hFS.out _ (Cp.tabs_below hT (hb1.alloc hb1.size _) h2)).mono ?_
          rintro e w2 ⟨A2, c2, rfl, hr2, hb2⟩
          have hb2w : Below w.heap.size w w2 := (hb1.alloc hb1.size _).trans (hb2.mono (by have := hb1.size; simp; omega))
          have hz2 : w2.heap[w1.heap.size]? = some (.cells #[.int .u8 0, .int .u8 0, .int .u8 0, .int .i64 0] 38 (0, 0)) := (hb2.block w1.heap.size (by simp)).trans (heap_alloc_new w1 _)
          have HZ2 := Lib.hid hz2
          clear hz2
          go_wp2_with fail
          have hf2 := hb2w.alloc hb2w.size (.cells #[.int .u8 x0, .int .u8 x1, .int .u8 x2, .int .i64 xk] 38)
          refine (hFT.out _ (Cp.tabs_below hT hf2 h2)).mono ?_
          rintro e w3 ⟨A3, c3, rfl, hr3, hb3⟩
          have hb3w : Below w.heap.size w w3 := hf2.trans (hb3.mono hf2.size)
          have hs23 : w2.heap.size < w3.heap.size := by have := hb3.size; simp at this; omega
          have hs12 : w1.heap.size < w2.heap.size := lt_of_block HZ2.out
          have hz3 := ((hb3.block w1.heap.size (by simp; omega)).trans (Below.heap_alloc w2 _ _ hs12)).trans HZ2.out
          have hf3 : w3.heap[w2.heap.size]? = some (.cells #[.int .u8 x0, .int .u8 x1, .int .u8 x2, .int .i64 xk] 38 (0, 0)) := (hb3.block w2.heap.size (by simp)).trans (heap_alloc_new w2 _)
          have f0 := at_block hf3 0 (.int .u8 x0) rfl
          have f1 := at_block hf3 1 (.int .u8 x1) rfl
          have f2 := at_block hf3 2 (.int .u8 x2) rfl
          have f3 := at_block hf3 3 (.int .i64 xk) rfl
          have HZ3 := Lib.hid hz3
          have HF3 := Lib.hid hf3
          clear hz3 hf3
          go_wp2_with fail
          have ha3 := hb3w.alloc hb3w.size (.cells #[.int .u8 a0, .int .u8 a1, .int .u8 a2, .int .i64 ak] 38)
          refine (hFU.out _ (Cp.tabs_below hT ha3 h2)).mono ?_
          rintro e w4 ⟨A4, c4, rfl, _, hb4⟩
          clear f0 f1 f2 f3
          have hb4w : Below w.heap.size w w4 := ha3.trans (hb4.mono ha3.size)
          have hs34 : w3.heap.size < w4.heap.size := by have := hb4.size; simp at this; omega
          have hb34 : Below w3.heap.size w3 w4 := ((Below.refl _ _).alloc (Nat.le_refl _) _).trans (hb4.mono (by simp))
          have hr4 := hr3.on hb34
          have hz4 := (hb34.block w1.heap.size (by omega)).trans HZ3.out
          have hf4 := (hb34.block w2.heap.size (by omega)).trans HF3.out
          have ha4 : w4.heap[w3.heap.size]? = some (.cells #[.int .u8 a0, .int .u8 a1, .int .u8 a2, .int .i64 ak] 38 (0, 0)) := (hb4.block w3.heap.size (by simp)).trans (heap_alloc_new w3 _)
          have f0 := at_block hf4 0 (.int .u8 x0) rfl
          have f1 := at_block hf4 1 (.int .u8 x1) rfl
          have f2 := at_block hf4 2 (.int .u8 x2) rfl
          have f3 := at_block hf4 3 (.int .i64 xk) rfl
          have HZ4 := Lib.hid hz4
          have HA4 := Lib.hid ha4
          clear hz4 hf4 ha4
          go_wp2_with fail
          refine (hFT.out _ (Cp.tabs_below hT hb4w h2)).mono ?_
          rintro e w5 ⟨A5, c5, rfl, hr5, hb5⟩
          clear f0 f1 f2 f3
          have hb5w : Below w.heap.size w w5 := hb4w.trans (hb5.mono hb4w.size)
          have hr5' := hr4.on hb5
          have hs45 := hb5.size
          have hz5 := (hb5.block w1.heap.size (by omega)).trans HZ4.out
          have ha5 := (hb5.block w3.heap.size (by omega)).trans HA4.out
          have h56 := (Below.refl w5.heap.size w5).alloc (Nat.le_refl _) (.cells #[.int .u8 a0, .int .u8 a1, .int .u8 a2, .int .i64 ak] 38)
          have hr6 := hr5.on h56
          have hr6' := hr5'.on h56
          have hz6 := (h56.block w1.heap.size (by omega)).trans hz5
          have ha6 := (h56.block w3.heap.size (by omega)).trans ha5
          have hq6 : (w5.alloc (.cells #[.int .u8 a0, .int .u8 a1, .int .u8 a2, .int .i64 ak] 38)).heap[w5.heap.size]? = some (.cells #[.int .u8 a0, .int .u8 a1, .int .u8 a2, .int .i64 ak] 38 (0, 0)) := heap_alloc_new w5 _
          have hs6 : w5.heap.size < (w5.alloc (.cells #[.int .u8 a0, .int .u8 a1, .int .u8 a2, .int .i64 ak] 38)).heap.size := by simp
          have SMP := Lib.hid (fun W (hW : Below (w5.alloc (.cells #[.int .u8 a0, .int .u8 a1, .int .u8 a2, .int .i64 ak] 38)).heap.size (w5.alloc (.cells #[.int .u8 a0, .int .u8 a1, .int .u8 a2, .int .i64 ak] 38)) W) => same' l m hM.out A3 A5 c3 c5 W (hr6'.on hW) (hr6.on hW) hm9)
          have HZ6 := Lib.hid hz6
          have HA6 := Lib.hid ha6
          have HQ6 := Lib.hid hq6
          have hb6w := hb5w.alloc hb5w.size (.cells #[.int .u8 a0, .int .u8 a1, .int .u8 a2, .int .i64 ak] 38)
          clear hz5 ha5 hz6 ha6 hq6 h56
          go_wp2_with fail
          obtain ⟨w6, hw6⟩ : ∃ w6, w5.alloc (.cells #[.int .u8 a0, .int .u8 a1, .int .u8 a2, .int .i64 ak] 38) = w6 := ⟨_, rfl⟩
          rw [hw6] at SMP HZ6 HA6 HQ6 hb6w hs6 ⊢
          have hcells : ∀ W, Below w6.heap.size w6 W → (W.cell? ⟨w1.heap.size, 0, none⟩ = some (.int .u8 0) ∧ W.cell? ⟨w1.heap.size, 1, none⟩ = some (.int .u8 0) ∧ W.cell? ⟨w1.heap.size, 2, none⟩ = some (.int .u8 0) ∧ W.cell? ⟨w1.heap.size, 3, none⟩ = some (.int .i64 0)) ∧
              (W.cell? ⟨w3.heap.size, 0, none⟩ = some (.int .u8 a0) ∧ W.cell? ⟨w3.heap.size, 1, none⟩ = some (.int .u8 a1) ∧ W.cell? ⟨w3.heap.size, 2, none⟩ = some (.int .u8 a2) ∧ W.cell? ⟨w3.heap.size, 3, none⟩ = some (.int .i64 ak)) ∧
              (W.cell? ⟨w5.heap.size, 0, none⟩ = some (.int .u8 a0) ∧ W.cell? ⟨w5.heap.size, 1, none⟩ = some (.int .u8 a1) ∧ W.cell? ⟨w5.heap.size, 2, none⟩ = some (.int .u8 a2) ∧ W.cell? ⟨w5.heap.size, 3, none⟩ = some (.int .i64 ak)) ∧ Below w6.heap.size w6 W := by
            intro W hW
            have hz := (hW.block w1.heap.size (by omega)).trans HZ6.out
            have ha := (hW.block w3.heap.size (by omega)).trans HA6.out
            have hq := (hW.block w5.heap.size (by omega)).trans HQ6.out
            exact ⟨⟨at_block hz 0 _ rfl, at_block hz 1 _ rfl, at_block hz 2 _ rfl, at_block hz 3 _ rfl⟩, ⟨at_block ha 0 _ rfl, at_block ha 1 _ rfl, at_block ha 2 _ rfl, at_block ha 3 _ rfl⟩, ⟨at_block hq 0 _ rfl, at_block hq 1 _ rfl, at_block hq 2 _ rfl, at_block hq 3 _ rfl⟩, hW⟩
          have HC := Lib.hid hcells
          clear hcells
          go_region_held3 (fun W => (W.cell? ⟨w1.heap.size, 0, none⟩ = some (.int .u8 0) ∧ W.cell? ⟨w1.heap.size, 1, none⟩ = some (.int .u8 0) ∧ W.cell? ⟨w1.heap.size, 2, none⟩ = some (.int .u8 0) ∧ W.cell? ⟨w1.heap.size, 3, none⟩ = some (.int .i64 0)) ∧
              (W.cell? ⟨w3.heap.size, 0, none⟩ = some (.int .u8 a0) ∧ W.cell? ⟨w3.heap.size, 1, none⟩ = some (.int .u8 a1) ∧ W.cell? ⟨w3.heap.size, 2, none⟩ = some (.int .u8 a2) ∧ W.cell? ⟨w3.heap.size, 3, none⟩ = some (.int .i64 ak)) ∧
              (W.cell? ⟨w5.heap.size, 0, none⟩ = some (.int .u8 a0) ∧ W.cell? ⟨w5.heap.size, 1, none⟩ = some (.int .u8 a1) ∧ W.cell? ⟨w5.heap.size, 2, none⟩ = some (.int .u8 a2) ∧ W.cell? ⟨w5.heap.size, 3, none⟩ = some (.int .i64 ak)) ∧ Below w6.heap.size w6 W)
            ((refine HC.out _ ?_; first | assumption | exact (Below.refl _ _).drew))
            (first
              | (go_at_call 14; refine (SMP.out _ (by first | assumption | exact (Below.refl _ _).drew | exact p4 (by assumption))).mono ?_; rintro e w7 ⟨rfl, hb7⟩; have hb7' := p4_trans (by assumption) hb7)
              | (go_at_call 17; refine (hEJ.out _).mono ?_; rintro e w7 ⟨rfl, hb7⟩; have hb7' := p4_trans (by assumption) hb7)
              | (go_at_call 17; refine (end_zero _).mono ?_; rintro e w7 ⟨rfl, hb7⟩; have hb7' := p4_trans (by assumption) hb7))
          all_goals
            go_wp2_with fail
            go_ret
            refine ⟨rfl, hb6w.trans (Below.mono (B := w6.heap.size) ?_ hb6w.size)⟩
            assumption
        · go_enter Tryd.func7, Tryd.ntmps7
          go_wp2_with fail
          refine (AW.out).mono ?_
          rintro e w1 ⟨rfl, hb1⟩
          go_wp2_with fail
          refine (hFS.out _ (Cp.tabs_below hT (hb1.alloc hb1.size _) h2)).mono ?_
          rintro e w2 ⟨A2, c2, rfl, hr2, hb2⟩
          have hb2w : Below w.heap.size w w2 := (hb1.alloc hb1.size _).trans (hb2.mono (by have := hb1.size; simp; omega))
          have hz2 : w2.heap[w1.heap.size]? = some (.cells #[.int .u8 0, .int .u8 0, .int .u8 0, .int .i64 0] 38 (0, 0)) := (hb2.block w1.heap.size (by simp)).trans (heap_alloc_new w1 _)
          have z0 := at_block hz2 0 (.int .u8 0) rfl
          have z1 := at_block hz2 1 (.int .u8 0) rfl
          have z2 := at_block hz2 2 (.int .u8 0) rfl
          have z3 := at_block hz2 3 (.int .i64 0) rfl
          have hlt2 : w1.heap.size < w2.heap.size := lt_of_block hz2
          have HZ2 := Lib.hid hz2
          clear hz2
          go_wp2_with fail
          have hf2 := hb2w.alloc hb2w.size (.cells #[.int .u8 x0, .int .u8 x1, .int .u8 x2, .int .i64 xk] 38)
          refine (end_zero _).mono ?_
          rintro e w3 ⟨rfl, hb3⟩
          go_wp2_with fail
          go_ret
          exact ⟨rfl, hf2.trans (hb3.mono hf2.size)⟩
end Go.Proofs.YtdbbacmnlmkilaaDoor
