/- PositionReturns: the law's walk. -/
import Derived.Test.YtcjhipcjhgicoaaDoorWalkL
namespace Go.Proofs.YtcjhipcjhgicoaaDoor
open Go.RowKit Go.Lib

theorem int_range {o : Int} (h : (Lit.int .i64 o).wf = true) : -9223372036854775808 ≤ o ∧ o ≤ 9223372036854775807 := by
  have h2 : IntKind.i64.min ≤ o ∧ o ≤ IntKind.i64.max := by simpa [Lit.wf] using h
  have e1 : IntKind.i64.min = -9223372036854775808 := by decide
  have e2 : IntKind.i64.max = 9223372036854775807 := by decide
  omega
/-- Offset, whatever the line and the column. -/
theorem offset_both (s : ByteArray) (line column : Int) (hs : s.size ≤ 1073741824) (hl : line ≤ 9223372036854775807) (hc : -9223372036854775808 ≤ column ∧ column ≤ 9223372036854775807) :
    ∃ a e : Int, (∀ A c n W, n = (Po.bg s.data.toList).length → Reads W W.heap.size A n (i64s (Po.bg s.data.toList)) → Calls Tryd.prog 16 #[.agg #[.string s, .slice A n c], .int .i64 line, .int .i64 column] W fun r w' => r = .returned (.tuple #[.int .i64 a, .int .i64 e]) ∧ Below W.heap.size W w') ∧
    (∀ W, Calls Tryd.prog 17 #[.string s, .int .i64 line, .int .i64 column] W fun r w' => r = .returned (.tuple #[.int .i64 a, .int .i64 e]) ∧ w' = W) := by
  by_cases h : line < 0 ∨ ((Po.bg s.data.toList).length : Int) < line
  · exact ⟨0, 9, fun A c n W hn _ => offset_none s A n c line column W (by rw [hn]; exact h), fun W => refoffset_none s line column W h hl hs⟩
  · obtain ⟨k, rfl⟩ : ∃ k : Nat, line = (k : Int) := ⟨line.toNat, by omega⟩
    have h1 := fun A c n W (hn : n = (Po.bg s.data.toList).length) hr => offset_some s A n c k column W hr (by omega) hs hc
    have h2 := fun W => refoffset_some s k column W (by omega) hs hc
    by_cases hif : column < 0 ∨ (Po.fin s.data.toList k : Int) - (Po.beg s.data.toList k : Int) < column
    · simp only [if_pos hif] at h1 h2
      exact ⟨0, 2, h1, h2⟩
    · simp only [if_neg hif] at h1 h2
      exact ⟨_, 0, h1, h2⟩
/-- Line, whatever the line. -/
theorem line_both (s : ByteArray) (line : Int) (hs : s.size ≤ 1073741824) (hl : line ≤ 9223372036854775807) :
    ∃ (t : ByteArray) (e : Int), (∀ A c n W, n = (Po.bg s.data.toList).length → Reads W W.heap.size A n (i64s (Po.bg s.data.toList)) → Calls Tryd.prog 18 #[.agg #[.string s, .slice A n c], .int .i64 line] W fun r w' => r = .returned (.tuple #[.string t, .int .i64 e]) ∧ Below W.heap.size W w') ∧
    (∀ W, Calls Tryd.prog 19 #[.string s, .int .i64 line] W fun r w' => r = .returned (.tuple #[.string t, .int .i64 e]) ∧ w' = W) := by
  by_cases h : line < 0 ∨ ((Po.bg s.data.toList).length : Int) < line
  · exact ⟨_, 9, fun A c n W hn _ => line_none s A n c line W (by rw [hn]; exact h), fun W => refline_none s line W h hl hs⟩
  · obtain ⟨k, rfl⟩ : ∃ k : Nat, line = (k : Int) := ⟨line.toNat, by omega⟩
    exact ⟨Po.lineB s (Po.bg s.data.toList).length k, 0, fun A c n W hn hr => by subst hn; exact line_some s A _ c k W hr (by omega) hs, fun W => refline_some s k _ W (by omega) rfl hs⟩

set_option maxHeartbeats 2000000 in
set_option maxRecDepth 100000 in
theorem law4 (s : ByteArray) (line column : Int) (w : World) (_hs : s.size ≤ maxLen) (hl : (Lit.int .i64 line).wf = true) (hc : (Lit.int .i64 column).wf = true) : Calls Tryd.prog 4 #[.string s, .int .i64 line, .int .i64 column] w fun e w' => e = .returned (.bool true) ∧ Below w.heap.size w w' := by
  by_cases h : 2000 < s.size
  · clear hl hc
    go_enter Tryd.func4, Tryd.ntmps4
    go_wp2_with fail
    refine (awake_any _).mono ?_
    rintro e w2 ⟨rfl, hb2⟩
    go_wp2_with fail
    go_ret
    exact ⟨rfl, hb2⟩
  · obtain ⟨a, e1, OT, RO⟩ := offset_both s line column (by omega) (int_range hl).2 (int_range hc)
    obtain ⟨t, e2, LT, RL⟩ := line_both s line (by omega) (int_range hl).2
    have OF := Lib.hid (of_any s)
    have hOT := Lib.hid OT
    have hRO := Lib.hid RO
    have hLT := Lib.hid LT
    have hRL := Lib.hid RL
    clear OT RO LT RL hl hc
    go_enter Tryd.func4, Tryd.ntmps4
    go_wp2_with fail
    refine (OF.out _ (by omega)).mono ?_
    rintro e w1 ⟨v, rfl, ⟨A, n, c, rfl, hr1, hn1⟩, hb1⟩
    have hbl : n = (Po.bg s.data.toList).length := by have := hr1.1; simp [i64s] at this; exact this.symm
    have HBL := Lib.hid hbl
    clear hbl
    obtain ⟨w2, X, hw2, hX, hb2, hr2, _, _, hcells⟩ := lines_block (c := c) hb1 hr1
    have HW2 := Lib.hid hw2
    have HXX := Lib.hid hX
    have HC := Lib.hid hcells
    clear hw2 hX hcells hr1
    have hd2 : Below w2.heap.size w2 w2 := Below.refl _ _
    go_wp2_with fail
    rw [HW2.out, HXX.out]
    refine (hOT.out A c n _ HBL.out hr2).mono ?_
    rintro e w3 ⟨rfl, hc3⟩
    have hd3 : Below w2.heap.size w2 w3 := hd2.trans (hc3.mono hd2.size)
    obtain ⟨p3, q3⟩ := HC.out _ hd3
    go_wp2_with fail
    refine (hRO.out _).mono ?_
    rintro e w' ⟨rfl, rfl⟩
    go_wp2_with fail
    refine (hLT.out A c n _ HBL.out (hr2.on hd3)).mono ?_
    rintro e w4 ⟨rfl, hc4⟩
    have hd4 : Below w2.heap.size w2 w4 := hd3.trans (hc4.mono hd3.size)
    go_wp2_with fail
    refine (hRL.out _).mono ?_
    rintro e w' ⟨rfl, rfl⟩
    go_wp2_with fail
    refine (awake_any _).mono ?_
    rintro e w5 ⟨rfl, hc5⟩
    have hd5 : Below w2.heap.size w2 w5 := hd4.trans (hc5.mono hd4.size)
    go_wp2_with fail
    go_ret
    exact ⟨rfl, hb2.trans (hd5.mono hb2.size)⟩
end Go.Proofs.YtcjhipcjhgicoaaDoor
