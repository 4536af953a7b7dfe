/- PositionFinds: the law's walk. -/
import Derived.Test.YtcjhipcjhgicoaaDoorWalkL
namespace Go.Proofs.YtcjhipcjhgicoaaDoor
open Go.RowKit Go.Lib

/-- At, whatever the offset. -/
theorem at_both (s : ByteArray) (o : Int) (hs : s.size ≤ 1073741824) : ∃ a b e : Int, (∀ A c n W, n = (Po.bg s.data.toList).length → Reads W W.heap.size A n (i64s (Po.bg s.data.toList)) → Calls Tryd.prog 12 #[.agg #[.string s, .slice A n c], .int .i64 o] W fun r w' => r = .returned (.tuple #[.int .i64 a, .int .i64 b, .int .i64 e]) ∧ Below W.heap.size W w') ∧
    (∀ W, Calls Tryd.prog 13 #[.string s, .int .i64 o] W fun r w' => r = .returned (.tuple #[.int .i64 a, .int .i64 b, .int .i64 e]) ∧ w' = W) := by
  have hl := Po.bg_len s.data.toList
  have hsl : s.data.toList.length = s.size := by simp
  by_cases h : o < 0 ∨ (s.size : Int) < o
  · exact ⟨0, 0, 2, fun A c n W _ _ => at_bad s A n c o W h, fun W => refat_bad s o W h⟩
  · obtain ⟨k, rfl⟩ : ∃ k : Nat, o = (k : Int) := ⟨o.toNat, by omega⟩
    exact ⟨_, _, 0, fun A c n W hn hr => at_any s A n c k W hr (by omega) hs (by omega), fun W => refat_any s k W (by omega) hs⟩

set_option maxHeartbeats 2000000 in
set_option maxRecDepth 100000 in
theorem law3 (s : ByteArray) (o : Int) (w : World) (_hs : s.size ≤ maxLen) (_ho : (Lit.int .i64 o).wf = true) : Calls Tryd.prog 3 #[.string s, .int .i64 o] w fun e w' => e = .returned (.bool true) ∧ Below w.heap.size w w' := by
  by_cases h : 2000 < s.size
  · go_enter Tryd.func3, Tryd.ntmps3
    go_wp2_with fail
    refine (awake_any _).mono ?_
    rintro e w2 ⟨rfl, hb2⟩
    go_wp2_with fail
    go_ret
    exact ⟨rfl, hb2⟩
  · obtain ⟨a, b, e0, AT, RA⟩ := at_both s o (by omega)
    have hl := Po.bg_len s.data.toList
    have hsl : s.data.toList.length = s.size := by simp
    have CO := Lib.hid (fun A c n W (hn : n = (Po.bg s.data.toList).length) => count_any s A n c W (by omega))
    have RC := Lib.hid (fun W => refcount_any s W (by omega))
    have OF := Lib.hid (of_any s)
    have hAT := Lib.hid AT
    have hRA := Lib.hid RA
    clear AT RA hl hsl
    go_enter Tryd.func3, Tryd.ntmps3
    go_wp2_with fail
    refine (OF.out _ (by omega)).mono ?_
    rintro e w1 ⟨v, rfl, ⟨A, n, c, rfl, hr1, hn1⟩, hb1⟩
    have hbl : n = (Po.bg s.data.toList).length := by have := hr1.1; simp [i64s] at this; exact this.symm
    have HBL := Lib.hid hbl
    clear hbl
    obtain ⟨w2, X, hw2, hX, hb2, hr2, _, _, hcells⟩ := lines_block (c := c) hb1 hr1
    have HW2 := Lib.hid hw2
    have HXX := Lib.hid hX
    have HC := Lib.hid hcells
    clear hw2 hX hcells hr1
    have hd2 : Below w2.heap.size w2 w2 := Below.refl _ _
    go_wp2_with fail
    rw [HW2.out, HXX.out]
    refine (hAT.out A c n _ HBL.out hr2).mono ?_
    rintro e w3 ⟨rfl, hc3⟩
    have hd3 : Below w2.heap.size w2 w3 := hd2.trans (hc3.mono hd2.size)
    go_wp2_with fail
    refine (hRA.out _).mono ?_
    rintro e w' ⟨rfl, rfl⟩
    go_wp2_with fail
    refine (awake_any _).mono ?_
    rintro e w4 ⟨rfl, hc4⟩
    have hd4 : Below w2.heap.size w2 w4 := hd3.trans (hc4.mono hd3.size)
    obtain ⟨p4, q4⟩ := HC.out _ hd4
    go_wp2_with fail
    refine (CO.out A c n _ HBL.out).mono ?_
    rintro e w5 ⟨rfl, hc5⟩
    have hd5 : Below w2.heap.size w2 w5 := hd4.trans (hc5.mono hd4.size)
    go_wp2_with fail
    refine (RC.out _).mono ?_
    rintro e w' ⟨rfl, rfl⟩
    rw [← HBL.out]
    go_wp2_with fail
    go_ret
    exact ⟨rfl, hb2.trans (hd5.mono hb2.size)⟩
end Go.Proofs.YtcjhipcjhgicoaaDoor
