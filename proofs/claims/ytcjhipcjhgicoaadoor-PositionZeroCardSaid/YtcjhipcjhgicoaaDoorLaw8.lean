/- PositionZero: the law's walk. -/
import Derived.Test.YtcjhipcjhgicoaaDoorLaw4
namespace Go.Proofs.YtcjhipcjhgicoaaDoor
open Go.RowKit Go.Lib

theorem zero_reads (W : World) : Reads W W.heap.size none 0 (i64s (Po.bg (ByteArray.mk #[]).data.toList)) := Reads.none_
theorem zeroAt (W : World) : Calls Tryd.prog 12 #[.agg #[.string ⟨#[]⟩, .slice none 0 0], .int .i64 0] W fun e w' => e = .returned (.tuple #[.int .i64 0, .int .i64 0, .int .i64 0]) ∧ Below W.heap.size W w' :=
  at_any ⟨#[]⟩ none 0 0 0 W (zero_reads W) (by decide) (by decide) (by decide)
theorem zeroAt1 (W : World) : Calls Tryd.prog 12 #[.agg #[.string ⟨#[]⟩, .slice none 0 0], .int .i64 1] W fun e w' => e = .returned (.tuple #[.int .i64 0, .int .i64 0, .int .i64 2]) ∧ Below W.heap.size W w' :=
  at_bad ⟨#[]⟩ none 0 0 1 W (by decide)
theorem zeroLine0 (W : World) : Calls Tryd.prog 18 #[.agg #[.string ⟨#[]⟩, .slice none 0 0], .int .i64 0] W fun e w' => e = .returned (.tuple #[.string ⟨#[]⟩, .int .i64 0]) ∧ Below W.heap.size W w' := by
  have := line_some ⟨#[]⟩ none 0 0 0 W (zero_reads W) (by decide) (by decide)
  rw [show Po.lineB ⟨#[]⟩ 0 0 = ⟨#[]⟩ by decide +kernel] at this
  exact this
theorem zeroOff0 (W : World) : Calls Tryd.prog 16 #[.agg #[.string ⟨#[]⟩, .slice none 0 0], .int .i64 0, .int .i64 0] W fun e w' => e = .returned (.tuple #[.int .i64 0, .int .i64 0]) ∧ Below W.heap.size W w' :=
  offset_some ⟨#[]⟩ none 0 0 0 0 W (zero_reads W) (by decide) (by decide) (by decide)
theorem zeroCount (W : World) : Calls Tryd.prog 14 #[.agg #[.string ⟨#[]⟩, .slice none 0 0]] W fun e w' => e = .returned (.int .i64 1) ∧ Below W.heap.size W w' :=
  count_any _ none 0 0 W (by decide)

set_option maxHeartbeats 4000000 in
set_option maxRecDepth 100000 in
theorem law8 (line : Int) (w : World) (_hl : (Lit.int .i64 line).wf = true) : Calls Tryd.prog 8 #[.int .i64 line] w fun e w' => e = .returned (.bool true) ∧ Below w.heap.size w w' := by
  obtain ⟨k, hk, L, O⟩ : ∃ e1 : Int, (line = 0 ∧ e1 = 0 ∨ (line == 0) = false ∧ e1 = 9) ∧
      (∀ W, Calls Tryd.prog 18 #[.agg #[.string ⟨#[]⟩, .slice none 0 0], .int .i64 line] W fun e w' => e = .returned (.tuple #[.string ⟨#[]⟩, .int .i64 e1]) ∧ Below W.heap.size W w') ∧
      (∀ W, Calls Tryd.prog 16 #[.agg #[.string ⟨#[]⟩, .slice none 0 0], .int .i64 line, .int .i64 0] W fun e w' => e = .returned (.tuple #[.int .i64 0, .int .i64 e1]) ∧ Below W.heap.size W w') := by
    by_cases h : line = 0
    · subst h
      exact ⟨0, Or.inl ⟨rfl, rfl⟩, zeroLine0, zeroOff0⟩
    · exact ⟨9, Or.inr ⟨by simpa using h, rfl⟩, fun W => line_none _ none 0 0 line W (by omega), fun W => offset_none _ none 0 0 line 0 W (by omega)⟩
  have hb2 : Below w.heap.size w (w.alloc (.cells #[.string ⟨#[]⟩, .slice none 0 0] 25)) := (Below.refl _ _).alloc (Nat.le_refl _) _
  have hX : (w.alloc (.cells #[.string ⟨#[]⟩, .slice none 0 0] 25)).heap[w.heap.size]? = some (.cells #[.string ⟨#[]⟩, .slice none 0 0] 25 (0, 0)) := heap_alloc_new w _
  have hlX := lt_of_block hX
  obtain ⟨w2, hw2⟩ : ∃ w2, w.alloc (.cells #[.string ⟨#[]⟩, .slice none 0 0] 25) = w2 := ⟨_, rfl⟩
  rw [hw2] at hb2 hX hlX
  have hcells : ∀ W, Below w2.heap.size w2 W → W.cell? ⟨w.heap.size, 0, none⟩ = some (.string ⟨#[]⟩) ∧ W.cell? ⟨w.heap.size, 1, none⟩ = some (.slice none 0 0) := fun W hW => by
    have h1 := (hW.block w.heap.size hlX).trans hX
    exact ⟨at_block h1 0 _ rfl, at_block h1 1 _ rfl⟩
  have HC := Lib.hid hcells
  have HW2 := Lib.hid hw2
  have hL := Lib.hid L
  have hO := Lib.hid O
  have hd2 : Below w2.heap.size w2 w2 := Below.refl _ _
  clear hcells hX hw2 L O
  rcases hk with ⟨rfl, rfl⟩ | ⟨hline, rfl⟩
  all_goals
    go_enter Tryd.func8, Tryd.ntmps8
    go_wp2_with fail
    rw [HW2.out]
    refine (zeroAt _).mono ?_
    rintro e w3 ⟨rfl, hc3⟩
    have hd3 : Below w2.heap.size w2 w3 := hd2.trans (hc3.mono hd2.size)
    obtain ⟨p3, q3⟩ := HC.out _ hd3
    go_wp2_with fail
    refine (zeroAt1 _).mono ?_
    rintro e w4 ⟨rfl, hc4⟩
    have hd4 : Below w2.heap.size w2 w4 := hd3.trans (hc4.mono hd3.size)
    obtain ⟨p4, q4⟩ := HC.out _ hd4
    go_wp2_with fail
    refine (hL.out _).mono ?_
    rintro e w5 ⟨rfl, hc5⟩
    have hd5 : Below w2.heap.size w2 w5 := hd4.trans (hc5.mono hd4.size)
    obtain ⟨p5, q5⟩ := HC.out _ hd5
    go_wp2_with fail
    refine (hO.out _).mono ?_
    rintro e w6 ⟨rfl, hc6⟩
    have hd6 : Below w2.heap.size w2 w6 := hd5.trans (hc6.mono hd5.size)
    go_wp2_with fail
    refine (awake_any _).mono ?_
    rintro e w7 ⟨rfl, hc7⟩
    have hd7 : Below w2.heap.size w2 w7 := hd6.trans (hc7.mono hd6.size)
    obtain ⟨p7, q7⟩ := HC.out _ hd7
    go_wp2_with fail
    refine (zeroCount _).mono ?_
    rintro e w8 ⟨rfl, hc8⟩
    have hd8 : Below w2.heap.size w2 w8 := hd7.trans (hc8.mono hd7.size)
    go_wp2_with fail
    go_ret
    exact ⟨rfl, hb2.trans (hd8.mono hb2.size)⟩
end Go.Proofs.YtcjhipcjhgicoaaDoor
