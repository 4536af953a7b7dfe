/- The chapter's examples hold. -/
import Derived.Test.YtcjhipcjhgicoaaDoorWalkK
namespace Go.Proofs.YtcjhipcjhgicoaaDoor
open Go.RowKit Go.Lib

theorem ex_bg : Po.bg (ByteArray.mk #[97, 98, 13, 10, 10, 99]).data.toList = [4, 5] := by decide +kernel
theorem ex_at4 : Po.cnt (ByteArray.mk #[97, 98, 13, 10, 10, 99]).data.toList 4 = 1 ∧ Po.beg (ByteArray.mk #[97, 98, 13, 10, 10, 99]).data.toList 1 = 4 := by decide +kernel
theorem ex_at3 : Po.cnt (ByteArray.mk #[97, 98, 13, 10, 10, 99]).data.toList 3 = 0 ∧ Po.beg (ByteArray.mk #[97, 98, 13, 10, 10, 99]).data.toList 0 = 0 := by decide +kernel
theorem ex_of2 : Po.beg (ByteArray.mk #[97, 98, 13, 10, 10, 99]).data.toList 2 = 5 ∧ Po.fin (ByteArray.mk #[97, 98, 13, 10, 10, 99]).data.toList 2 = 6 := by decide +kernel
theorem ex_line : Po.lineB (ByteArray.mk #[97, 98, 13, 10, 10, 99]) 2 0 = ByteArray.mk #[97, 98] := by decide +kernel
theorem ex_ind : Po.sp (ByteArray.mk #[32, 32, 9, 120]).data.toList = 2 ∧ Po.tab (ByteArray.mk #[32, 32, 9, 120]).data.toList = true := by decide +kernel

theorem exOf (W : World) : Calls Tryd.prog 11 #[.string ⟨#[97, 98, 13, 10, 10, 99]⟩] W fun e w' => ∃ A c, e = .returned (.agg #[.string ⟨#[97, 98, 13, 10, 10, 99]⟩, .slice A 2 c]) ∧ Reads w' w'.heap.size A 2 (i64s (Po.bg (ByteArray.mk #[97, 98, 13, 10, 10, 99]).data.toList)) ∧ Below W.heap.size W w' := by
  refine (of_any _ W (by decide)).mono ?_
  rintro e w' ⟨v, rfl, ⟨A, n, c, rfl, hr, _⟩, hb⟩
  obtain rfl : n = 2 := by have := hr.1; rw [ex_bg] at this; exact this.symm
  exact ⟨A, c, rfl, hr, hb⟩
theorem exAt4 (A : Option Addr) (c : Nat) (W : World) (h : Reads W W.heap.size A 2 (i64s (Po.bg (ByteArray.mk #[97, 98, 13, 10, 10, 99]).data.toList))) :
    Calls Tryd.prog 12 #[.agg #[.string ⟨#[97, 98, 13, 10, 10, 99]⟩, .slice A 2 c], .int .i64 4] W fun e w' => e = .returned (.tuple #[.int .i64 1, .int .i64 0, .int .i64 0]) ∧ Below W.heap.size W w' := by
  have := at_any ⟨#[97, 98, 13, 10, 10, 99]⟩ A 2 c 4 W h (by decide) (by decide) (by decide)
  rw [ex_at4.1, ex_at4.2] at this
  exact this
theorem exAt3 (A : Option Addr) (c : Nat) (W : World) (h : Reads W W.heap.size A 2 (i64s (Po.bg (ByteArray.mk #[97, 98, 13, 10, 10, 99]).data.toList))) :
    Calls Tryd.prog 12 #[.agg #[.string ⟨#[97, 98, 13, 10, 10, 99]⟩, .slice A 2 c], .int .i64 3] W fun e w' => e = .returned (.tuple #[.int .i64 0, .int .i64 3, .int .i64 0]) ∧ Below W.heap.size W w' := by
  have := at_any ⟨#[97, 98, 13, 10, 10, 99]⟩ A 2 c 3 W h (by decide) (by decide) (by decide)
  rw [ex_at3.1, ex_at3.2] at this
  exact this
theorem exOff (A : Option Addr) (c : Nat) (W : World) (h : Reads W W.heap.size A 2 (i64s (Po.bg (ByteArray.mk #[97, 98, 13, 10, 10, 99]).data.toList))) :
    Calls Tryd.prog 16 #[.agg #[.string ⟨#[97, 98, 13, 10, 10, 99]⟩, .slice A 2 c], .int .i64 2, .int .i64 1] W fun e w' => e = .returned (.tuple #[.int .i64 6, .int .i64 0]) ∧ Below W.heap.size W w' := by
  have := offset_some ⟨#[97, 98, 13, 10, 10, 99]⟩ A 2 c 2 1 W h (by decide) (by decide) (by decide)
  rw [ex_of2.1, ex_of2.2, if_neg (by decide)] at this
  exact this
theorem exLine (A : Option Addr) (c : Nat) (W : World) (h : Reads W W.heap.size A 2 (i64s (Po.bg (ByteArray.mk #[97, 98, 13, 10, 10, 99]).data.toList))) :
    Calls Tryd.prog 18 #[.agg #[.string ⟨#[97, 98, 13, 10, 10, 99]⟩, .slice A 2 c], .int .i64 0] W fun e w' => e = .returned (.tuple #[.string ⟨#[97, 98]⟩, .int .i64 0]) ∧ Below W.heap.size W w' := by
  have := line_some ⟨#[97, 98, 13, 10, 10, 99]⟩ A 2 c 0 W h (by decide) (by decide)
  rw [ex_line] at this
  exact this
theorem exInd (W : World) : Calls Tryd.prog 20 #[.string ⟨#[32, 32, 9, 120]⟩] W fun e w' => e = .returned (.tuple #[.int .i64 2, .bool true]) ∧ Below W.heap.size W w' := by
  have := indent_any ⟨#[32, 32, 9, 120]⟩ W (by decide)
  rw [ex_ind.1, ex_ind.2] at this
  exact this
theorem exCount (A : Option Addr) (c : Nat) (W : World) : Calls Tryd.prog 14 #[.agg #[.string ⟨#[97, 98, 13, 10, 10, 99]⟩, .slice A 2 c]] W fun e w' => e = .returned (.int .i64 3) ∧ Below W.heap.size W w' :=
  count_any _ A 2 c W (by decide)

/-- The lines of a source, laid into a block of their own. -/
theorem lines_block {w w1 : World} {s : ByteArray} {A : Option Addr} {n c : Nat} (hb1 : Below w.heap.size w w1) (hr1 : Reads w1 w1.heap.size A n (i64s (Po.bg s.data.toList))) :
    ∃ (w2 : World) (X : Nat), w1.alloc (.cells #[.string s, .slice A n c] 25) = w2 ∧ w1.heap.size = X ∧ Below w.heap.size w w2 ∧ Reads w2 w2.heap.size A n (i64s (Po.bg s.data.toList)) ∧ X < w2.heap.size ∧ w2.heap[X]? = some (.cells #[.string s, .slice A n c] 25 (0, 0)) ∧
      ∀ W, Below w2.heap.size w2 W → W.cell? ⟨X, 0, none⟩ = some (.string s) ∧ W.cell? ⟨X, 1, none⟩ = some (.slice A n c) := by
  refine ⟨_, _, rfl, rfl, hb1.alloc hb1.size _, (hr1.alloc (Nat.le_refl _) _).more (by simp), by simp, heap_alloc_new w1 _, fun W hW => ?_⟩
  have h1 := (hW.block w1.heap.size (by simp)).trans (heap_alloc_new w1 _)
  exact ⟨at_block h1 0 _ rfl, at_block h1 1 _ rfl⟩

set_option maxHeartbeats 4000000 in
set_option maxRecDepth 100000 in
theorem awake_any (w : World) : Calls Tryd.prog 10 #[] w fun e w' => e = .returned (.bool true) ∧ Below w.heap.size w w' := by
  go_enter Tryd.func10, Tryd.ntmps10
  go_wp2_with fail
  refine (exOf _).mono ?_
  rintro e w1 ⟨A, c, rfl, hr1, hb1⟩
  obtain ⟨X, hX⟩ : ∃ X, w1.heap.size = X := ⟨_, rfl⟩
  have h2 : ∃ w2 : World, w1.alloc (.cells #[.string ⟨#[97, 98, 13, 10, 10, 99]⟩, .slice A 2 c] 25) = w2 := ⟨_, rfl⟩
  obtain ⟨w2, hw2⟩ := h2
  have hx2 : w2.heap[X]? = some (.cells #[.string ⟨#[97, 98, 13, 10, 10, 99]⟩, .slice A 2 c] 25 (0, 0)) := by rw [← hw2, ← hX]; exact heap_alloc_new w1 _
  have hb2 : Below w.heap.size w w2 := by rw [← hw2]; exact hb1.alloc hb1.size _
  have hr2 : Reads w2 w2.heap.size A 2 (i64s (Po.bg (ByteArray.mk #[97, 98, 13, 10, 10, 99]).data.toList)) := by rw [← hw2]; exact (hr1.alloc (Nat.le_refl _) _).more (by simp)
  have hlX := lt_of_block hx2
  have HW2 := Lib.hid hw2
  have HXX := Lib.hid hX
  have HX2 := Lib.hid hx2
  clear hr1 hw2 hX hx2
  have CELL : ∀ W, Below w2.heap.size w2 W → W.cell? ⟨X, 0, none⟩ = some (.string ⟨#[97, 98, 13, 10, 10, 99]⟩) ∧ W.cell? ⟨X, 1, none⟩ = some (.slice A 2 c) := fun W hW => by
    have h1 := (hW.block X hlX).trans HX2.out
    exact ⟨at_block h1 0 _ rfl, at_block h1 1 _ rfl⟩
  have HC := Lib.hid CELL
  clear CELL
  go_wp2_with fail
  rw [HW2.out, HXX.out]
  have hd2 : Below w2.heap.size w2 w2 := Below.refl _ _
  refine (exAt4 A c _ hr2).mono ?_
  rintro e w3 ⟨rfl, hc3⟩
  have hd3 : Below w2.heap.size w2 w3 := hd2.trans (hc3.mono hd2.size)
  obtain ⟨p3, q3⟩ := HC.out _ hd3
  go_wp2_with fail
  refine (exAt3 A c _ (hr2.on hd3)).mono ?_
  rintro e w4 ⟨rfl, hc4⟩
  have hd4 : Below w2.heap.size w2 w4 := hd3.trans (hc4.mono hd3.size)
  obtain ⟨p4, q4⟩ := HC.out _ hd4
  go_wp2_with fail
  refine (exOff A c _ (hr2.on hd4)).mono ?_
  rintro e w5 ⟨rfl, hc5⟩
  have hd5 : Below w2.heap.size w2 w5 := hd4.trans (hc5.mono hd4.size)
  obtain ⟨p5, q5⟩ := HC.out _ hd5
  go_wp2_with fail
  refine (exLine A c _ (hr2.on hd5)).mono ?_
  rintro e w6 ⟨rfl, hc6⟩
  have hd6 : Below w2.heap.size w2 w6 := hd5.trans (hc6.mono hd5.size)
  obtain ⟨p6, q6⟩ := HC.out _ hd6
  go_wp2_with fail
  refine (exInd _).mono ?_
  rintro e w7 ⟨rfl, hc7⟩
  have hd7 : Below w2.heap.size w2 w7 := hd6.trans (hc7.mono hd6.size)
  obtain ⟨p7, q7⟩ := HC.out _ hd7
  go_wp2_with fail
  refine (exCount A c _).mono ?_
  rintro e w8 ⟨rfl, hc8⟩
  have hd8 : Below w2.heap.size w2 w8 := hd7.trans (hc8.mono hd7.size)
  obtain ⟨p8, q8⟩ := HC.out _ hd8
  go_wp2_with fail
  go_ret
  exact ⟨rfl, hb2.trans (hd8.mono hb2.size)⟩
end Go.Proofs.YtcjhipcjhgicoaaDoor
