/- The contract of Line. -/
import Derived.Test.YtcjhipcjhgicoaaDoorWalkD
import Derived.Test.YtcjhipcjhgicoaaDoorShelf
namespace Go.Proofs.YtcjhipcjhgicoaaDoor
open Go.RowKit Go.Lib

set_option maxHeartbeats 2000000 in
set_option maxRecDepth 100000 in
theorem line_none (s : ByteArray) (A : Option Addr) (n c : Nat) (line : Int) (w : World) (h : line < 0 ∨ (n : Int) < line) :
    Calls Tryd.prog 18 #[.agg #[.string s, .slice A n c], .int .i64 line] w fun e w' => e = .returned (.tuple #[.string ⟨#[]⟩, .int .i64 9]) ∧ Below w.heap.size w w' := by
  by_cases h0 : line < 0
  · clear h
    go_enter Tryd.func18, Tryd.ntmps18
    go_wp2
    go_ret2
    exact ⟨rfl, (Below.refl _ _).alloc (Nat.le_refl _) _⟩
  · have h1 : (n : Int) < line := by omega
    clear h
    go_enter Tryd.func18, Tryd.ntmps18
    go_wp2
    go_ret2
    exact ⟨rfl, (Below.refl _ _).alloc (Nat.le_refl _) _⟩

/-- A line without its line end. -/
def Po.lineB (s : ByteArray) (n k : Nat) : ByteArray :=
  if k < n then ⟨(Lib.trimSuffix (s.extract (Po.beg s.data.toList k) (Po.fin s.data.toList k)).data.toList [13]).toArray⟩ else s.extract (Po.beg s.data.toList k) (Po.fin s.data.toList k)

set_option maxHeartbeats 2000000 in
set_option maxRecDepth 100000 in
theorem line_some (s : ByteArray) (A : Option Addr) (n c k : Nat) (w : World) (hr : Reads w w.heap.size A n (i64s (Po.bg s.data.toList))) (hk : k ≤ n) (hs : s.size ≤ 1073741824) :
    Calls Tryd.prog 18 #[.agg #[.string s, .slice A n c], .int .i64 (k : Int)] w fun e w' => e = .returned (.tuple #[.string (Po.lineB s n k), .int .i64 0]) ∧ Below w.heap.size w w' := by
  have hsl : s.data.toList.length = s.size := by simp
  have hbl : (Po.bg s.data.toList).length = n := by have := hr.1; simpa [i64s] using this
  have hl0 := Po.bg_len s.data.toList
  have hn9 : n ≤ 1073741824 := by omega
  have hf := Po.fin_le (l := s.data.toList) (k := k) (by omega)
  have hbf := Po.beg_le_fin (l := s.data.toList) (k := k) (by omega)
  have HBE := Lib.hid (fun W (hW : Reads W W.heap.size A n (i64s (Po.bg s.data.toList))) => begin_any s s.data.toList A n c k W hW hk hn9)
  have HEN := Lib.hid (fun W (hW : Reads W W.heap.size A n (i64s (Po.bg s.data.toList))) => end_any s A n c k W hW hk hs)
  rw [hsl] at hf
  have hL : Po.lineB s n k = if k < n then ⟨(Lib.trimSuffix (s.extract (Po.beg s.data.toList k) (Po.fin s.data.toList k)).data.toList [13]).toArray⟩ else s.extract (Po.beg s.data.toList k) (Po.fin s.data.toList k) := rfl
  rw [hL]
  obtain ⟨B, hB⟩ : ∃ B, Po.beg s.data.toList k = B := ⟨_, rfl⟩
  obtain ⟨E, hE⟩ : ∃ E, Po.fin s.data.toList k = E := ⟨_, rfl⟩
  rw [hB] at HBE hbf ⊢
  rw [hE] at HEN hbf hf ⊢
  have hbw : Below w.heap.size w (w.alloc (.cells #[.string s, .slice A n c] 25)) := (Below.refl _ _).alloc (Nat.le_refl _) _
  have hr2' := Lib.hid (hr.on hbw)
  have hX : (w.alloc (.cells #[.string s, .slice A n c] 25)).heap[w.heap.size]? = some (.cells #[.string s, .slice A n c] 25 (0, 0)) := heap_alloc_new w _
  have hk0 : (0 : Int) ≤ k := by omega
  have hkn : (k : Int) ≤ n := by omega
  have hlX := lt_of_block hX
  obtain ⟨w2, hw2⟩ : ∃ w2, w.alloc (.cells #[.string s, .slice A n c] 25) = w2 := ⟨_, rfl⟩
  rw [hw2] at hX hlX hr2' hbw
  have hcells : ∀ W, Below w2.heap.size w2 W → W.cell? ⟨w.heap.size, 0, none⟩ = some (.string s) ∧ W.cell? ⟨w.heap.size, 1, none⟩ = some (.slice A n c) ∧ Below w2.heap.size w2 W := by
    intro W hW
    have h1 := (hW.block w.heap.size hlX).trans hX
    exact ⟨at_block h1 0 _ rfl, at_block h1 1 _ rfl, hW⟩
  have HC := Lib.hid hcells
  have HW2 := Lib.hid hw2
  have hb0 : (0 : Int) ≤ B := by omega
  have hbe : (B : Int) ≤ E := by omega
  have hes : (E : Int) ≤ s.size := by omega
  obtain ⟨T, hT⟩ : ∃ T, s.extract B E = T := ⟨_, rfl⟩
  have hTs : T.size ≤ 9223372036854775807 := by rw [← hT, ByteArray.size_extract]; omega
  have TS := Lib.hid (Tryd.strings_TrimSuffix T ⟨#[13]⟩)
  rw [hT]
  clear hcells hX hw2 hsl hbl hl0 hB hE hL
  by_cases hlt : k < n
  · rw [if_pos hlt]
    have hkl : (k : Int) < n := by omega
    go_enter Tryd.func18, Tryd.ntmps18
    go_wp2_with fail
    rw [HW2.out]
    go_region_held3 (fun W => W.cell? ⟨w.heap.size, 0, none⟩ = some (.string s) ∧ W.cell? ⟨w.heap.size, 1, none⟩ = some (.slice A n c) ∧ Below w2.heap.size w2 W)
      ((refine HC.out _ ?_; first | assumption | exact (Below.refl _ _).drew))
      (first | (go_at_call 24; refine (HBE.out _ (hr2'.out.on (p2_ (by assumption)))).mono ?_; rintro e w7 ⟨rfl, hb7⟩; have hb7' := p2_trans (by assumption) hb7) | (go_at_call 25; refine (HEN.out _ (hr2'.out.on (p2_ (by assumption)))).mono ?_; rintro e w7 ⟨rfl, hb7⟩; have hb7' := p2_trans (by assumption) hb7))
    all_goals
      have hq : Below w2.heap.size w2 w7 := by assumption
      go_wp2_with fail
      refine (TS.out _ hTs).mono ?_
      rintro e w' ⟨rfl, rfl⟩
      go_wp2_with fail
      go_ret2
      exact ⟨rfl, hbw.trans (hq.mono hbw.size)⟩
  · rw [if_neg hlt]
    have hkl : ¬ (k : Int) < n := by omega
    go_enter Tryd.func18, Tryd.ntmps18
    go_wp2_with fail
    rw [HW2.out]
    go_region_held3 (fun W => W.cell? ⟨w.heap.size, 0, none⟩ = some (.string s) ∧ W.cell? ⟨w.heap.size, 1, none⟩ = some (.slice A n c) ∧ Below w2.heap.size w2 W)
      ((refine HC.out _ ?_; first | assumption | exact (Below.refl _ _).drew))
      (first | (go_at_call 24; refine (HBE.out _ (hr2'.out.on (p2_ (by assumption)))).mono ?_; rintro e w7 ⟨rfl, hb7⟩; have hb7' := p2_trans (by assumption) hb7) | (go_at_call 25; refine (HEN.out _ (hr2'.out.on (p2_ (by assumption)))).mono ?_; rintro e w7 ⟨rfl, hb7⟩; have hb7' := p2_trans (by assumption) hb7))
    all_goals
      have hq : Below w2.heap.size w2 w7 := by assumption
      go_wp2_with fail
      go_ret2
      exact ⟨rfl, hbw.trans (hq.mono hbw.size)⟩
end Go.Proofs.YtcjhipcjhgicoaaDoor
